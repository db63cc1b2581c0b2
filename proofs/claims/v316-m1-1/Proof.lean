import JvmDerived
import JvmDerived.Pilot.@@N@@Statement
import JvmDerived.Pilot.@@N@@Code
set_option linter.unusedVariables false
set_option linter.unusedSimpArgs false
@@BLOCK:NumsL.lean.txt@@
namespace Jvm.RoadKit
open Sem ClassFile Op Lib Jvm.Stand Jvm.Free Jvm.LawKit
section New
variable {p : Program} {l : Launch} {e : Env} {R : Room} {s : State} {m : MethodId} {args : Array Value} {below : List Frame} {meth : Method} {c : Code} {T : State} {locs : List Loc} {cells slots : Nat}
theorem retI (X : Stand p l e R s m args below meth c T locs cells slots) (hx : p.tables.exec = Jvm.exec) {pc : Nat} {Ls : Array Slot} {z : Int32} {rest : List Value} (hret : meth.sig.returnType = some .int) (hd : decode c.code pc = .ok (.ireturn, 1)) {fs : List Frame}
    (hl : ∀ (f : JFrame) (acts : List Action), f.method = m → f.locked = none → f.entered = [] → (doReturn e (T.setTop f) acts (some (.int z))).1 = T.setFrames fs) : Steps p.tables e below (T.setTop (mkF m pc Ls (.int z :: rest))) (T.setFrames fs) := by
  have hm' : T.vm.method? m = some meth := X.method'
  have hn : narrow .int (.int z) = .int z := rfl
  show Steps p.tables e below (T.setTop { method := m, pc := pc, locals := Ls, stack := _ :: rest, locked := none }) _
  jvm_step X.here [X.here.top, hx, hd, hm', hret, hn]
  first | (intro acts; rw [hl _ acts rfl rfl rfl]) | rw [hl _ _ rfl rfl rfl]
  exact Steps.refl _
end New
end Jvm.RoadKit
namespace Jvm.Pilot.@@N@@
open Jvm Jvm.ClassFile Sem Op Lib Jvm.Free Jvm.Stand Jvm.LawKit Jvm.RoadKit Bundle Jvm.Pilot.@@N@@.Jvm.D
theorem own_eqI {args : Array Value} {s : State} {a : Term} {k : Int32} (h : (Cond.eq a (.int k)).value args s none s [] = some true) : a.eval args s none [] s = some (.int k) := by
  obtain ⟨x, y, hx, hy, k1, k2⟩ := cmp_v (Or.inl h)
  obtain rfl : Value.int k = y := Option.some.inj ((Term.int_eval k).symm.trans hy)
  obtain ⟨z, rfl⟩ : ∃ z, x = .int z := k2
  have hz : z = k := gotT (Cond.eq_ints hx hy) h
  rw [hz] at hx; exact hx
theorem own_eqR {args : Array Value} {s : State} {a b : Term} {y : Addr} (hb : b.eval args s none [] s = some (.ref y)) (h : (Cond.eq a b).value args s none s [] = some true) : a.eval args s none [] s = some (.ref y) := by
  obtain ⟨x, y', hx, hy, k1, k2⟩ := cmp_v (Or.inl h)
  obtain rfl : Value.ref y = y' := Option.some.inj (hb.symm.trans hy)
  have hr : x.isRef = true := k2.2
  have hz : x = .ref y := gotT (eq_R hx hy hr rfl) h
  rw [hz] at hx; exact hx
theorem own_z {Z : State} {n0 : Nat} {h : Heap} (O : Old Z n0 h) : n0 ≤ h.size := O.1 ▸ O.2.1
theorem own_len {args : Array Value} {s : State} {t : Term} {x : Addr} {cl : Cell} {ty : FieldType} {n : Int32} (ev : t.eval args s none [] s = some (.ref x)) (A : Arr s s.heap x cl ty) (h : (Term.length t).eval args s none [] s = some (.int n)) : cl.slots.size < 2 ^ 31 ∧ cl.slots.size.toInt32 = n := by
  have ha : s.arrayAt? x = some cl := IntBox.arrayAt_of A.1 A.2.1 A.2.2
  simpa [Term.eval, ev, ha] using h
theorem own_elem {args : Array Value} {s : State} {t : Term} {x : Addr} {cl : Cell} {ty : FieldType} {j : Int32} {v : Value} {i : Nat} (ev : t.eval args s none [] s = some (.ref x)) (A : Arr s s.heap x cl ty) (h : (Term.elem t (.int j)).eval args s none [] s = some v) (hi : j.toNatClampNeg = i) : cl.slots[i]? = some v := by
  have q := (elem_in h ev (Term.int_eval j) A.1).2
  rw [hi] at q; exact q
def own_ws : List Jvm.Cond := tables_1
theorem gw (i : Nat) {d : Jvm.Cond} (h : own_ws[i]? = some d) : d ∈ own_ws := List.mem_of_getElem? h
theorem own_mod17 {y x : Int32} (h : y = x &&& 2147483647) : y % 17 = 0 ∨ y % 17 = 1 ∨ y % 17 = 2 ∨ y % 17 = 3 ∨ y % 17 = 4 ∨ y % 17 = 5 ∨ y % 17 = 6 ∨ y % 17 = 7 ∨ y % 17 = 8 ∨ y % 17 = 9 ∨ y % 17 = 10 ∨ y % 17 = 11 ∨ y % 17 = 12 ∨ y % 17 = 13 ∨ y % 17 = 14 ∨ y % 17 = 15 ∨ y % 17 = 16 := by
  subst h
  have h := Jvm.Kit.i32_mask x 2147483647 (k := 31) (by decide) (by decide +kernel)
  have hn : (17 : Int32).toInt = 17 := by decide +kernel
  have h2 : ((x &&& 2147483647) % 17).toInt = (x &&& 2147483647).toInt % 17 := by rw [Jvm.Kit.i32_rem_nonneg (by omega), hn]
  have e0 : (0 : Int32).toInt = 0 := by decide +kernel
  have e1 : (1 : Int32).toInt = 1 := by decide +kernel
  have e2 : (2 : Int32).toInt = 2 := by decide +kernel
  have e3 : (3 : Int32).toInt = 3 := by decide +kernel
  have e4 : (4 : Int32).toInt = 4 := by decide +kernel
  have e5 : (5 : Int32).toInt = 5 := by decide +kernel
  have e6 : (6 : Int32).toInt = 6 := by decide +kernel
  have e7 : (7 : Int32).toInt = 7 := by decide +kernel
  have e8 : (8 : Int32).toInt = 8 := by decide +kernel
  have e9 : (9 : Int32).toInt = 9 := by decide +kernel
  have e10 : (10 : Int32).toInt = 10 := by decide +kernel
  have e11 : (11 : Int32).toInt = 11 := by decide +kernel
  have e12 : (12 : Int32).toInt = 12 := by decide +kernel
  have e13 : (13 : Int32).toInt = 13 := by decide +kernel
  have e14 : (14 : Int32).toInt = 14 := by decide +kernel
  have e15 : (15 : Int32).toInt = 15 := by decide +kernel
  have e16 : (16 : Int32).toInt = 16 := by decide +kernel
  simp only [← Int32.toInt_inj, e0, e1, e2, e3, e4, e5, e6, e7, e8, e9, e10, e11, e12, e13, e14, e15, e16]
  omega
abbrev C_0 : String := "com/example/ringstead/ringstead/node/Wire$Call"
abbrev C_1 : String := "Lcom/example/ringstead/ringstead/node/Wire$Call;"
theorem d1_0 : decode prog_70_method_5_code 0 = .ok (.iload_n 0, 1) := by decide +kernel
theorem d1_1 : decode prog_70_method_5_code 1 = .ok (.ifCond .lt 11, 3) := by decide +kernel
theorem d1_4 : decode prog_70_method_5_code 4 = .ok (.iload_n 0, 1) := by decide +kernel
theorem d1_5 : decode prog_70_method_5_code 5 = .ok (.getstatic 78, 3) := by decide +kernel
abbrev C_2 : String := "[Lcom/example/ringstead/ringstead/node/Wire$Call;"
theorem d1_8 : decode prog_70_method_5_code 8 = .ok (.arraylength, 1) := by decide +kernel
theorem d1_9 : decode prog_70_method_5_code 9 = .ok (.if_icmp .lt 17, 3) := by decide +kernel
theorem d1_26 : decode prog_70_method_5_code 26 = .ok (.getstatic 78, 3) := by decide +kernel
theorem d1_29 : decode prog_70_method_5_code 29 = .ok (.iload_n 0, 1) := by decide +kernel
theorem d1_30 : decode prog_70_method_5_code 30 = .ok (.aaload, 1) := by decide +kernel
theorem d1_31 : decode prog_70_method_5_code 31 = .ok (.areturn, 1) := by decide +kernel
abbrev M_0 : MethodName := ⟨"com/example/ringstead/ringstead/node/Wire$Call", "of", "(I)Lcom/example/ringstead/ringstead/node/Wire$Call;"⟩
theorem pn_0 : plainName "com/example/ringstead/ringstead/node/Wire$Call" = true := by first | (simp [plainName, overriddenIn]; done) | decide +kernel
theorem pd_0 : parseMethodDescriptor "(I)Lcom/example/ringstead/ringstead/node/Wire$Call;" = some ⟨[.int], some (.object "com/example/ringstead/ringstead/node/Wire$Call")⟩ := by decide +kernel
theorem d2_0 : decode prog_70_method_4_code 0 = .ok (.aload_n 0, 1) := by decide +kernel
theorem d2_1 : decode prog_70_method_4_code 1 = .ok (.invokevirtual 74, 3) := by decide +kernel
theorem d3_0 : decode jdk_37_method_2_code 0 = .ok (.aload_n 0, 1) := by decide +kernel
theorem d3_1 : decode jdk_37_method_2_code 1 = .ok (.getfield 7, 3) := by decide +kernel
abbrev C_3 : String := "java/lang/Enum"
theorem d3_4 : decode jdk_37_method_2_code 4 = .ok (.ireturn, 1) := by decide +kernel
abbrev M_1 : MethodName := ⟨"java/lang/Enum", "ordinal", "()I"⟩
theorem pn_1 : plainName "java/lang/Enum" = true := by first | (simp [plainName, overriddenIn]; done) | decide +kernel
theorem pd_1 : parseMethodDescriptor "()I" = some ⟨[], some .int⟩ := by decide +kernel
abbrev M_2 : MethodName := ⟨"com/example/ringstead/ringstead/node/Wire$Call", "ordinal", "()I"⟩
theorem d2_4 : decode prog_70_method_4_code 4 = .ok (.ireturn, 1) := by decide +kernel
abbrev M_3 : MethodName := ⟨"com/example/ringstead/ringstead/node/Wire$Call", "code", "()I"⟩
theorem pn_2 : plainName "com/example/ringstead/ringstead/node/CallOfPinLaw" = true := by first | (simp [plainName, overriddenIn]; done) | decide +kernel
theorem ef_rm1_2 (m : MethodId)  : entryFrame m #[(.int (0 : Int32))] 1 = mkF m 0 #[.val (.int (0 : Int32))] [] := by first | (simp [entryFrame, mkF, argsToLocals, Value.category]; done) | rfl
def Q1_2 (Z : State) (a1 : Addr) (a4 : Addr) (a5 : Addr) (a6 : Addr) (a7 : Addr) (a8 : Addr) (a9 : Addr) (a10 : Addr) (a11 : Addr) (a12 : Addr) (a13 : Addr) (a14 : Addr) (a15 : Addr) (a16 : Addr) (a17 : Addr) (a18 : Addr) (a19 : Addr) (a20 : Addr) (k21 : ClassId) (h0 : Heap) (n0 : Nat) (v : Option Value) (h : Heap) (L : List Loc) : Prop := (v = some (.ref a4) ∧ Fr n0 L ∧ h = h0)
set_option maxRecDepth 65536 in
set_option maxHeartbeats 40000000 in
theorem rm1_2 (l : Launch) (Z : State) (a0 : Array Value) (hw : ∀ d ∈ own_ws, d.before a0 Z = true) (ws : List Jvm.Cond) (a1 : Addr) (a4 : Addr) (a5 : Addr) (a6 : Addr) (a7 : Addr) (a8 : Addr) (a9 : Addr) (a10 : Addr) (a11 : Addr) (a12 : Addr) (a13 : Addr) (a14 : Addr) (a15 : Addr) (a16 : Addr) (a17 : Addr) (a18 : Addr) (a19 : Addr) (a20 : Addr) (k21 : ClassId) (h0 : Heap) (n0 : Nat) (O0 : Old Z n0 h0) (S_2 : Sta Z Z.heap C_0 "BY_CODE" C_2 (.ref a1)) (V22 : Arv Z Z.heap a1 k21 (.object "com/example/ringstead/ringstead/node/Wire$Call") (17 : Int32) [(.ref a4), (.ref a5), (.ref a6), (.ref a7), (.ref a8), (.ref a9), (.ref a10), (.ref a11), (.ref a12), (.ref a13), (.ref a14), (.ref a15), (.ref a16), (.ref a17), (.ref a18), (.ref a19), (.ref a20)] .null) :
    MetFree l M_0 (head1 (Jvm.Cond.code M_0 prog_70_method_5_code 1 (some (.object "com/example/ringstead/ringstead/node/Wire$Call")) :: ws) ({ frames := 0, cells := 0, slots := 0, locals := 0 } : Room)) (fun a U => a = #[(.int (0 : Int32))] ∧ Z.Warmed39 U.vm ∧ U.heap = h0) (fun _ _ _ _ _ => True) (fun _ U o U' => ∃ v L, o = .returned v ∧ Q1_2 Z a1 a4 a5 a6 a7 a8 a9 a10 a11 a12 a13 a14 a15 a16 a17 a18 a19 a20 k21 h0 n0 v U'.heap L ∧ FrameEnd U o U' L ({ frames := 0, cells := 0, slots := 0, locals := 0 } : Room).cells ({ frames := 0, cells := 0, slots := 0, locals := 0 } : Room).slots) := by
  refine MetFree.of_bodySF (plainFor_of_name pn_0) hisR ?_
  intro p e s m args below meth c s₁ Bd hml0 hP hK
  obtain ⟨rfl, hZ, hh⟩ := hP
  have hx := Bd.exec
  have hby := Bd.bytes
  have hml : c.maxLocals = 1 := hml0
  have hown : s.vm.findClass "com/example/ringstead/ringstead/node/Wire$Call" = some m.cls := findClass_of_methodNamed Bd.named
  have hnm := (name_of_methodNamed Bd.named Bd.method).1
  have X0 : Stand p l e ({ frames := 0, cells := 0, slots := 0, locals := 0 } : Room) s m #[(.int (0 : Int32))] below meth c s₁ [] 0 0 := Stand.of_body Bd
  have e0 : s₁.heap = h0 := by rw [← hh, Bd.state]; rfl
  have N0 := Fr.nil n0
  have pre0 : ∀ t, Steps p.tables e below (s₁.setTop (mkF m 0 #[.val (.int (0 : Int32))] [])) t → Steps p.tables e below (s₁.setTop (entryFrame m #[(.int (0 : Int32))] 1)) t := fun t k => castTop (ef_rm1_2 m ) k
  obtain ⟨T3, X3, e3, st3⟩ := getS2 X0 hx hZ hown (host := "") (Or.inl (hw _ (gw 42 rfl))) Via.refl e0 (Sta.ext O0.2 S_2) (g := (mkF m 5 #[.val (.int (0 : Int32))] [(.int (0 : Int32))])) rfl (hb hby d1_5)
  obtain ⟨cl23, Ar23, -, Sz23, Nn23, -, -⟩ := id (V22.ext O0.2)
  obtain ⟨T24, X24, e24, st24⟩ := getS2 X3 hx hZ hown (host := "") (Or.inl (hw _ (gw 42 rfl))) Via.refl e3 (Sta.ext O0.2 S_2) (g := (mkF m 26 #[.val (.int (0 : Int32))] [])) rfl (hb hby d1_26)
  obtain ⟨cl25, Ar25, -, Sz25, -, Hh25, -⟩ := id (V22.ext O0.2)
  have hin25 : ¬ ((0 : Int32) < 0 ∨ cl25.slots.size ≤ ((0 : Int32)).toNatClampNeg) := inb_of Sz25 ⟨by decide +kernel, by decide +kernel⟩
  have hat25 : cl25.slots[((0 : Int32)).toNatClampNeg]? = some (.ref a4) := Has.at Hh25 hin25 rfl
  obtain ⟨fs, hr, hrun, hended, hW, hsame⟩ := X24.leave (v := some (.ref a4)) (fun h => by rw [Bd.returns] at h; cases h)
  refine ⟨_, _, pre0 _ ?_, hrun, hended, _, _, rfl, ?_, ⟨_, rfl⟩, hW, hsame.mono (by decide) (by decide)⟩
  · show Steps p.tables e below (s₁.setTop (mkF m 0 #[.val (.int (0 : Int32))] [])) _
    refine XS.iloadN X0.here hx rfl (hb hby d1_0) rfl ?_
    refine XS.ifNo X0.here hx rfl (hb hby d1_1) rfl ((if0 _ _).trans (flt (by decide +kernel : ¬ ((0 : Int32) < (0 : Int32)))).1) ?_
    refine XS.iloadN X0.here hx rfl (hb hby d1_4) rfl ?_
    refine st3 _ ?_
    refine X3.arraylength hx (by rw [e3]; exact Ar23.1) (State.isArrayOf_alike hZ.alike Ar23.2.1) (g := (mkF m 8 #[.val (.int (0 : Int32))] [(.ref a1), (.int (0 : Int32))])) rfl rfl (hb hby d1_8) _ ?_
    rw [len_of Sz23 Nn23]
    refine XS.icmpYes X3.here hx rfl (pc0 := 9) (pc' := 26) rfl (hb hby d1_9) rfl (tlt (by decide +kernel : (0 : Int32) < (17 : Int32))).1 (by decide) (by decide) ?_
    refine st24 _ ?_
    refine XS.iloadN X24.here hx rfl (hb hby d1_29) rfl ?_
    refine X24.aaload hx (j := (0 : Int32)) (v := (.ref a4)) (by rw [e24]; exact Ar25.1) (State.isArrayOf_alike hZ.alike Ar25.2.1) rfl Ar25.2.2 hin25 hat25 (g := (mkF m 30 #[.val (.int (0 : Int32))] [(.int (0 : Int32)), (.ref a1)])) rfl rfl (hb hby d1_30) _ ?_
    show Steps p.tables e below (T24.setTop (mkF m 31 #[.val (.int (0 : Int32))] [(.ref a4)])) _
    jvm_step X24.here [X24.here.top, hx, (hb hby d1_31), X24.method', Bd.returns, Value.isRef, FieldType.isReference]
    first | (intro acts; rw [hr _ acts rfl rfl rfl]) | rw [hr _ _ rfl rfl rfl]
    exact Steps.refl _
  · show Q1_2 Z _ _ _ _ _ _ _ _ _ _ _ _ _ _ _ _ _ _ _ h0 n0 _ T24.heap _
    rw [e24]
    exact ⟨rfl, N0, rfl⟩
theorem ef_rm3_4 (m : MethodId) (x0 : Addr) : entryFrame m #[(.ref x0)] 1 = mkF m 0 #[.val (.ref x0)] [] := by first | (simp [entryFrame, mkF, argsToLocals, Value.category]; done) | rfl
def Q3_4 (Z : State) (a1 : Addr) (h0 : Heap) (n0 : Nat) (v : Option Value) (h : Heap) (L : List Loc) : Prop := (v = some (.int (0 : Int32)) ∧ Fr n0 L ∧ h = h0)
set_option maxRecDepth 65536 in
set_option maxHeartbeats 40000000 in
theorem rm3_4 (l : Launch) (Z : State) (a0 : Array Value) (hw : ∀ d ∈ own_ws, d.before a0 Z = true) (ws : List Jvm.Cond) (a1 : Addr) (h0 : Heap) (n0 : Nat) (O0 : Old Z n0 h0) (F2 : Fld Z Z.heap a1 C_3 "ordinal" "I" (.int (0 : Int32))) :
    MetFree l M_1 (head1 (Jvm.Cond.code M_1 jdk_37_method_2_code 1 (some .int) :: ws) ({ frames := 0, cells := 0, slots := 0, locals := 0 } : Room)) (fun a U => a = #[(.ref a1)] ∧ Z.Warmed39 U.vm ∧ U.heap = h0) (fun _ _ _ _ _ => True) (fun _ U o U' => ∃ v L, o = .returned v ∧ Q3_4 Z a1 h0 n0 v U'.heap L ∧ FrameEnd U o U' L ({ frames := 0, cells := 0, slots := 0, locals := 0 } : Room).cells ({ frames := 0, cells := 0, slots := 0, locals := 0 } : Room).slots) := by
  refine MetFree.of_bodySF (plainFor_of_name pn_1) hisR ?_
  intro p e s m args below meth c s₁ Bd hml0 hP hK
  obtain ⟨rfl, hZ, hh⟩ := hP
  have hx := Bd.exec
  have hby := Bd.bytes
  have hml : c.maxLocals = 1 := hml0
  have hown : s.vm.findClass "java/lang/Enum" = some m.cls := findClass_of_methodNamed Bd.named
  have hnm := (name_of_methodNamed Bd.named Bd.method).1
  have X0 : Stand p l e ({ frames := 0, cells := 0, slots := 0, locals := 0 } : Room) s m #[(.ref a1)] below meth c s₁ [] 0 0 := Stand.of_body Bd
  have e0 : s₁.heap = h0 := by rw [← hh, Bd.state]; rfl
  have N0 := Fr.nil n0
  have pre0 : ∀ t, Steps p.tables e below (s₁.setTop (mkF m 0 #[.val (.ref a1)] [])) t → Steps p.tables e below (s₁.setTop (entryFrame m #[(.ref a1)] 1)) t := fun t k => castTop (ef_rm3_4 m a1) k
  obtain ⟨T3, X3, e3, st3⟩ := getF X0 hx hZ hown (host := "") (Or.inl (hw _ (gw 56 rfl))) Via.refl e0 (Fld.ext O0.2 F2) (g := (mkF m 1 #[.val (.ref a1)] [(.ref a1)])) rfl rfl (hb hby d3_1)
  obtain ⟨fs, hr, hrun, hended, hW, hsame⟩ := X3.leave (v := some (.int (0 : Int32))) (fun h => by rw [Bd.returns] at h; cases h)
  refine ⟨_, _, pre0 _ ?_, hrun, hended, _, _, rfl, ?_, ⟨_, rfl⟩, hW, hsame.mono (by decide) (by decide)⟩
  · show Steps p.tables e below (s₁.setTop (mkF m 0 #[.val (.ref a1)] [])) _
    refine XS.aloadN X0.here hx rfl (hb hby d3_0) rfl rfl ?_
    refine st3 _ ?_
    show Steps p.tables e below (T3.setTop (mkF m 4 #[.val (.ref a1)] [(.int (0 : Int32))])) _
    exact retI X3 hx Bd.returns (hb hby d3_4) hr
  · show Q3_4 Z _ h0 n0 _ T3.heap _
    rw [e3]
    exact ⟨rfl, N0, rfl⟩
theorem ef_rm2_3 (m : MethodId) (x0 : Addr) : entryFrame m #[(.ref x0)] 1 = mkF m 0 #[.val (.ref x0)] [] := by first | (simp [entryFrame, mkF, argsToLocals, Value.category]; done) | rfl
def Q2_3 (Z : State) (a1 : Addr) (h0 : Heap) (n0 : Nat) (v : Option Value) (h : Heap) (L : List Loc) : Prop := (v = some (.int (0 : Int32)) ∧ Fr n0 L ∧ h = h0)
set_option maxRecDepth 65536 in
set_option maxHeartbeats 40000000 in
theorem rm2_3 (l : Launch) (Z : State) (a0 : Array Value) (hw : ∀ d ∈ own_ws, d.before a0 Z = true) (ws : List Jvm.Cond) (a1 : Addr) (h0 : Heap) (n0 : Nat) (O0 : Old Z n0 h0) (E_2 : Exa Z Z.heap a1 C_0) (F3 : Fld Z Z.heap a1 C_3 "ordinal" "I" (.int (0 : Int32))) :
    MetFree l M_3 (head1 (Jvm.Cond.code M_3 prog_70_method_4_code 1 (some .int) :: ws) ({ frames := 1, cells := 0, slots := 0, locals := 12 } : Room)) (fun a U => a = #[(.ref a1)] ∧ Z.Warmed39 U.vm ∧ U.heap = h0) (fun _ _ _ _ _ => True) (fun _ U o U' => ∃ v L, o = .returned v ∧ Q2_3 Z a1 h0 n0 v U'.heap L ∧ FrameEnd U o U' L ({ frames := 1, cells := 0, slots := 0, locals := 12 } : Room).cells ({ frames := 1, cells := 0, slots := 0, locals := 12 } : Room).slots) := by
  refine MetFree.of_bodySF (plainFor_of_name pn_0) hisR ?_
  intro p e s m args below meth c s₁ Bd hml0 hP hK
  obtain ⟨rfl, hZ, hh⟩ := hP
  have hx := Bd.exec
  have hby := Bd.bytes
  have hml : c.maxLocals = 1 := hml0
  have hown : s.vm.findClass "com/example/ringstead/ringstead/node/Wire$Call" = some m.cls := findClass_of_methodNamed Bd.named
  have hnm := (name_of_methodNamed Bd.named Bd.method).1
  have X0 : Stand p l e ({ frames := 1, cells := 0, slots := 0, locals := 12 } : Room) s m #[(.ref a1)] below meth c s₁ [] 0 0 := Stand.of_body Bd
  have e0 : s₁.heap = h0 := by rw [← hh, Bd.state]; rfl
  have N0 := Fr.nil n0
  have pre0 : ∀ t, Steps p.tables e below (s₁.setTop (mkF m 0 #[.val (.ref a1)] [])) t → Steps p.tables e below (s₁.setTop (entryFrame m #[(.ref a1)] 1)) t := fun t k => castTop (ef_rm2_3 m a1) k
  obtain ⟨cq4, kq4, q4a, q4b, q4c⟩ := isOf hZ e0 (Exa.ext O0.2 E_2)
  obtain ⟨_, _, ⟨T4, L4, k4, n4⟩, -, X4, ⟨Lc4, hQ4, l4, y4, z4⟩, st4⟩ := X0.virtualBackUp hx (owner := "java/lang/Enum") (x := M_2) (y := M_1) hown (mvT hZ (hw _ (gw 49 rfl))) (mvT hZ (hw _ (gw 50 rfl))) (mvT hZ (hw _ (gw 51 rfl))) (by decide) (mvT hZ (hw _ (gw 53 rfl))) (mvT hZ (hw _ (gw 52 rfl))) (backOf (W := 0) (rm3_4 l Z a0 hw [] a1 h0 n0  O0 F3) hZ (hw _ (gw 55 rfl)) (hw _ (gw 54 rfl)) (by decide) (by decide)) q4a q4c (g := (mkF m 1 #[.val (.ref a1)] [(.ref a1)])) rfl (by rw [hml]; rfl) (Steps.refl _) (argsL := []) (rest := []) (lenOf pd_1 rfl) rfl (by show 2 * 0 + _ ≤ _; exact Nat.le_of_eq rfl) (hb hby d2_1) (fun _ _ => ⟨rfl, e0, (by decide : 0 + 0 ≤ _), (by decide : 0 + 0 ≤ _)⟩)
  dsimp only [Pt.U, Pt.locs, Pt.cells, Pt.slots] at X4 l4 y4 z4 st4 hQ4
  subst l4 y4 z4
  obtain ⟨rfl, u6, u7⟩ := hQ4
  have N4 := Fr.app N0 u6
  obtain ⟨fs, hr, hrun, hended, hW, hsame⟩ := X4.leave (v := some (.int (0 : Int32))) (fun h => by rw [Bd.returns] at h; cases h)
  refine ⟨_, _, pre0 _ ?_, hrun, hended, _, _, rfl, ?_, ⟨_, rfl⟩, hW, hsame.mono (by decide) (by decide)⟩
  · show Steps p.tables e below (s₁.setTop (mkF m 0 #[.val (.ref a1)] [])) _
    refine XS.aloadN X0.here hx rfl (hb hby d2_0) rfl rfl ?_
    refine st4.trans ?_
    show Steps p.tables e below (T4.setTop (mkF m 4 #[.val (.ref a1)] [(.int (0 : Int32))])) _
    exact retI X4 hx Bd.returns (hb hby d2_4) hr
  · show Q2_3 Z _ h0 n0 _ T4.heap _
    rw [u7]
    exact ⟨rfl, N4, rfl⟩
theorem ef_rm1_5 (m : MethodId)  : entryFrame m #[(.int (1 : Int32))] 1 = mkF m 0 #[.val (.int (1 : Int32))] [] := by first | (simp [entryFrame, mkF, argsToLocals, Value.category]; done) | rfl
def Q1_5 (Z : State) (a1 : Addr) (a4 : Addr) (a5 : Addr) (a6 : Addr) (a7 : Addr) (a8 : Addr) (a9 : Addr) (a10 : Addr) (a11 : Addr) (a12 : Addr) (a13 : Addr) (a14 : Addr) (a15 : Addr) (a16 : Addr) (a17 : Addr) (a18 : Addr) (a19 : Addr) (a20 : Addr) (k21 : ClassId) (h0 : Heap) (n0 : Nat) (v : Option Value) (h : Heap) (L : List Loc) : Prop := (v = some (.ref a5) ∧ Fr n0 L ∧ h = h0)
set_option maxRecDepth 65536 in
set_option maxHeartbeats 40000000 in
theorem rm1_5 (l : Launch) (Z : State) (a0 : Array Value) (hw : ∀ d ∈ own_ws, d.before a0 Z = true) (ws : List Jvm.Cond) (a1 : Addr) (a4 : Addr) (a5 : Addr) (a6 : Addr) (a7 : Addr) (a8 : Addr) (a9 : Addr) (a10 : Addr) (a11 : Addr) (a12 : Addr) (a13 : Addr) (a14 : Addr) (a15 : Addr) (a16 : Addr) (a17 : Addr) (a18 : Addr) (a19 : Addr) (a20 : Addr) (k21 : ClassId) (h0 : Heap) (n0 : Nat) (O0 : Old Z n0 h0) (S_2 : Sta Z Z.heap C_0 "BY_CODE" C_2 (.ref a1)) (V22 : Arv Z Z.heap a1 k21 (.object "com/example/ringstead/ringstead/node/Wire$Call") (17 : Int32) [(.ref a4), (.ref a5), (.ref a6), (.ref a7), (.ref a8), (.ref a9), (.ref a10), (.ref a11), (.ref a12), (.ref a13), (.ref a14), (.ref a15), (.ref a16), (.ref a17), (.ref a18), (.ref a19), (.ref a20)] .null) :
    MetFree l M_0 (head1 (Jvm.Cond.code M_0 prog_70_method_5_code 1 (some (.object "com/example/ringstead/ringstead/node/Wire$Call")) :: ws) ({ frames := 0, cells := 0, slots := 0, locals := 0 } : Room)) (fun a U => a = #[(.int (1 : Int32))] ∧ Z.Warmed39 U.vm ∧ U.heap = h0) (fun _ _ _ _ _ => True) (fun _ U o U' => ∃ v L, o = .returned v ∧ Q1_5 Z a1 a4 a5 a6 a7 a8 a9 a10 a11 a12 a13 a14 a15 a16 a17 a18 a19 a20 k21 h0 n0 v U'.heap L ∧ FrameEnd U o U' L ({ frames := 0, cells := 0, slots := 0, locals := 0 } : Room).cells ({ frames := 0, cells := 0, slots := 0, locals := 0 } : Room).slots) := by
  refine MetFree.of_bodySF (plainFor_of_name pn_0) hisR ?_
  intro p e s m args below meth c s₁ Bd hml0 hP hK
  obtain ⟨rfl, hZ, hh⟩ := hP
  have hx := Bd.exec
  have hby := Bd.bytes
  have hml : c.maxLocals = 1 := hml0
  have hown : s.vm.findClass "com/example/ringstead/ringstead/node/Wire$Call" = some m.cls := findClass_of_methodNamed Bd.named
  have hnm := (name_of_methodNamed Bd.named Bd.method).1
  have X0 : Stand p l e ({ frames := 0, cells := 0, slots := 0, locals := 0 } : Room) s m #[(.int (1 : Int32))] below meth c s₁ [] 0 0 := Stand.of_body Bd
  have e0 : s₁.heap = h0 := by rw [← hh, Bd.state]; rfl
  have N0 := Fr.nil n0
  have pre0 : ∀ t, Steps p.tables e below (s₁.setTop (mkF m 0 #[.val (.int (1 : Int32))] [])) t → Steps p.tables e below (s₁.setTop (entryFrame m #[(.int (1 : Int32))] 1)) t := fun t k => castTop (ef_rm1_5 m ) k
  obtain ⟨T3, X3, e3, st3⟩ := getS2 X0 hx hZ hown (host := "") (Or.inl (hw _ (gw 42 rfl))) Via.refl e0 (Sta.ext O0.2 S_2) (g := (mkF m 5 #[.val (.int (1 : Int32))] [(.int (1 : Int32))])) rfl (hb hby d1_5)
  obtain ⟨cl23, Ar23, -, Sz23, Nn23, -, -⟩ := id (V22.ext O0.2)
  obtain ⟨T24, X24, e24, st24⟩ := getS2 X3 hx hZ hown (host := "") (Or.inl (hw _ (gw 42 rfl))) Via.refl e3 (Sta.ext O0.2 S_2) (g := (mkF m 26 #[.val (.int (1 : Int32))] [])) rfl (hb hby d1_26)
  obtain ⟨cl25, Ar25, -, Sz25, -, Hh25, -⟩ := id (V22.ext O0.2)
  have hin25 : ¬ ((1 : Int32) < 0 ∨ cl25.slots.size ≤ ((1 : Int32)).toNatClampNeg) := inb_of Sz25 ⟨by decide +kernel, by decide +kernel⟩
  have hat25 : cl25.slots[((1 : Int32)).toNatClampNeg]? = some (.ref a5) := Has.at Hh25 hin25 rfl
  obtain ⟨fs, hr, hrun, hended, hW, hsame⟩ := X24.leave (v := some (.ref a5)) (fun h => by rw [Bd.returns] at h; cases h)
  refine ⟨_, _, pre0 _ ?_, hrun, hended, _, _, rfl, ?_, ⟨_, rfl⟩, hW, hsame.mono (by decide) (by decide)⟩
  · show Steps p.tables e below (s₁.setTop (mkF m 0 #[.val (.int (1 : Int32))] [])) _
    refine XS.iloadN X0.here hx rfl (hb hby d1_0) rfl ?_
    refine XS.ifNo X0.here hx rfl (hb hby d1_1) rfl ((if0 _ _).trans (flt (by decide +kernel : ¬ ((1 : Int32) < (0 : Int32)))).1) ?_
    refine XS.iloadN X0.here hx rfl (hb hby d1_4) rfl ?_
    refine st3 _ ?_
    refine X3.arraylength hx (by rw [e3]; exact Ar23.1) (State.isArrayOf_alike hZ.alike Ar23.2.1) (g := (mkF m 8 #[.val (.int (1 : Int32))] [(.ref a1), (.int (1 : Int32))])) rfl rfl (hb hby d1_8) _ ?_
    rw [len_of Sz23 Nn23]
    refine XS.icmpYes X3.here hx rfl (pc0 := 9) (pc' := 26) rfl (hb hby d1_9) rfl (tlt (by decide +kernel : (1 : Int32) < (17 : Int32))).1 (by decide) (by decide) ?_
    refine st24 _ ?_
    refine XS.iloadN X24.here hx rfl (hb hby d1_29) rfl ?_
    refine X24.aaload hx (j := (1 : Int32)) (v := (.ref a5)) (by rw [e24]; exact Ar25.1) (State.isArrayOf_alike hZ.alike Ar25.2.1) rfl Ar25.2.2 hin25 hat25 (g := (mkF m 30 #[.val (.int (1 : Int32))] [(.int (1 : Int32)), (.ref a1)])) rfl rfl (hb hby d1_30) _ ?_
    show Steps p.tables e below (T24.setTop (mkF m 31 #[.val (.int (1 : Int32))] [(.ref a5)])) _
    jvm_step X24.here [X24.here.top, hx, (hb hby d1_31), X24.method', Bd.returns, Value.isRef, FieldType.isReference]
    first | (intro acts; rw [hr _ acts rfl rfl rfl]) | rw [hr _ _ rfl rfl rfl]
    exact Steps.refl _
  · show Q1_5 Z _ _ _ _ _ _ _ _ _ _ _ _ _ _ _ _ _ _ _ h0 n0 _ T24.heap _
    rw [e24]
    exact ⟨rfl, N0, rfl⟩
theorem ef_rm3_7 (m : MethodId) (x0 : Addr) : entryFrame m #[(.ref x0)] 1 = mkF m 0 #[.val (.ref x0)] [] := by first | (simp [entryFrame, mkF, argsToLocals, Value.category]; done) | rfl
def Q3_7 (Z : State) (a1 : Addr) (h0 : Heap) (n0 : Nat) (v : Option Value) (h : Heap) (L : List Loc) : Prop := (v = some (.int (1 : Int32)) ∧ Fr n0 L ∧ h = h0)
set_option maxRecDepth 65536 in
set_option maxHeartbeats 40000000 in
theorem rm3_7 (l : Launch) (Z : State) (a0 : Array Value) (hw : ∀ d ∈ own_ws, d.before a0 Z = true) (ws : List Jvm.Cond) (a1 : Addr) (h0 : Heap) (n0 : Nat) (O0 : Old Z n0 h0) (F2 : Fld Z Z.heap a1 C_3 "ordinal" "I" (.int (1 : Int32))) :
    MetFree l M_1 (head1 (Jvm.Cond.code M_1 jdk_37_method_2_code 1 (some .int) :: ws) ({ frames := 0, cells := 0, slots := 0, locals := 0 } : Room)) (fun a U => a = #[(.ref a1)] ∧ Z.Warmed39 U.vm ∧ U.heap = h0) (fun _ _ _ _ _ => True) (fun _ U o U' => ∃ v L, o = .returned v ∧ Q3_7 Z a1 h0 n0 v U'.heap L ∧ FrameEnd U o U' L ({ frames := 0, cells := 0, slots := 0, locals := 0 } : Room).cells ({ frames := 0, cells := 0, slots := 0, locals := 0 } : Room).slots) := by
  refine MetFree.of_bodySF (plainFor_of_name pn_1) hisR ?_
  intro p e s m args below meth c s₁ Bd hml0 hP hK
  obtain ⟨rfl, hZ, hh⟩ := hP
  have hx := Bd.exec
  have hby := Bd.bytes
  have hml : c.maxLocals = 1 := hml0
  have hown : s.vm.findClass "java/lang/Enum" = some m.cls := findClass_of_methodNamed Bd.named
  have hnm := (name_of_methodNamed Bd.named Bd.method).1
  have X0 : Stand p l e ({ frames := 0, cells := 0, slots := 0, locals := 0 } : Room) s m #[(.ref a1)] below meth c s₁ [] 0 0 := Stand.of_body Bd
  have e0 : s₁.heap = h0 := by rw [← hh, Bd.state]; rfl
  have N0 := Fr.nil n0
  have pre0 : ∀ t, Steps p.tables e below (s₁.setTop (mkF m 0 #[.val (.ref a1)] [])) t → Steps p.tables e below (s₁.setTop (entryFrame m #[(.ref a1)] 1)) t := fun t k => castTop (ef_rm3_7 m a1) k
  obtain ⟨T3, X3, e3, st3⟩ := getF X0 hx hZ hown (host := "") (Or.inl (hw _ (gw 56 rfl))) Via.refl e0 (Fld.ext O0.2 F2) (g := (mkF m 1 #[.val (.ref a1)] [(.ref a1)])) rfl rfl (hb hby d3_1)
  obtain ⟨fs, hr, hrun, hended, hW, hsame⟩ := X3.leave (v := some (.int (1 : Int32))) (fun h => by rw [Bd.returns] at h; cases h)
  refine ⟨_, _, pre0 _ ?_, hrun, hended, _, _, rfl, ?_, ⟨_, rfl⟩, hW, hsame.mono (by decide) (by decide)⟩
  · show Steps p.tables e below (s₁.setTop (mkF m 0 #[.val (.ref a1)] [])) _
    refine XS.aloadN X0.here hx rfl (hb hby d3_0) rfl rfl ?_
    refine st3 _ ?_
    show Steps p.tables e below (T3.setTop (mkF m 4 #[.val (.ref a1)] [(.int (1 : Int32))])) _
    exact retI X3 hx Bd.returns (hb hby d3_4) hr
  · show Q3_7 Z _ h0 n0 _ T3.heap _
    rw [e3]
    exact ⟨rfl, N0, rfl⟩
theorem ef_rm2_6 (m : MethodId) (x0 : Addr) : entryFrame m #[(.ref x0)] 1 = mkF m 0 #[.val (.ref x0)] [] := by first | (simp [entryFrame, mkF, argsToLocals, Value.category]; done) | rfl
def Q2_6 (Z : State) (a1 : Addr) (h0 : Heap) (n0 : Nat) (v : Option Value) (h : Heap) (L : List Loc) : Prop := (v = some (.int (1 : Int32)) ∧ Fr n0 L ∧ h = h0)
set_option maxRecDepth 65536 in
set_option maxHeartbeats 40000000 in
theorem rm2_6 (l : Launch) (Z : State) (a0 : Array Value) (hw : ∀ d ∈ own_ws, d.before a0 Z = true) (ws : List Jvm.Cond) (a1 : Addr) (h0 : Heap) (n0 : Nat) (O0 : Old Z n0 h0) (E_2 : Exa Z Z.heap a1 C_0) (F3 : Fld Z Z.heap a1 C_3 "ordinal" "I" (.int (1 : Int32))) :
    MetFree l M_3 (head1 (Jvm.Cond.code M_3 prog_70_method_4_code 1 (some .int) :: ws) ({ frames := 1, cells := 0, slots := 0, locals := 12 } : Room)) (fun a U => a = #[(.ref a1)] ∧ Z.Warmed39 U.vm ∧ U.heap = h0) (fun _ _ _ _ _ => True) (fun _ U o U' => ∃ v L, o = .returned v ∧ Q2_6 Z a1 h0 n0 v U'.heap L ∧ FrameEnd U o U' L ({ frames := 1, cells := 0, slots := 0, locals := 12 } : Room).cells ({ frames := 1, cells := 0, slots := 0, locals := 12 } : Room).slots) := by
  refine MetFree.of_bodySF (plainFor_of_name pn_0) hisR ?_
  intro p e s m args below meth c s₁ Bd hml0 hP hK
  obtain ⟨rfl, hZ, hh⟩ := hP
  have hx := Bd.exec
  have hby := Bd.bytes
  have hml : c.maxLocals = 1 := hml0
  have hown : s.vm.findClass "com/example/ringstead/ringstead/node/Wire$Call" = some m.cls := findClass_of_methodNamed Bd.named
  have hnm := (name_of_methodNamed Bd.named Bd.method).1
  have X0 : Stand p l e ({ frames := 1, cells := 0, slots := 0, locals := 12 } : Room) s m #[(.ref a1)] below meth c s₁ [] 0 0 := Stand.of_body Bd
  have e0 : s₁.heap = h0 := by rw [← hh, Bd.state]; rfl
  have N0 := Fr.nil n0
  have pre0 : ∀ t, Steps p.tables e below (s₁.setTop (mkF m 0 #[.val (.ref a1)] [])) t → Steps p.tables e below (s₁.setTop (entryFrame m #[(.ref a1)] 1)) t := fun t k => castTop (ef_rm2_6 m a1) k
  obtain ⟨cq4, kq4, q4a, q4b, q4c⟩ := isOf hZ e0 (Exa.ext O0.2 E_2)
  obtain ⟨_, _, ⟨T4, L4, k4, n4⟩, -, X4, ⟨Lc4, hQ4, l4, y4, z4⟩, st4⟩ := X0.virtualBackUp hx (owner := "java/lang/Enum") (x := M_2) (y := M_1) hown (mvT hZ (hw _ (gw 49 rfl))) (mvT hZ (hw _ (gw 50 rfl))) (mvT hZ (hw _ (gw 51 rfl))) (by decide) (mvT hZ (hw _ (gw 53 rfl))) (mvT hZ (hw _ (gw 52 rfl))) (backOf (W := 0) (rm3_7 l Z a0 hw [] a1 h0 n0  O0 F3) hZ (hw _ (gw 55 rfl)) (hw _ (gw 54 rfl)) (by decide) (by decide)) q4a q4c (g := (mkF m 1 #[.val (.ref a1)] [(.ref a1)])) rfl (by rw [hml]; rfl) (Steps.refl _) (argsL := []) (rest := []) (lenOf pd_1 rfl) rfl (by show 2 * 0 + _ ≤ _; exact Nat.le_of_eq rfl) (hb hby d2_1) (fun _ _ => ⟨rfl, e0, (by decide : 0 + 0 ≤ _), (by decide : 0 + 0 ≤ _)⟩)
  dsimp only [Pt.U, Pt.locs, Pt.cells, Pt.slots] at X4 l4 y4 z4 st4 hQ4
  subst l4 y4 z4
  obtain ⟨rfl, u6, u7⟩ := hQ4
  have N4 := Fr.app N0 u6
  obtain ⟨fs, hr, hrun, hended, hW, hsame⟩ := X4.leave (v := some (.int (1 : Int32))) (fun h => by rw [Bd.returns] at h; cases h)
  refine ⟨_, _, pre0 _ ?_, hrun, hended, _, _, rfl, ?_, ⟨_, rfl⟩, hW, hsame.mono (by decide) (by decide)⟩
  · show Steps p.tables e below (s₁.setTop (mkF m 0 #[.val (.ref a1)] [])) _
    refine XS.aloadN X0.here hx rfl (hb hby d2_0) rfl rfl ?_
    refine st4.trans ?_
    show Steps p.tables e below (T4.setTop (mkF m 4 #[.val (.ref a1)] [(.int (1 : Int32))])) _
    exact retI X4 hx Bd.returns (hb hby d2_4) hr
  · show Q2_6 Z _ h0 n0 _ T4.heap _
    rw [u7]
    exact ⟨rfl, N4, rfl⟩
theorem ef_rm1_8 (m : MethodId)  : entryFrame m #[(.int (2 : Int32))] 1 = mkF m 0 #[.val (.int (2 : Int32))] [] := by first | (simp [entryFrame, mkF, argsToLocals, Value.category]; done) | rfl
def Q1_8 (Z : State) (a1 : Addr) (a4 : Addr) (a5 : Addr) (a6 : Addr) (a7 : Addr) (a8 : Addr) (a9 : Addr) (a10 : Addr) (a11 : Addr) (a12 : Addr) (a13 : Addr) (a14 : Addr) (a15 : Addr) (a16 : Addr) (a17 : Addr) (a18 : Addr) (a19 : Addr) (a20 : Addr) (k21 : ClassId) (h0 : Heap) (n0 : Nat) (v : Option Value) (h : Heap) (L : List Loc) : Prop := (v = some (.ref a6) ∧ Fr n0 L ∧ h = h0)
set_option maxRecDepth 65536 in
set_option maxHeartbeats 40000000 in
theorem rm1_8 (l : Launch) (Z : State) (a0 : Array Value) (hw : ∀ d ∈ own_ws, d.before a0 Z = true) (ws : List Jvm.Cond) (a1 : Addr) (a4 : Addr) (a5 : Addr) (a6 : Addr) (a7 : Addr) (a8 : Addr) (a9 : Addr) (a10 : Addr) (a11 : Addr) (a12 : Addr) (a13 : Addr) (a14 : Addr) (a15 : Addr) (a16 : Addr) (a17 : Addr) (a18 : Addr) (a19 : Addr) (a20 : Addr) (k21 : ClassId) (h0 : Heap) (n0 : Nat) (O0 : Old Z n0 h0) (S_2 : Sta Z Z.heap C_0 "BY_CODE" C_2 (.ref a1)) (V22 : Arv Z Z.heap a1 k21 (.object "com/example/ringstead/ringstead/node/Wire$Call") (17 : Int32) [(.ref a4), (.ref a5), (.ref a6), (.ref a7), (.ref a8), (.ref a9), (.ref a10), (.ref a11), (.ref a12), (.ref a13), (.ref a14), (.ref a15), (.ref a16), (.ref a17), (.ref a18), (.ref a19), (.ref a20)] .null) :
    MetFree l M_0 (head1 (Jvm.Cond.code M_0 prog_70_method_5_code 1 (some (.object "com/example/ringstead/ringstead/node/Wire$Call")) :: ws) ({ frames := 0, cells := 0, slots := 0, locals := 0 } : Room)) (fun a U => a = #[(.int (2 : Int32))] ∧ Z.Warmed39 U.vm ∧ U.heap = h0) (fun _ _ _ _ _ => True) (fun _ U o U' => ∃ v L, o = .returned v ∧ Q1_8 Z a1 a4 a5 a6 a7 a8 a9 a10 a11 a12 a13 a14 a15 a16 a17 a18 a19 a20 k21 h0 n0 v U'.heap L ∧ FrameEnd U o U' L ({ frames := 0, cells := 0, slots := 0, locals := 0 } : Room).cells ({ frames := 0, cells := 0, slots := 0, locals := 0 } : Room).slots) := by
  refine MetFree.of_bodySF (plainFor_of_name pn_0) hisR ?_
  intro p e s m args below meth c s₁ Bd hml0 hP hK
  obtain ⟨rfl, hZ, hh⟩ := hP
  have hx := Bd.exec
  have hby := Bd.bytes
  have hml : c.maxLocals = 1 := hml0
  have hown : s.vm.findClass "com/example/ringstead/ringstead/node/Wire$Call" = some m.cls := findClass_of_methodNamed Bd.named
  have hnm := (name_of_methodNamed Bd.named Bd.method).1
  have X0 : Stand p l e ({ frames := 0, cells := 0, slots := 0, locals := 0 } : Room) s m #[(.int (2 : Int32))] below meth c s₁ [] 0 0 := Stand.of_body Bd
  have e0 : s₁.heap = h0 := by rw [← hh, Bd.state]; rfl
  have N0 := Fr.nil n0
  have pre0 : ∀ t, Steps p.tables e below (s₁.setTop (mkF m 0 #[.val (.int (2 : Int32))] [])) t → Steps p.tables e below (s₁.setTop (entryFrame m #[(.int (2 : Int32))] 1)) t := fun t k => castTop (ef_rm1_8 m ) k
  obtain ⟨T3, X3, e3, st3⟩ := getS2 X0 hx hZ hown (host := "") (Or.inl (hw _ (gw 42 rfl))) Via.refl e0 (Sta.ext O0.2 S_2) (g := (mkF m 5 #[.val (.int (2 : Int32))] [(.int (2 : Int32))])) rfl (hb hby d1_5)
  obtain ⟨cl23, Ar23, -, Sz23, Nn23, -, -⟩ := id (V22.ext O0.2)
  obtain ⟨T24, X24, e24, st24⟩ := getS2 X3 hx hZ hown (host := "") (Or.inl (hw _ (gw 42 rfl))) Via.refl e3 (Sta.ext O0.2 S_2) (g := (mkF m 26 #[.val (.int (2 : Int32))] [])) rfl (hb hby d1_26)
  obtain ⟨cl25, Ar25, -, Sz25, -, Hh25, -⟩ := id (V22.ext O0.2)
  have hin25 : ¬ ((2 : Int32) < 0 ∨ cl25.slots.size ≤ ((2 : Int32)).toNatClampNeg) := inb_of Sz25 ⟨by decide +kernel, by decide +kernel⟩
  have hat25 : cl25.slots[((2 : Int32)).toNatClampNeg]? = some (.ref a6) := Has.at Hh25 hin25 rfl
  obtain ⟨fs, hr, hrun, hended, hW, hsame⟩ := X24.leave (v := some (.ref a6)) (fun h => by rw [Bd.returns] at h; cases h)
  refine ⟨_, _, pre0 _ ?_, hrun, hended, _, _, rfl, ?_, ⟨_, rfl⟩, hW, hsame.mono (by decide) (by decide)⟩
  · show Steps p.tables e below (s₁.setTop (mkF m 0 #[.val (.int (2 : Int32))] [])) _
    refine XS.iloadN X0.here hx rfl (hb hby d1_0) rfl ?_
    refine XS.ifNo X0.here hx rfl (hb hby d1_1) rfl ((if0 _ _).trans (flt (by decide +kernel : ¬ ((2 : Int32) < (0 : Int32)))).1) ?_
    refine XS.iloadN X0.here hx rfl (hb hby d1_4) rfl ?_
    refine st3 _ ?_
    refine X3.arraylength hx (by rw [e3]; exact Ar23.1) (State.isArrayOf_alike hZ.alike Ar23.2.1) (g := (mkF m 8 #[.val (.int (2 : Int32))] [(.ref a1), (.int (2 : Int32))])) rfl rfl (hb hby d1_8) _ ?_
    rw [len_of Sz23 Nn23]
    refine XS.icmpYes X3.here hx rfl (pc0 := 9) (pc' := 26) rfl (hb hby d1_9) rfl (tlt (by decide +kernel : (2 : Int32) < (17 : Int32))).1 (by decide) (by decide) ?_
    refine st24 _ ?_
    refine XS.iloadN X24.here hx rfl (hb hby d1_29) rfl ?_
    refine X24.aaload hx (j := (2 : Int32)) (v := (.ref a6)) (by rw [e24]; exact Ar25.1) (State.isArrayOf_alike hZ.alike Ar25.2.1) rfl Ar25.2.2 hin25 hat25 (g := (mkF m 30 #[.val (.int (2 : Int32))] [(.int (2 : Int32)), (.ref a1)])) rfl rfl (hb hby d1_30) _ ?_
    show Steps p.tables e below (T24.setTop (mkF m 31 #[.val (.int (2 : Int32))] [(.ref a6)])) _
    jvm_step X24.here [X24.here.top, hx, (hb hby d1_31), X24.method', Bd.returns, Value.isRef, FieldType.isReference]
    first | (intro acts; rw [hr _ acts rfl rfl rfl]) | rw [hr _ _ rfl rfl rfl]
    exact Steps.refl _
  · show Q1_8 Z _ _ _ _ _ _ _ _ _ _ _ _ _ _ _ _ _ _ _ h0 n0 _ T24.heap _
    rw [e24]
    exact ⟨rfl, N0, rfl⟩
theorem ef_rm3_10 (m : MethodId) (x0 : Addr) : entryFrame m #[(.ref x0)] 1 = mkF m 0 #[.val (.ref x0)] [] := by first | (simp [entryFrame, mkF, argsToLocals, Value.category]; done) | rfl
def Q3_10 (Z : State) (a1 : Addr) (h0 : Heap) (n0 : Nat) (v : Option Value) (h : Heap) (L : List Loc) : Prop := (v = some (.int (2 : Int32)) ∧ Fr n0 L ∧ h = h0)
set_option maxRecDepth 65536 in
set_option maxHeartbeats 40000000 in
theorem rm3_10 (l : Launch) (Z : State) (a0 : Array Value) (hw : ∀ d ∈ own_ws, d.before a0 Z = true) (ws : List Jvm.Cond) (a1 : Addr) (h0 : Heap) (n0 : Nat) (O0 : Old Z n0 h0) (F2 : Fld Z Z.heap a1 C_3 "ordinal" "I" (.int (2 : Int32))) :
    MetFree l M_1 (head1 (Jvm.Cond.code M_1 jdk_37_method_2_code 1 (some .int) :: ws) ({ frames := 0, cells := 0, slots := 0, locals := 0 } : Room)) (fun a U => a = #[(.ref a1)] ∧ Z.Warmed39 U.vm ∧ U.heap = h0) (fun _ _ _ _ _ => True) (fun _ U o U' => ∃ v L, o = .returned v ∧ Q3_10 Z a1 h0 n0 v U'.heap L ∧ FrameEnd U o U' L ({ frames := 0, cells := 0, slots := 0, locals := 0 } : Room).cells ({ frames := 0, cells := 0, slots := 0, locals := 0 } : Room).slots) := by
  refine MetFree.of_bodySF (plainFor_of_name pn_1) hisR ?_
  intro p e s m args below meth c s₁ Bd hml0 hP hK
  obtain ⟨rfl, hZ, hh⟩ := hP
  have hx := Bd.exec
  have hby := Bd.bytes
  have hml : c.maxLocals = 1 := hml0
  have hown : s.vm.findClass "java/lang/Enum" = some m.cls := findClass_of_methodNamed Bd.named
  have hnm := (name_of_methodNamed Bd.named Bd.method).1
  have X0 : Stand p l e ({ frames := 0, cells := 0, slots := 0, locals := 0 } : Room) s m #[(.ref a1)] below meth c s₁ [] 0 0 := Stand.of_body Bd
  have e0 : s₁.heap = h0 := by rw [← hh, Bd.state]; rfl
  have N0 := Fr.nil n0
  have pre0 : ∀ t, Steps p.tables e below (s₁.setTop (mkF m 0 #[.val (.ref a1)] [])) t → Steps p.tables e below (s₁.setTop (entryFrame m #[(.ref a1)] 1)) t := fun t k => castTop (ef_rm3_10 m a1) k
  obtain ⟨T3, X3, e3, st3⟩ := getF X0 hx hZ hown (host := "") (Or.inl (hw _ (gw 56 rfl))) Via.refl e0 (Fld.ext O0.2 F2) (g := (mkF m 1 #[.val (.ref a1)] [(.ref a1)])) rfl rfl (hb hby d3_1)
  obtain ⟨fs, hr, hrun, hended, hW, hsame⟩ := X3.leave (v := some (.int (2 : Int32))) (fun h => by rw [Bd.returns] at h; cases h)
  refine ⟨_, _, pre0 _ ?_, hrun, hended, _, _, rfl, ?_, ⟨_, rfl⟩, hW, hsame.mono (by decide) (by decide)⟩
  · show Steps p.tables e below (s₁.setTop (mkF m 0 #[.val (.ref a1)] [])) _
    refine XS.aloadN X0.here hx rfl (hb hby d3_0) rfl rfl ?_
    refine st3 _ ?_
    show Steps p.tables e below (T3.setTop (mkF m 4 #[.val (.ref a1)] [(.int (2 : Int32))])) _
    exact retI X3 hx Bd.returns (hb hby d3_4) hr
  · show Q3_10 Z _ h0 n0 _ T3.heap _
    rw [e3]
    exact ⟨rfl, N0, rfl⟩
theorem ef_rm2_9 (m : MethodId) (x0 : Addr) : entryFrame m #[(.ref x0)] 1 = mkF m 0 #[.val (.ref x0)] [] := by first | (simp [entryFrame, mkF, argsToLocals, Value.category]; done) | rfl
def Q2_9 (Z : State) (a1 : Addr) (h0 : Heap) (n0 : Nat) (v : Option Value) (h : Heap) (L : List Loc) : Prop := (v = some (.int (2 : Int32)) ∧ Fr n0 L ∧ h = h0)
set_option maxRecDepth 65536 in
set_option maxHeartbeats 40000000 in
theorem rm2_9 (l : Launch) (Z : State) (a0 : Array Value) (hw : ∀ d ∈ own_ws, d.before a0 Z = true) (ws : List Jvm.Cond) (a1 : Addr) (h0 : Heap) (n0 : Nat) (O0 : Old Z n0 h0) (E_2 : Exa Z Z.heap a1 C_0) (F3 : Fld Z Z.heap a1 C_3 "ordinal" "I" (.int (2 : Int32))) :
    MetFree l M_3 (head1 (Jvm.Cond.code M_3 prog_70_method_4_code 1 (some .int) :: ws) ({ frames := 1, cells := 0, slots := 0, locals := 12 } : Room)) (fun a U => a = #[(.ref a1)] ∧ Z.Warmed39 U.vm ∧ U.heap = h0) (fun _ _ _ _ _ => True) (fun _ U o U' => ∃ v L, o = .returned v ∧ Q2_9 Z a1 h0 n0 v U'.heap L ∧ FrameEnd U o U' L ({ frames := 1, cells := 0, slots := 0, locals := 12 } : Room).cells ({ frames := 1, cells := 0, slots := 0, locals := 12 } : Room).slots) := by
  refine MetFree.of_bodySF (plainFor_of_name pn_0) hisR ?_
  intro p e s m args below meth c s₁ Bd hml0 hP hK
  obtain ⟨rfl, hZ, hh⟩ := hP
  have hx := Bd.exec
  have hby := Bd.bytes
  have hml : c.maxLocals = 1 := hml0
  have hown : s.vm.findClass "com/example/ringstead/ringstead/node/Wire$Call" = some m.cls := findClass_of_methodNamed Bd.named
  have hnm := (name_of_methodNamed Bd.named Bd.method).1
  have X0 : Stand p l e ({ frames := 1, cells := 0, slots := 0, locals := 12 } : Room) s m #[(.ref a1)] below meth c s₁ [] 0 0 := Stand.of_body Bd
  have e0 : s₁.heap = h0 := by rw [← hh, Bd.state]; rfl
  have N0 := Fr.nil n0
  have pre0 : ∀ t, Steps p.tables e below (s₁.setTop (mkF m 0 #[.val (.ref a1)] [])) t → Steps p.tables e below (s₁.setTop (entryFrame m #[(.ref a1)] 1)) t := fun t k => castTop (ef_rm2_9 m a1) k
  obtain ⟨cq4, kq4, q4a, q4b, q4c⟩ := isOf hZ e0 (Exa.ext O0.2 E_2)
  obtain ⟨_, _, ⟨T4, L4, k4, n4⟩, -, X4, ⟨Lc4, hQ4, l4, y4, z4⟩, st4⟩ := X0.virtualBackUp hx (owner := "java/lang/Enum") (x := M_2) (y := M_1) hown (mvT hZ (hw _ (gw 49 rfl))) (mvT hZ (hw _ (gw 50 rfl))) (mvT hZ (hw _ (gw 51 rfl))) (by decide) (mvT hZ (hw _ (gw 53 rfl))) (mvT hZ (hw _ (gw 52 rfl))) (backOf (W := 0) (rm3_10 l Z a0 hw [] a1 h0 n0  O0 F3) hZ (hw _ (gw 55 rfl)) (hw _ (gw 54 rfl)) (by decide) (by decide)) q4a q4c (g := (mkF m 1 #[.val (.ref a1)] [(.ref a1)])) rfl (by rw [hml]; rfl) (Steps.refl _) (argsL := []) (rest := []) (lenOf pd_1 rfl) rfl (by show 2 * 0 + _ ≤ _; exact Nat.le_of_eq rfl) (hb hby d2_1) (fun _ _ => ⟨rfl, e0, (by decide : 0 + 0 ≤ _), (by decide : 0 + 0 ≤ _)⟩)
  dsimp only [Pt.U, Pt.locs, Pt.cells, Pt.slots] at X4 l4 y4 z4 st4 hQ4
  subst l4 y4 z4
  obtain ⟨rfl, u6, u7⟩ := hQ4
  have N4 := Fr.app N0 u6
  obtain ⟨fs, hr, hrun, hended, hW, hsame⟩ := X4.leave (v := some (.int (2 : Int32))) (fun h => by rw [Bd.returns] at h; cases h)
  refine ⟨_, _, pre0 _ ?_, hrun, hended, _, _, rfl, ?_, ⟨_, rfl⟩, hW, hsame.mono (by decide) (by decide)⟩
  · show Steps p.tables e below (s₁.setTop (mkF m 0 #[.val (.ref a1)] [])) _
    refine XS.aloadN X0.here hx rfl (hb hby d2_0) rfl rfl ?_
    refine st4.trans ?_
    show Steps p.tables e below (T4.setTop (mkF m 4 #[.val (.ref a1)] [(.int (2 : Int32))])) _
    exact retI X4 hx Bd.returns (hb hby d2_4) hr
  · show Q2_9 Z _ h0 n0 _ T4.heap _
    rw [u7]
    exact ⟨rfl, N4, rfl⟩
theorem ef_rm1_11 (m : MethodId)  : entryFrame m #[(.int (3 : Int32))] 1 = mkF m 0 #[.val (.int (3 : Int32))] [] := by first | (simp [entryFrame, mkF, argsToLocals, Value.category]; done) | rfl
def Q1_11 (Z : State) (a1 : Addr) (a4 : Addr) (a5 : Addr) (a6 : Addr) (a7 : Addr) (a8 : Addr) (a9 : Addr) (a10 : Addr) (a11 : Addr) (a12 : Addr) (a13 : Addr) (a14 : Addr) (a15 : Addr) (a16 : Addr) (a17 : Addr) (a18 : Addr) (a19 : Addr) (a20 : Addr) (k21 : ClassId) (h0 : Heap) (n0 : Nat) (v : Option Value) (h : Heap) (L : List Loc) : Prop := (v = some (.ref a7) ∧ Fr n0 L ∧ h = h0)
set_option maxRecDepth 65536 in
set_option maxHeartbeats 40000000 in
theorem rm1_11 (l : Launch) (Z : State) (a0 : Array Value) (hw : ∀ d ∈ own_ws, d.before a0 Z = true) (ws : List Jvm.Cond) (a1 : Addr) (a4 : Addr) (a5 : Addr) (a6 : Addr) (a7 : Addr) (a8 : Addr) (a9 : Addr) (a10 : Addr) (a11 : Addr) (a12 : Addr) (a13 : Addr) (a14 : Addr) (a15 : Addr) (a16 : Addr) (a17 : Addr) (a18 : Addr) (a19 : Addr) (a20 : Addr) (k21 : ClassId) (h0 : Heap) (n0 : Nat) (O0 : Old Z n0 h0) (S_2 : Sta Z Z.heap C_0 "BY_CODE" C_2 (.ref a1)) (V22 : Arv Z Z.heap a1 k21 (.object "com/example/ringstead/ringstead/node/Wire$Call") (17 : Int32) [(.ref a4), (.ref a5), (.ref a6), (.ref a7), (.ref a8), (.ref a9), (.ref a10), (.ref a11), (.ref a12), (.ref a13), (.ref a14), (.ref a15), (.ref a16), (.ref a17), (.ref a18), (.ref a19), (.ref a20)] .null) :
    MetFree l M_0 (head1 (Jvm.Cond.code M_0 prog_70_method_5_code 1 (some (.object "com/example/ringstead/ringstead/node/Wire$Call")) :: ws) ({ frames := 0, cells := 0, slots := 0, locals := 0 } : Room)) (fun a U => a = #[(.int (3 : Int32))] ∧ Z.Warmed39 U.vm ∧ U.heap = h0) (fun _ _ _ _ _ => True) (fun _ U o U' => ∃ v L, o = .returned v ∧ Q1_11 Z a1 a4 a5 a6 a7 a8 a9 a10 a11 a12 a13 a14 a15 a16 a17 a18 a19 a20 k21 h0 n0 v U'.heap L ∧ FrameEnd U o U' L ({ frames := 0, cells := 0, slots := 0, locals := 0 } : Room).cells ({ frames := 0, cells := 0, slots := 0, locals := 0 } : Room).slots) := by
  refine MetFree.of_bodySF (plainFor_of_name pn_0) hisR ?_
  intro p e s m args below meth c s₁ Bd hml0 hP hK
  obtain ⟨rfl, hZ, hh⟩ := hP
  have hx := Bd.exec
  have hby := Bd.bytes
  have hml : c.maxLocals = 1 := hml0
  have hown : s.vm.findClass "com/example/ringstead/ringstead/node/Wire$Call" = some m.cls := findClass_of_methodNamed Bd.named
  have hnm := (name_of_methodNamed Bd.named Bd.method).1
  have X0 : Stand p l e ({ frames := 0, cells := 0, slots := 0, locals := 0 } : Room) s m #[(.int (3 : Int32))] below meth c s₁ [] 0 0 := Stand.of_body Bd
  have e0 : s₁.heap = h0 := by rw [← hh, Bd.state]; rfl
  have N0 := Fr.nil n0
  have pre0 : ∀ t, Steps p.tables e below (s₁.setTop (mkF m 0 #[.val (.int (3 : Int32))] [])) t → Steps p.tables e below (s₁.setTop (entryFrame m #[(.int (3 : Int32))] 1)) t := fun t k => castTop (ef_rm1_11 m ) k
  obtain ⟨T3, X3, e3, st3⟩ := getS2 X0 hx hZ hown (host := "") (Or.inl (hw _ (gw 42 rfl))) Via.refl e0 (Sta.ext O0.2 S_2) (g := (mkF m 5 #[.val (.int (3 : Int32))] [(.int (3 : Int32))])) rfl (hb hby d1_5)
  obtain ⟨cl23, Ar23, -, Sz23, Nn23, -, -⟩ := id (V22.ext O0.2)
  obtain ⟨T24, X24, e24, st24⟩ := getS2 X3 hx hZ hown (host := "") (Or.inl (hw _ (gw 42 rfl))) Via.refl e3 (Sta.ext O0.2 S_2) (g := (mkF m 26 #[.val (.int (3 : Int32))] [])) rfl (hb hby d1_26)
  obtain ⟨cl25, Ar25, -, Sz25, -, Hh25, -⟩ := id (V22.ext O0.2)
  have hin25 : ¬ ((3 : Int32) < 0 ∨ cl25.slots.size ≤ ((3 : Int32)).toNatClampNeg) := inb_of Sz25 ⟨by decide +kernel, by decide +kernel⟩
  have hat25 : cl25.slots[((3 : Int32)).toNatClampNeg]? = some (.ref a7) := Has.at Hh25 hin25 rfl
  obtain ⟨fs, hr, hrun, hended, hW, hsame⟩ := X24.leave (v := some (.ref a7)) (fun h => by rw [Bd.returns] at h; cases h)
  refine ⟨_, _, pre0 _ ?_, hrun, hended, _, _, rfl, ?_, ⟨_, rfl⟩, hW, hsame.mono (by decide) (by decide)⟩
  · show Steps p.tables e below (s₁.setTop (mkF m 0 #[.val (.int (3 : Int32))] [])) _
    refine XS.iloadN X0.here hx rfl (hb hby d1_0) rfl ?_
    refine XS.ifNo X0.here hx rfl (hb hby d1_1) rfl ((if0 _ _).trans (flt (by decide +kernel : ¬ ((3 : Int32) < (0 : Int32)))).1) ?_
    refine XS.iloadN X0.here hx rfl (hb hby d1_4) rfl ?_
    refine st3 _ ?_
    refine X3.arraylength hx (by rw [e3]; exact Ar23.1) (State.isArrayOf_alike hZ.alike Ar23.2.1) (g := (mkF m 8 #[.val (.int (3 : Int32))] [(.ref a1), (.int (3 : Int32))])) rfl rfl (hb hby d1_8) _ ?_
    rw [len_of Sz23 Nn23]
    refine XS.icmpYes X3.here hx rfl (pc0 := 9) (pc' := 26) rfl (hb hby d1_9) rfl (tlt (by decide +kernel : (3 : Int32) < (17 : Int32))).1 (by decide) (by decide) ?_
    refine st24 _ ?_
    refine XS.iloadN X24.here hx rfl (hb hby d1_29) rfl ?_
    refine X24.aaload hx (j := (3 : Int32)) (v := (.ref a7)) (by rw [e24]; exact Ar25.1) (State.isArrayOf_alike hZ.alike Ar25.2.1) rfl Ar25.2.2 hin25 hat25 (g := (mkF m 30 #[.val (.int (3 : Int32))] [(.int (3 : Int32)), (.ref a1)])) rfl rfl (hb hby d1_30) _ ?_
    show Steps p.tables e below (T24.setTop (mkF m 31 #[.val (.int (3 : Int32))] [(.ref a7)])) _
    jvm_step X24.here [X24.here.top, hx, (hb hby d1_31), X24.method', Bd.returns, Value.isRef, FieldType.isReference]
    first | (intro acts; rw [hr _ acts rfl rfl rfl]) | rw [hr _ _ rfl rfl rfl]
    exact Steps.refl _
  · show Q1_11 Z _ _ _ _ _ _ _ _ _ _ _ _ _ _ _ _ _ _ _ h0 n0 _ T24.heap _
    rw [e24]
    exact ⟨rfl, N0, rfl⟩
theorem ef_rm3_13 (m : MethodId) (x0 : Addr) : entryFrame m #[(.ref x0)] 1 = mkF m 0 #[.val (.ref x0)] [] := by first | (simp [entryFrame, mkF, argsToLocals, Value.category]; done) | rfl
def Q3_13 (Z : State) (a1 : Addr) (h0 : Heap) (n0 : Nat) (v : Option Value) (h : Heap) (L : List Loc) : Prop := (v = some (.int (3 : Int32)) ∧ Fr n0 L ∧ h = h0)
set_option maxRecDepth 65536 in
set_option maxHeartbeats 40000000 in
theorem rm3_13 (l : Launch) (Z : State) (a0 : Array Value) (hw : ∀ d ∈ own_ws, d.before a0 Z = true) (ws : List Jvm.Cond) (a1 : Addr) (h0 : Heap) (n0 : Nat) (O0 : Old Z n0 h0) (F2 : Fld Z Z.heap a1 C_3 "ordinal" "I" (.int (3 : Int32))) :
    MetFree l M_1 (head1 (Jvm.Cond.code M_1 jdk_37_method_2_code 1 (some .int) :: ws) ({ frames := 0, cells := 0, slots := 0, locals := 0 } : Room)) (fun a U => a = #[(.ref a1)] ∧ Z.Warmed39 U.vm ∧ U.heap = h0) (fun _ _ _ _ _ => True) (fun _ U o U' => ∃ v L, o = .returned v ∧ Q3_13 Z a1 h0 n0 v U'.heap L ∧ FrameEnd U o U' L ({ frames := 0, cells := 0, slots := 0, locals := 0 } : Room).cells ({ frames := 0, cells := 0, slots := 0, locals := 0 } : Room).slots) := by
  refine MetFree.of_bodySF (plainFor_of_name pn_1) hisR ?_
  intro p e s m args below meth c s₁ Bd hml0 hP hK
  obtain ⟨rfl, hZ, hh⟩ := hP
  have hx := Bd.exec
  have hby := Bd.bytes
  have hml : c.maxLocals = 1 := hml0
  have hown : s.vm.findClass "java/lang/Enum" = some m.cls := findClass_of_methodNamed Bd.named
  have hnm := (name_of_methodNamed Bd.named Bd.method).1
  have X0 : Stand p l e ({ frames := 0, cells := 0, slots := 0, locals := 0 } : Room) s m #[(.ref a1)] below meth c s₁ [] 0 0 := Stand.of_body Bd
  have e0 : s₁.heap = h0 := by rw [← hh, Bd.state]; rfl
  have N0 := Fr.nil n0
  have pre0 : ∀ t, Steps p.tables e below (s₁.setTop (mkF m 0 #[.val (.ref a1)] [])) t → Steps p.tables e below (s₁.setTop (entryFrame m #[(.ref a1)] 1)) t := fun t k => castTop (ef_rm3_13 m a1) k
  obtain ⟨T3, X3, e3, st3⟩ := getF X0 hx hZ hown (host := "") (Or.inl (hw _ (gw 56 rfl))) Via.refl e0 (Fld.ext O0.2 F2) (g := (mkF m 1 #[.val (.ref a1)] [(.ref a1)])) rfl rfl (hb hby d3_1)
  obtain ⟨fs, hr, hrun, hended, hW, hsame⟩ := X3.leave (v := some (.int (3 : Int32))) (fun h => by rw [Bd.returns] at h; cases h)
  refine ⟨_, _, pre0 _ ?_, hrun, hended, _, _, rfl, ?_, ⟨_, rfl⟩, hW, hsame.mono (by decide) (by decide)⟩
  · show Steps p.tables e below (s₁.setTop (mkF m 0 #[.val (.ref a1)] [])) _
    refine XS.aloadN X0.here hx rfl (hb hby d3_0) rfl rfl ?_
    refine st3 _ ?_
    show Steps p.tables e below (T3.setTop (mkF m 4 #[.val (.ref a1)] [(.int (3 : Int32))])) _
    exact retI X3 hx Bd.returns (hb hby d3_4) hr
  · show Q3_13 Z _ h0 n0 _ T3.heap _
    rw [e3]
    exact ⟨rfl, N0, rfl⟩
theorem ef_rm2_12 (m : MethodId) (x0 : Addr) : entryFrame m #[(.ref x0)] 1 = mkF m 0 #[.val (.ref x0)] [] := by first | (simp [entryFrame, mkF, argsToLocals, Value.category]; done) | rfl
def Q2_12 (Z : State) (a1 : Addr) (h0 : Heap) (n0 : Nat) (v : Option Value) (h : Heap) (L : List Loc) : Prop := (v = some (.int (3 : Int32)) ∧ Fr n0 L ∧ h = h0)
set_option maxRecDepth 65536 in
set_option maxHeartbeats 40000000 in
theorem rm2_12 (l : Launch) (Z : State) (a0 : Array Value) (hw : ∀ d ∈ own_ws, d.before a0 Z = true) (ws : List Jvm.Cond) (a1 : Addr) (h0 : Heap) (n0 : Nat) (O0 : Old Z n0 h0) (E_2 : Exa Z Z.heap a1 C_0) (F3 : Fld Z Z.heap a1 C_3 "ordinal" "I" (.int (3 : Int32))) :
    MetFree l M_3 (head1 (Jvm.Cond.code M_3 prog_70_method_4_code 1 (some .int) :: ws) ({ frames := 1, cells := 0, slots := 0, locals := 12 } : Room)) (fun a U => a = #[(.ref a1)] ∧ Z.Warmed39 U.vm ∧ U.heap = h0) (fun _ _ _ _ _ => True) (fun _ U o U' => ∃ v L, o = .returned v ∧ Q2_12 Z a1 h0 n0 v U'.heap L ∧ FrameEnd U o U' L ({ frames := 1, cells := 0, slots := 0, locals := 12 } : Room).cells ({ frames := 1, cells := 0, slots := 0, locals := 12 } : Room).slots) := by
  refine MetFree.of_bodySF (plainFor_of_name pn_0) hisR ?_
  intro p e s m args below meth c s₁ Bd hml0 hP hK
  obtain ⟨rfl, hZ, hh⟩ := hP
  have hx := Bd.exec
  have hby := Bd.bytes
  have hml : c.maxLocals = 1 := hml0
  have hown : s.vm.findClass "com/example/ringstead/ringstead/node/Wire$Call" = some m.cls := findClass_of_methodNamed Bd.named
  have hnm := (name_of_methodNamed Bd.named Bd.method).1
  have X0 : Stand p l e ({ frames := 1, cells := 0, slots := 0, locals := 12 } : Room) s m #[(.ref a1)] below meth c s₁ [] 0 0 := Stand.of_body Bd
  have e0 : s₁.heap = h0 := by rw [← hh, Bd.state]; rfl
  have N0 := Fr.nil n0
  have pre0 : ∀ t, Steps p.tables e below (s₁.setTop (mkF m 0 #[.val (.ref a1)] [])) t → Steps p.tables e below (s₁.setTop (entryFrame m #[(.ref a1)] 1)) t := fun t k => castTop (ef_rm2_12 m a1) k
  obtain ⟨cq4, kq4, q4a, q4b, q4c⟩ := isOf hZ e0 (Exa.ext O0.2 E_2)
  obtain ⟨_, _, ⟨T4, L4, k4, n4⟩, -, X4, ⟨Lc4, hQ4, l4, y4, z4⟩, st4⟩ := X0.virtualBackUp hx (owner := "java/lang/Enum") (x := M_2) (y := M_1) hown (mvT hZ (hw _ (gw 49 rfl))) (mvT hZ (hw _ (gw 50 rfl))) (mvT hZ (hw _ (gw 51 rfl))) (by decide) (mvT hZ (hw _ (gw 53 rfl))) (mvT hZ (hw _ (gw 52 rfl))) (backOf (W := 0) (rm3_13 l Z a0 hw [] a1 h0 n0  O0 F3) hZ (hw _ (gw 55 rfl)) (hw _ (gw 54 rfl)) (by decide) (by decide)) q4a q4c (g := (mkF m 1 #[.val (.ref a1)] [(.ref a1)])) rfl (by rw [hml]; rfl) (Steps.refl _) (argsL := []) (rest := []) (lenOf pd_1 rfl) rfl (by show 2 * 0 + _ ≤ _; exact Nat.le_of_eq rfl) (hb hby d2_1) (fun _ _ => ⟨rfl, e0, (by decide : 0 + 0 ≤ _), (by decide : 0 + 0 ≤ _)⟩)
  dsimp only [Pt.U, Pt.locs, Pt.cells, Pt.slots] at X4 l4 y4 z4 st4 hQ4
  subst l4 y4 z4
  obtain ⟨rfl, u6, u7⟩ := hQ4
  have N4 := Fr.app N0 u6
  obtain ⟨fs, hr, hrun, hended, hW, hsame⟩ := X4.leave (v := some (.int (3 : Int32))) (fun h => by rw [Bd.returns] at h; cases h)
  refine ⟨_, _, pre0 _ ?_, hrun, hended, _, _, rfl, ?_, ⟨_, rfl⟩, hW, hsame.mono (by decide) (by decide)⟩
  · show Steps p.tables e below (s₁.setTop (mkF m 0 #[.val (.ref a1)] [])) _
    refine XS.aloadN X0.here hx rfl (hb hby d2_0) rfl rfl ?_
    refine st4.trans ?_
    show Steps p.tables e below (T4.setTop (mkF m 4 #[.val (.ref a1)] [(.int (3 : Int32))])) _
    exact retI X4 hx Bd.returns (hb hby d2_4) hr
  · show Q2_12 Z _ h0 n0 _ T4.heap _
    rw [u7]
    exact ⟨rfl, N4, rfl⟩
theorem ef_rm1_14 (m : MethodId)  : entryFrame m #[(.int (4 : Int32))] 1 = mkF m 0 #[.val (.int (4 : Int32))] [] := by first | (simp [entryFrame, mkF, argsToLocals, Value.category]; done) | rfl
def Q1_14 (Z : State) (a1 : Addr) (a4 : Addr) (a5 : Addr) (a6 : Addr) (a7 : Addr) (a8 : Addr) (a9 : Addr) (a10 : Addr) (a11 : Addr) (a12 : Addr) (a13 : Addr) (a14 : Addr) (a15 : Addr) (a16 : Addr) (a17 : Addr) (a18 : Addr) (a19 : Addr) (a20 : Addr) (k21 : ClassId) (h0 : Heap) (n0 : Nat) (v : Option Value) (h : Heap) (L : List Loc) : Prop := (v = some (.ref a8) ∧ Fr n0 L ∧ h = h0)
set_option maxRecDepth 65536 in
set_option maxHeartbeats 40000000 in
theorem rm1_14 (l : Launch) (Z : State) (a0 : Array Value) (hw : ∀ d ∈ own_ws, d.before a0 Z = true) (ws : List Jvm.Cond) (a1 : Addr) (a4 : Addr) (a5 : Addr) (a6 : Addr) (a7 : Addr) (a8 : Addr) (a9 : Addr) (a10 : Addr) (a11 : Addr) (a12 : Addr) (a13 : Addr) (a14 : Addr) (a15 : Addr) (a16 : Addr) (a17 : Addr) (a18 : Addr) (a19 : Addr) (a20 : Addr) (k21 : ClassId) (h0 : Heap) (n0 : Nat) (O0 : Old Z n0 h0) (S_2 : Sta Z Z.heap C_0 "BY_CODE" C_2 (.ref a1)) (V22 : Arv Z Z.heap a1 k21 (.object "com/example/ringstead/ringstead/node/Wire$Call") (17 : Int32) [(.ref a4), (.ref a5), (.ref a6), (.ref a7), (.ref a8), (.ref a9), (.ref a10), (.ref a11), (.ref a12), (.ref a13), (.ref a14), (.ref a15), (.ref a16), (.ref a17), (.ref a18), (.ref a19), (.ref a20)] .null) :
    MetFree l M_0 (head1 (Jvm.Cond.code M_0 prog_70_method_5_code 1 (some (.object "com/example/ringstead/ringstead/node/Wire$Call")) :: ws) ({ frames := 0, cells := 0, slots := 0, locals := 0 } : Room)) (fun a U => a = #[(.int (4 : Int32))] ∧ Z.Warmed39 U.vm ∧ U.heap = h0) (fun _ _ _ _ _ => True) (fun _ U o U' => ∃ v L, o = .returned v ∧ Q1_14 Z a1 a4 a5 a6 a7 a8 a9 a10 a11 a12 a13 a14 a15 a16 a17 a18 a19 a20 k21 h0 n0 v U'.heap L ∧ FrameEnd U o U' L ({ frames := 0, cells := 0, slots := 0, locals := 0 } : Room).cells ({ frames := 0, cells := 0, slots := 0, locals := 0 } : Room).slots) := by
  refine MetFree.of_bodySF (plainFor_of_name pn_0) hisR ?_
  intro p e s m args below meth c s₁ Bd hml0 hP hK
  obtain ⟨rfl, hZ, hh⟩ := hP
  have hx := Bd.exec
  have hby := Bd.bytes
  have hml : c.maxLocals = 1 := hml0
  have hown : s.vm.findClass "com/example/ringstead/ringstead/node/Wire$Call" = some m.cls := findClass_of_methodNamed Bd.named
  have hnm := (name_of_methodNamed Bd.named Bd.method).1
  have X0 : Stand p l e ({ frames := 0, cells := 0, slots := 0, locals := 0 } : Room) s m #[(.int (4 : Int32))] below meth c s₁ [] 0 0 := Stand.of_body Bd
  have e0 : s₁.heap = h0 := by rw [← hh, Bd.state]; rfl
  have N0 := Fr.nil n0
  have pre0 : ∀ t, Steps p.tables e below (s₁.setTop (mkF m 0 #[.val (.int (4 : Int32))] [])) t → Steps p.tables e below (s₁.setTop (entryFrame m #[(.int (4 : Int32))] 1)) t := fun t k => castTop (ef_rm1_14 m ) k
  obtain ⟨T3, X3, e3, st3⟩ := getS2 X0 hx hZ hown (host := "") (Or.inl (hw _ (gw 42 rfl))) Via.refl e0 (Sta.ext O0.2 S_2) (g := (mkF m 5 #[.val (.int (4 : Int32))] [(.int (4 : Int32))])) rfl (hb hby d1_5)
  obtain ⟨cl23, Ar23, -, Sz23, Nn23, -, -⟩ := id (V22.ext O0.2)
  obtain ⟨T24, X24, e24, st24⟩ := getS2 X3 hx hZ hown (host := "") (Or.inl (hw _ (gw 42 rfl))) Via.refl e3 (Sta.ext O0.2 S_2) (g := (mkF m 26 #[.val (.int (4 : Int32))] [])) rfl (hb hby d1_26)
  obtain ⟨cl25, Ar25, -, Sz25, -, Hh25, -⟩ := id (V22.ext O0.2)
  have hin25 : ¬ ((4 : Int32) < 0 ∨ cl25.slots.size ≤ ((4 : Int32)).toNatClampNeg) := inb_of Sz25 ⟨by decide +kernel, by decide +kernel⟩
  have hat25 : cl25.slots[((4 : Int32)).toNatClampNeg]? = some (.ref a8) := Has.at Hh25 hin25 rfl
  obtain ⟨fs, hr, hrun, hended, hW, hsame⟩ := X24.leave (v := some (.ref a8)) (fun h => by rw [Bd.returns] at h; cases h)
  refine ⟨_, _, pre0 _ ?_, hrun, hended, _, _, rfl, ?_, ⟨_, rfl⟩, hW, hsame.mono (by decide) (by decide)⟩
  · show Steps p.tables e below (s₁.setTop (mkF m 0 #[.val (.int (4 : Int32))] [])) _
    refine XS.iloadN X0.here hx rfl (hb hby d1_0) rfl ?_
    refine XS.ifNo X0.here hx rfl (hb hby d1_1) rfl ((if0 _ _).trans (flt (by decide +kernel : ¬ ((4 : Int32) < (0 : Int32)))).1) ?_
    refine XS.iloadN X0.here hx rfl (hb hby d1_4) rfl ?_
    refine st3 _ ?_
    refine X3.arraylength hx (by rw [e3]; exact Ar23.1) (State.isArrayOf_alike hZ.alike Ar23.2.1) (g := (mkF m 8 #[.val (.int (4 : Int32))] [(.ref a1), (.int (4 : Int32))])) rfl rfl (hb hby d1_8) _ ?_
    rw [len_of Sz23 Nn23]
    refine XS.icmpYes X3.here hx rfl (pc0 := 9) (pc' := 26) rfl (hb hby d1_9) rfl (tlt (by decide +kernel : (4 : Int32) < (17 : Int32))).1 (by decide) (by decide) ?_
    refine st24 _ ?_
    refine XS.iloadN X24.here hx rfl (hb hby d1_29) rfl ?_
    refine X24.aaload hx (j := (4 : Int32)) (v := (.ref a8)) (by rw [e24]; exact Ar25.1) (State.isArrayOf_alike hZ.alike Ar25.2.1) rfl Ar25.2.2 hin25 hat25 (g := (mkF m 30 #[.val (.int (4 : Int32))] [(.int (4 : Int32)), (.ref a1)])) rfl rfl (hb hby d1_30) _ ?_
    show Steps p.tables e below (T24.setTop (mkF m 31 #[.val (.int (4 : Int32))] [(.ref a8)])) _
    jvm_step X24.here [X24.here.top, hx, (hb hby d1_31), X24.method', Bd.returns, Value.isRef, FieldType.isReference]
    first | (intro acts; rw [hr _ acts rfl rfl rfl]) | rw [hr _ _ rfl rfl rfl]
    exact Steps.refl _
  · show Q1_14 Z _ _ _ _ _ _ _ _ _ _ _ _ _ _ _ _ _ _ _ h0 n0 _ T24.heap _
    rw [e24]
    exact ⟨rfl, N0, rfl⟩
theorem ef_rm3_16 (m : MethodId) (x0 : Addr) : entryFrame m #[(.ref x0)] 1 = mkF m 0 #[.val (.ref x0)] [] := by first | (simp [entryFrame, mkF, argsToLocals, Value.category]; done) | rfl
def Q3_16 (Z : State) (a1 : Addr) (h0 : Heap) (n0 : Nat) (v : Option Value) (h : Heap) (L : List Loc) : Prop := (v = some (.int (4 : Int32)) ∧ Fr n0 L ∧ h = h0)
set_option maxRecDepth 65536 in
set_option maxHeartbeats 40000000 in
theorem rm3_16 (l : Launch) (Z : State) (a0 : Array Value) (hw : ∀ d ∈ own_ws, d.before a0 Z = true) (ws : List Jvm.Cond) (a1 : Addr) (h0 : Heap) (n0 : Nat) (O0 : Old Z n0 h0) (F2 : Fld Z Z.heap a1 C_3 "ordinal" "I" (.int (4 : Int32))) :
    MetFree l M_1 (head1 (Jvm.Cond.code M_1 jdk_37_method_2_code 1 (some .int) :: ws) ({ frames := 0, cells := 0, slots := 0, locals := 0 } : Room)) (fun a U => a = #[(.ref a1)] ∧ Z.Warmed39 U.vm ∧ U.heap = h0) (fun _ _ _ _ _ => True) (fun _ U o U' => ∃ v L, o = .returned v ∧ Q3_16 Z a1 h0 n0 v U'.heap L ∧ FrameEnd U o U' L ({ frames := 0, cells := 0, slots := 0, locals := 0 } : Room).cells ({ frames := 0, cells := 0, slots := 0, locals := 0 } : Room).slots) := by
  refine MetFree.of_bodySF (plainFor_of_name pn_1) hisR ?_
  intro p e s m args below meth c s₁ Bd hml0 hP hK
  obtain ⟨rfl, hZ, hh⟩ := hP
  have hx := Bd.exec
  have hby := Bd.bytes
  have hml : c.maxLocals = 1 := hml0
  have hown : s.vm.findClass "java/lang/Enum" = some m.cls := findClass_of_methodNamed Bd.named
  have hnm := (name_of_methodNamed Bd.named Bd.method).1
  have X0 : Stand p l e ({ frames := 0, cells := 0, slots := 0, locals := 0 } : Room) s m #[(.ref a1)] below meth c s₁ [] 0 0 := Stand.of_body Bd
  have e0 : s₁.heap = h0 := by rw [← hh, Bd.state]; rfl
  have N0 := Fr.nil n0
  have pre0 : ∀ t, Steps p.tables e below (s₁.setTop (mkF m 0 #[.val (.ref a1)] [])) t → Steps p.tables e below (s₁.setTop (entryFrame m #[(.ref a1)] 1)) t := fun t k => castTop (ef_rm3_16 m a1) k
  obtain ⟨T3, X3, e3, st3⟩ := getF X0 hx hZ hown (host := "") (Or.inl (hw _ (gw 56 rfl))) Via.refl e0 (Fld.ext O0.2 F2) (g := (mkF m 1 #[.val (.ref a1)] [(.ref a1)])) rfl rfl (hb hby d3_1)
  obtain ⟨fs, hr, hrun, hended, hW, hsame⟩ := X3.leave (v := some (.int (4 : Int32))) (fun h => by rw [Bd.returns] at h; cases h)
  refine ⟨_, _, pre0 _ ?_, hrun, hended, _, _, rfl, ?_, ⟨_, rfl⟩, hW, hsame.mono (by decide) (by decide)⟩
  · show Steps p.tables e below (s₁.setTop (mkF m 0 #[.val (.ref a1)] [])) _
    refine XS.aloadN X0.here hx rfl (hb hby d3_0) rfl rfl ?_
    refine st3 _ ?_
    show Steps p.tables e below (T3.setTop (mkF m 4 #[.val (.ref a1)] [(.int (4 : Int32))])) _
    exact retI X3 hx Bd.returns (hb hby d3_4) hr
  · show Q3_16 Z _ h0 n0 _ T3.heap _
    rw [e3]
    exact ⟨rfl, N0, rfl⟩
theorem ef_rm2_15 (m : MethodId) (x0 : Addr) : entryFrame m #[(.ref x0)] 1 = mkF m 0 #[.val (.ref x0)] [] := by first | (simp [entryFrame, mkF, argsToLocals, Value.category]; done) | rfl
def Q2_15 (Z : State) (a1 : Addr) (h0 : Heap) (n0 : Nat) (v : Option Value) (h : Heap) (L : List Loc) : Prop := (v = some (.int (4 : Int32)) ∧ Fr n0 L ∧ h = h0)
set_option maxRecDepth 65536 in
set_option maxHeartbeats 40000000 in
theorem rm2_15 (l : Launch) (Z : State) (a0 : Array Value) (hw : ∀ d ∈ own_ws, d.before a0 Z = true) (ws : List Jvm.Cond) (a1 : Addr) (h0 : Heap) (n0 : Nat) (O0 : Old Z n0 h0) (E_2 : Exa Z Z.heap a1 C_0) (F3 : Fld Z Z.heap a1 C_3 "ordinal" "I" (.int (4 : Int32))) :
    MetFree l M_3 (head1 (Jvm.Cond.code M_3 prog_70_method_4_code 1 (some .int) :: ws) ({ frames := 1, cells := 0, slots := 0, locals := 12 } : Room)) (fun a U => a = #[(.ref a1)] ∧ Z.Warmed39 U.vm ∧ U.heap = h0) (fun _ _ _ _ _ => True) (fun _ U o U' => ∃ v L, o = .returned v ∧ Q2_15 Z a1 h0 n0 v U'.heap L ∧ FrameEnd U o U' L ({ frames := 1, cells := 0, slots := 0, locals := 12 } : Room).cells ({ frames := 1, cells := 0, slots := 0, locals := 12 } : Room).slots) := by
  refine MetFree.of_bodySF (plainFor_of_name pn_0) hisR ?_
  intro p e s m args below meth c s₁ Bd hml0 hP hK
  obtain ⟨rfl, hZ, hh⟩ := hP
  have hx := Bd.exec
  have hby := Bd.bytes
  have hml : c.maxLocals = 1 := hml0
  have hown : s.vm.findClass "com/example/ringstead/ringstead/node/Wire$Call" = some m.cls := findClass_of_methodNamed Bd.named
  have hnm := (name_of_methodNamed Bd.named Bd.method).1
  have X0 : Stand p l e ({ frames := 1, cells := 0, slots := 0, locals := 12 } : Room) s m #[(.ref a1)] below meth c s₁ [] 0 0 := Stand.of_body Bd
  have e0 : s₁.heap = h0 := by rw [← hh, Bd.state]; rfl
  have N0 := Fr.nil n0
  have pre0 : ∀ t, Steps p.tables e below (s₁.setTop (mkF m 0 #[.val (.ref a1)] [])) t → Steps p.tables e below (s₁.setTop (entryFrame m #[(.ref a1)] 1)) t := fun t k => castTop (ef_rm2_15 m a1) k
  obtain ⟨cq4, kq4, q4a, q4b, q4c⟩ := isOf hZ e0 (Exa.ext O0.2 E_2)
  obtain ⟨_, _, ⟨T4, L4, k4, n4⟩, -, X4, ⟨Lc4, hQ4, l4, y4, z4⟩, st4⟩ := X0.virtualBackUp hx (owner := "java/lang/Enum") (x := M_2) (y := M_1) hown (mvT hZ (hw _ (gw 49 rfl))) (mvT hZ (hw _ (gw 50 rfl))) (mvT hZ (hw _ (gw 51 rfl))) (by decide) (mvT hZ (hw _ (gw 53 rfl))) (mvT hZ (hw _ (gw 52 rfl))) (backOf (W := 0) (rm3_16 l Z a0 hw [] a1 h0 n0  O0 F3) hZ (hw _ (gw 55 rfl)) (hw _ (gw 54 rfl)) (by decide) (by decide)) q4a q4c (g := (mkF m 1 #[.val (.ref a1)] [(.ref a1)])) rfl (by rw [hml]; rfl) (Steps.refl _) (argsL := []) (rest := []) (lenOf pd_1 rfl) rfl (by show 2 * 0 + _ ≤ _; exact Nat.le_of_eq rfl) (hb hby d2_1) (fun _ _ => ⟨rfl, e0, (by decide : 0 + 0 ≤ _), (by decide : 0 + 0 ≤ _)⟩)
  dsimp only [Pt.U, Pt.locs, Pt.cells, Pt.slots] at X4 l4 y4 z4 st4 hQ4
  subst l4 y4 z4
  obtain ⟨rfl, u6, u7⟩ := hQ4
  have N4 := Fr.app N0 u6
  obtain ⟨fs, hr, hrun, hended, hW, hsame⟩ := X4.leave (v := some (.int (4 : Int32))) (fun h => by rw [Bd.returns] at h; cases h)
  refine ⟨_, _, pre0 _ ?_, hrun, hended, _, _, rfl, ?_, ⟨_, rfl⟩, hW, hsame.mono (by decide) (by decide)⟩
  · show Steps p.tables e below (s₁.setTop (mkF m 0 #[.val (.ref a1)] [])) _
    refine XS.aloadN X0.here hx rfl (hb hby d2_0) rfl rfl ?_
    refine st4.trans ?_
    show Steps p.tables e below (T4.setTop (mkF m 4 #[.val (.ref a1)] [(.int (4 : Int32))])) _
    exact retI X4 hx Bd.returns (hb hby d2_4) hr
  · show Q2_15 Z _ h0 n0 _ T4.heap _
    rw [u7]
    exact ⟨rfl, N4, rfl⟩
theorem ef_rm1_17 (m : MethodId)  : entryFrame m #[(.int (5 : Int32))] 1 = mkF m 0 #[.val (.int (5 : Int32))] [] := by first | (simp [entryFrame, mkF, argsToLocals, Value.category]; done) | rfl
def Q1_17 (Z : State) (a1 : Addr) (a4 : Addr) (a5 : Addr) (a6 : Addr) (a7 : Addr) (a8 : Addr) (a9 : Addr) (a10 : Addr) (a11 : Addr) (a12 : Addr) (a13 : Addr) (a14 : Addr) (a15 : Addr) (a16 : Addr) (a17 : Addr) (a18 : Addr) (a19 : Addr) (a20 : Addr) (k21 : ClassId) (h0 : Heap) (n0 : Nat) (v : Option Value) (h : Heap) (L : List Loc) : Prop := (v = some (.ref a9) ∧ Fr n0 L ∧ h = h0)
set_option maxRecDepth 65536 in
set_option maxHeartbeats 40000000 in
theorem rm1_17 (l : Launch) (Z : State) (a0 : Array Value) (hw : ∀ d ∈ own_ws, d.before a0 Z = true) (ws : List Jvm.Cond) (a1 : Addr) (a4 : Addr) (a5 : Addr) (a6 : Addr) (a7 : Addr) (a8 : Addr) (a9 : Addr) (a10 : Addr) (a11 : Addr) (a12 : Addr) (a13 : Addr) (a14 : Addr) (a15 : Addr) (a16 : Addr) (a17 : Addr) (a18 : Addr) (a19 : Addr) (a20 : Addr) (k21 : ClassId) (h0 : Heap) (n0 : Nat) (O0 : Old Z n0 h0) (S_2 : Sta Z Z.heap C_0 "BY_CODE" C_2 (.ref a1)) (V22 : Arv Z Z.heap a1 k21 (.object "com/example/ringstead/ringstead/node/Wire$Call") (17 : Int32) [(.ref a4), (.ref a5), (.ref a6), (.ref a7), (.ref a8), (.ref a9), (.ref a10), (.ref a11), (.ref a12), (.ref a13), (.ref a14), (.ref a15), (.ref a16), (.ref a17), (.ref a18), (.ref a19), (.ref a20)] .null) :
    MetFree l M_0 (head1 (Jvm.Cond.code M_0 prog_70_method_5_code 1 (some (.object "com/example/ringstead/ringstead/node/Wire$Call")) :: ws) ({ frames := 0, cells := 0, slots := 0, locals := 0 } : Room)) (fun a U => a = #[(.int (5 : Int32))] ∧ Z.Warmed39 U.vm ∧ U.heap = h0) (fun _ _ _ _ _ => True) (fun _ U o U' => ∃ v L, o = .returned v ∧ Q1_17 Z a1 a4 a5 a6 a7 a8 a9 a10 a11 a12 a13 a14 a15 a16 a17 a18 a19 a20 k21 h0 n0 v U'.heap L ∧ FrameEnd U o U' L ({ frames := 0, cells := 0, slots := 0, locals := 0 } : Room).cells ({ frames := 0, cells := 0, slots := 0, locals := 0 } : Room).slots) := by
  refine MetFree.of_bodySF (plainFor_of_name pn_0) hisR ?_
  intro p e s m args below meth c s₁ Bd hml0 hP hK
  obtain ⟨rfl, hZ, hh⟩ := hP
  have hx := Bd.exec
  have hby := Bd.bytes
  have hml : c.maxLocals = 1 := hml0
  have hown : s.vm.findClass "com/example/ringstead/ringstead/node/Wire$Call" = some m.cls := findClass_of_methodNamed Bd.named
  have hnm := (name_of_methodNamed Bd.named Bd.method).1
  have X0 : Stand p l e ({ frames := 0, cells := 0, slots := 0, locals := 0 } : Room) s m #[(.int (5 : Int32))] below meth c s₁ [] 0 0 := Stand.of_body Bd
  have e0 : s₁.heap = h0 := by rw [← hh, Bd.state]; rfl
  have N0 := Fr.nil n0
  have pre0 : ∀ t, Steps p.tables e below (s₁.setTop (mkF m 0 #[.val (.int (5 : Int32))] [])) t → Steps p.tables e below (s₁.setTop (entryFrame m #[(.int (5 : Int32))] 1)) t := fun t k => castTop (ef_rm1_17 m ) k
  obtain ⟨T3, X3, e3, st3⟩ := getS2 X0 hx hZ hown (host := "") (Or.inl (hw _ (gw 42 rfl))) Via.refl e0 (Sta.ext O0.2 S_2) (g := (mkF m 5 #[.val (.int (5 : Int32))] [(.int (5 : Int32))])) rfl (hb hby d1_5)
  obtain ⟨cl23, Ar23, -, Sz23, Nn23, -, -⟩ := id (V22.ext O0.2)
  obtain ⟨T24, X24, e24, st24⟩ := getS2 X3 hx hZ hown (host := "") (Or.inl (hw _ (gw 42 rfl))) Via.refl e3 (Sta.ext O0.2 S_2) (g := (mkF m 26 #[.val (.int (5 : Int32))] [])) rfl (hb hby d1_26)
  obtain ⟨cl25, Ar25, -, Sz25, -, Hh25, -⟩ := id (V22.ext O0.2)
  have hin25 : ¬ ((5 : Int32) < 0 ∨ cl25.slots.size ≤ ((5 : Int32)).toNatClampNeg) := inb_of Sz25 ⟨by decide +kernel, by decide +kernel⟩
  have hat25 : cl25.slots[((5 : Int32)).toNatClampNeg]? = some (.ref a9) := Has.at Hh25 hin25 rfl
  obtain ⟨fs, hr, hrun, hended, hW, hsame⟩ := X24.leave (v := some (.ref a9)) (fun h => by rw [Bd.returns] at h; cases h)
  refine ⟨_, _, pre0 _ ?_, hrun, hended, _, _, rfl, ?_, ⟨_, rfl⟩, hW, hsame.mono (by decide) (by decide)⟩
  · show Steps p.tables e below (s₁.setTop (mkF m 0 #[.val (.int (5 : Int32))] [])) _
    refine XS.iloadN X0.here hx rfl (hb hby d1_0) rfl ?_
    refine XS.ifNo X0.here hx rfl (hb hby d1_1) rfl ((if0 _ _).trans (flt (by decide +kernel : ¬ ((5 : Int32) < (0 : Int32)))).1) ?_
    refine XS.iloadN X0.here hx rfl (hb hby d1_4) rfl ?_
    refine st3 _ ?_
    refine X3.arraylength hx (by rw [e3]; exact Ar23.1) (State.isArrayOf_alike hZ.alike Ar23.2.1) (g := (mkF m 8 #[.val (.int (5 : Int32))] [(.ref a1), (.int (5 : Int32))])) rfl rfl (hb hby d1_8) _ ?_
    rw [len_of Sz23 Nn23]
    refine XS.icmpYes X3.here hx rfl (pc0 := 9) (pc' := 26) rfl (hb hby d1_9) rfl (tlt (by decide +kernel : (5 : Int32) < (17 : Int32))).1 (by decide) (by decide) ?_
    refine st24 _ ?_
    refine XS.iloadN X24.here hx rfl (hb hby d1_29) rfl ?_
    refine X24.aaload hx (j := (5 : Int32)) (v := (.ref a9)) (by rw [e24]; exact Ar25.1) (State.isArrayOf_alike hZ.alike Ar25.2.1) rfl Ar25.2.2 hin25 hat25 (g := (mkF m 30 #[.val (.int (5 : Int32))] [(.int (5 : Int32)), (.ref a1)])) rfl rfl (hb hby d1_30) _ ?_
    show Steps p.tables e below (T24.setTop (mkF m 31 #[.val (.int (5 : Int32))] [(.ref a9)])) _
    jvm_step X24.here [X24.here.top, hx, (hb hby d1_31), X24.method', Bd.returns, Value.isRef, FieldType.isReference]
    first | (intro acts; rw [hr _ acts rfl rfl rfl]) | rw [hr _ _ rfl rfl rfl]
    exact Steps.refl _
  · show Q1_17 Z _ _ _ _ _ _ _ _ _ _ _ _ _ _ _ _ _ _ _ h0 n0 _ T24.heap _
    rw [e24]
    exact ⟨rfl, N0, rfl⟩
theorem ef_rm3_19 (m : MethodId) (x0 : Addr) : entryFrame m #[(.ref x0)] 1 = mkF m 0 #[.val (.ref x0)] [] := by first | (simp [entryFrame, mkF, argsToLocals, Value.category]; done) | rfl
def Q3_19 (Z : State) (a1 : Addr) (h0 : Heap) (n0 : Nat) (v : Option Value) (h : Heap) (L : List Loc) : Prop := (v = some (.int (5 : Int32)) ∧ Fr n0 L ∧ h = h0)
set_option maxRecDepth 65536 in
set_option maxHeartbeats 40000000 in
theorem rm3_19 (l : Launch) (Z : State) (a0 : Array Value) (hw : ∀ d ∈ own_ws, d.before a0 Z = true) (ws : List Jvm.Cond) (a1 : Addr) (h0 : Heap) (n0 : Nat) (O0 : Old Z n0 h0) (F2 : Fld Z Z.heap a1 C_3 "ordinal" "I" (.int (5 : Int32))) :
    MetFree l M_1 (head1 (Jvm.Cond.code M_1 jdk_37_method_2_code 1 (some .int) :: ws) ({ frames := 0, cells := 0, slots := 0, locals := 0 } : Room)) (fun a U => a = #[(.ref a1)] ∧ Z.Warmed39 U.vm ∧ U.heap = h0) (fun _ _ _ _ _ => True) (fun _ U o U' => ∃ v L, o = .returned v ∧ Q3_19 Z a1 h0 n0 v U'.heap L ∧ FrameEnd U o U' L ({ frames := 0, cells := 0, slots := 0, locals := 0 } : Room).cells ({ frames := 0, cells := 0, slots := 0, locals := 0 } : Room).slots) := by
  refine MetFree.of_bodySF (plainFor_of_name pn_1) hisR ?_
  intro p e s m args below meth c s₁ Bd hml0 hP hK
  obtain ⟨rfl, hZ, hh⟩ := hP
  have hx := Bd.exec
  have hby := Bd.bytes
  have hml : c.maxLocals = 1 := hml0
  have hown : s.vm.findClass "java/lang/Enum" = some m.cls := findClass_of_methodNamed Bd.named
  have hnm := (name_of_methodNamed Bd.named Bd.method).1
  have X0 : Stand p l e ({ frames := 0, cells := 0, slots := 0, locals := 0 } : Room) s m #[(.ref a1)] below meth c s₁ [] 0 0 := Stand.of_body Bd
  have e0 : s₁.heap = h0 := by rw [← hh, Bd.state]; rfl
  have N0 := Fr.nil n0
  have pre0 : ∀ t, Steps p.tables e below (s₁.setTop (mkF m 0 #[.val (.ref a1)] [])) t → Steps p.tables e below (s₁.setTop (entryFrame m #[(.ref a1)] 1)) t := fun t k => castTop (ef_rm3_19 m a1) k
  obtain ⟨T3, X3, e3, st3⟩ := getF X0 hx hZ hown (host := "") (Or.inl (hw _ (gw 56 rfl))) Via.refl e0 (Fld.ext O0.2 F2) (g := (mkF m 1 #[.val (.ref a1)] [(.ref a1)])) rfl rfl (hb hby d3_1)
  obtain ⟨fs, hr, hrun, hended, hW, hsame⟩ := X3.leave (v := some (.int (5 : Int32))) (fun h => by rw [Bd.returns] at h; cases h)
  refine ⟨_, _, pre0 _ ?_, hrun, hended, _, _, rfl, ?_, ⟨_, rfl⟩, hW, hsame.mono (by decide) (by decide)⟩
  · show Steps p.tables e below (s₁.setTop (mkF m 0 #[.val (.ref a1)] [])) _
    refine XS.aloadN X0.here hx rfl (hb hby d3_0) rfl rfl ?_
    refine st3 _ ?_
    show Steps p.tables e below (T3.setTop (mkF m 4 #[.val (.ref a1)] [(.int (5 : Int32))])) _
    exact retI X3 hx Bd.returns (hb hby d3_4) hr
  · show Q3_19 Z _ h0 n0 _ T3.heap _
    rw [e3]
    exact ⟨rfl, N0, rfl⟩
theorem ef_rm2_18 (m : MethodId) (x0 : Addr) : entryFrame m #[(.ref x0)] 1 = mkF m 0 #[.val (.ref x0)] [] := by first | (simp [entryFrame, mkF, argsToLocals, Value.category]; done) | rfl
def Q2_18 (Z : State) (a1 : Addr) (h0 : Heap) (n0 : Nat) (v : Option Value) (h : Heap) (L : List Loc) : Prop := (v = some (.int (5 : Int32)) ∧ Fr n0 L ∧ h = h0)
set_option maxRecDepth 65536 in
set_option maxHeartbeats 40000000 in
theorem rm2_18 (l : Launch) (Z : State) (a0 : Array Value) (hw : ∀ d ∈ own_ws, d.before a0 Z = true) (ws : List Jvm.Cond) (a1 : Addr) (h0 : Heap) (n0 : Nat) (O0 : Old Z n0 h0) (E_2 : Exa Z Z.heap a1 C_0) (F3 : Fld Z Z.heap a1 C_3 "ordinal" "I" (.int (5 : Int32))) :
    MetFree l M_3 (head1 (Jvm.Cond.code M_3 prog_70_method_4_code 1 (some .int) :: ws) ({ frames := 1, cells := 0, slots := 0, locals := 12 } : Room)) (fun a U => a = #[(.ref a1)] ∧ Z.Warmed39 U.vm ∧ U.heap = h0) (fun _ _ _ _ _ => True) (fun _ U o U' => ∃ v L, o = .returned v ∧ Q2_18 Z a1 h0 n0 v U'.heap L ∧ FrameEnd U o U' L ({ frames := 1, cells := 0, slots := 0, locals := 12 } : Room).cells ({ frames := 1, cells := 0, slots := 0, locals := 12 } : Room).slots) := by
  refine MetFree.of_bodySF (plainFor_of_name pn_0) hisR ?_
  intro p e s m args below meth c s₁ Bd hml0 hP hK
  obtain ⟨rfl, hZ, hh⟩ := hP
  have hx := Bd.exec
  have hby := Bd.bytes
  have hml : c.maxLocals = 1 := hml0
  have hown : s.vm.findClass "com/example/ringstead/ringstead/node/Wire$Call" = some m.cls := findClass_of_methodNamed Bd.named
  have hnm := (name_of_methodNamed Bd.named Bd.method).1
  have X0 : Stand p l e ({ frames := 1, cells := 0, slots := 0, locals := 12 } : Room) s m #[(.ref a1)] below meth c s₁ [] 0 0 := Stand.of_body Bd
  have e0 : s₁.heap = h0 := by rw [← hh, Bd.state]; rfl
  have N0 := Fr.nil n0
  have pre0 : ∀ t, Steps p.tables e below (s₁.setTop (mkF m 0 #[.val (.ref a1)] [])) t → Steps p.tables e below (s₁.setTop (entryFrame m #[(.ref a1)] 1)) t := fun t k => castTop (ef_rm2_18 m a1) k
  obtain ⟨cq4, kq4, q4a, q4b, q4c⟩ := isOf hZ e0 (Exa.ext O0.2 E_2)
  obtain ⟨_, _, ⟨T4, L4, k4, n4⟩, -, X4, ⟨Lc4, hQ4, l4, y4, z4⟩, st4⟩ := X0.virtualBackUp hx (owner := "java/lang/Enum") (x := M_2) (y := M_1) hown (mvT hZ (hw _ (gw 49 rfl))) (mvT hZ (hw _ (gw 50 rfl))) (mvT hZ (hw _ (gw 51 rfl))) (by decide) (mvT hZ (hw _ (gw 53 rfl))) (mvT hZ (hw _ (gw 52 rfl))) (backOf (W := 0) (rm3_19 l Z a0 hw [] a1 h0 n0  O0 F3) hZ (hw _ (gw 55 rfl)) (hw _ (gw 54 rfl)) (by decide) (by decide)) q4a q4c (g := (mkF m 1 #[.val (.ref a1)] [(.ref a1)])) rfl (by rw [hml]; rfl) (Steps.refl _) (argsL := []) (rest := []) (lenOf pd_1 rfl) rfl (by show 2 * 0 + _ ≤ _; exact Nat.le_of_eq rfl) (hb hby d2_1) (fun _ _ => ⟨rfl, e0, (by decide : 0 + 0 ≤ _), (by decide : 0 + 0 ≤ _)⟩)
  dsimp only [Pt.U, Pt.locs, Pt.cells, Pt.slots] at X4 l4 y4 z4 st4 hQ4
  subst l4 y4 z4
  obtain ⟨rfl, u6, u7⟩ := hQ4
  have N4 := Fr.app N0 u6
  obtain ⟨fs, hr, hrun, hended, hW, hsame⟩ := X4.leave (v := some (.int (5 : Int32))) (fun h => by rw [Bd.returns] at h; cases h)
  refine ⟨_, _, pre0 _ ?_, hrun, hended, _, _, rfl, ?_, ⟨_, rfl⟩, hW, hsame.mono (by decide) (by decide)⟩
  · show Steps p.tables e below (s₁.setTop (mkF m 0 #[.val (.ref a1)] [])) _
    refine XS.aloadN X0.here hx rfl (hb hby d2_0) rfl rfl ?_
    refine st4.trans ?_
    show Steps p.tables e below (T4.setTop (mkF m 4 #[.val (.ref a1)] [(.int (5 : Int32))])) _
    exact retI X4 hx Bd.returns (hb hby d2_4) hr
  · show Q2_18 Z _ h0 n0 _ T4.heap _
    rw [u7]
    exact ⟨rfl, N4, rfl⟩
theorem ef_rm1_20 (m : MethodId)  : entryFrame m #[(.int (6 : Int32))] 1 = mkF m 0 #[.val (.int (6 : Int32))] [] := by first | (simp [entryFrame, mkF, argsToLocals, Value.category]; done) | rfl
def Q1_20 (Z : State) (a1 : Addr) (a4 : Addr) (a5 : Addr) (a6 : Addr) (a7 : Addr) (a8 : Addr) (a9 : Addr) (a10 : Addr) (a11 : Addr) (a12 : Addr) (a13 : Addr) (a14 : Addr) (a15 : Addr) (a16 : Addr) (a17 : Addr) (a18 : Addr) (a19 : Addr) (a20 : Addr) (k21 : ClassId) (h0 : Heap) (n0 : Nat) (v : Option Value) (h : Heap) (L : List Loc) : Prop := (v = some (.ref a10) ∧ Fr n0 L ∧ h = h0)
set_option maxRecDepth 65536 in
set_option maxHeartbeats 40000000 in
theorem rm1_20 (l : Launch) (Z : State) (a0 : Array Value) (hw : ∀ d ∈ own_ws, d.before a0 Z = true) (ws : List Jvm.Cond) (a1 : Addr) (a4 : Addr) (a5 : Addr) (a6 : Addr) (a7 : Addr) (a8 : Addr) (a9 : Addr) (a10 : Addr) (a11 : Addr) (a12 : Addr) (a13 : Addr) (a14 : Addr) (a15 : Addr) (a16 : Addr) (a17 : Addr) (a18 : Addr) (a19 : Addr) (a20 : Addr) (k21 : ClassId) (h0 : Heap) (n0 : Nat) (O0 : Old Z n0 h0) (S_2 : Sta Z Z.heap C_0 "BY_CODE" C_2 (.ref a1)) (V22 : Arv Z Z.heap a1 k21 (.object "com/example/ringstead/ringstead/node/Wire$Call") (17 : Int32) [(.ref a4), (.ref a5), (.ref a6), (.ref a7), (.ref a8), (.ref a9), (.ref a10), (.ref a11), (.ref a12), (.ref a13), (.ref a14), (.ref a15), (.ref a16), (.ref a17), (.ref a18), (.ref a19), (.ref a20)] .null) :
    MetFree l M_0 (head1 (Jvm.Cond.code M_0 prog_70_method_5_code 1 (some (.object "com/example/ringstead/ringstead/node/Wire$Call")) :: ws) ({ frames := 0, cells := 0, slots := 0, locals := 0 } : Room)) (fun a U => a = #[(.int (6 : Int32))] ∧ Z.Warmed39 U.vm ∧ U.heap = h0) (fun _ _ _ _ _ => True) (fun _ U o U' => ∃ v L, o = .returned v ∧ Q1_20 Z a1 a4 a5 a6 a7 a8 a9 a10 a11 a12 a13 a14 a15 a16 a17 a18 a19 a20 k21 h0 n0 v U'.heap L ∧ FrameEnd U o U' L ({ frames := 0, cells := 0, slots := 0, locals := 0 } : Room).cells ({ frames := 0, cells := 0, slots := 0, locals := 0 } : Room).slots) := by
  refine MetFree.of_bodySF (plainFor_of_name pn_0) hisR ?_
  intro p e s m args below meth c s₁ Bd hml0 hP hK
  obtain ⟨rfl, hZ, hh⟩ := hP
  have hx := Bd.exec
  have hby := Bd.bytes
  have hml : c.maxLocals = 1 := hml0
  have hown : s.vm.findClass "com/example/ringstead/ringstead/node/Wire$Call" = some m.cls := findClass_of_methodNamed Bd.named
  have hnm := (name_of_methodNamed Bd.named Bd.method).1
  have X0 : Stand p l e ({ frames := 0, cells := 0, slots := 0, locals := 0 } : Room) s m #[(.int (6 : Int32))] below meth c s₁ [] 0 0 := Stand.of_body Bd
  have e0 : s₁.heap = h0 := by rw [← hh, Bd.state]; rfl
  have N0 := Fr.nil n0
  have pre0 : ∀ t, Steps p.tables e below (s₁.setTop (mkF m 0 #[.val (.int (6 : Int32))] [])) t → Steps p.tables e below (s₁.setTop (entryFrame m #[(.int (6 : Int32))] 1)) t := fun t k => castTop (ef_rm1_20 m ) k
  obtain ⟨T3, X3, e3, st3⟩ := getS2 X0 hx hZ hown (host := "") (Or.inl (hw _ (gw 42 rfl))) Via.refl e0 (Sta.ext O0.2 S_2) (g := (mkF m 5 #[.val (.int (6 : Int32))] [(.int (6 : Int32))])) rfl (hb hby d1_5)
  obtain ⟨cl23, Ar23, -, Sz23, Nn23, -, -⟩ := id (V22.ext O0.2)
  obtain ⟨T24, X24, e24, st24⟩ := getS2 X3 hx hZ hown (host := "") (Or.inl (hw _ (gw 42 rfl))) Via.refl e3 (Sta.ext O0.2 S_2) (g := (mkF m 26 #[.val (.int (6 : Int32))] [])) rfl (hb hby d1_26)
  obtain ⟨cl25, Ar25, -, Sz25, -, Hh25, -⟩ := id (V22.ext O0.2)
  have hin25 : ¬ ((6 : Int32) < 0 ∨ cl25.slots.size ≤ ((6 : Int32)).toNatClampNeg) := inb_of Sz25 ⟨by decide +kernel, by decide +kernel⟩
  have hat25 : cl25.slots[((6 : Int32)).toNatClampNeg]? = some (.ref a10) := Has.at Hh25 hin25 rfl
  obtain ⟨fs, hr, hrun, hended, hW, hsame⟩ := X24.leave (v := some (.ref a10)) (fun h => by rw [Bd.returns] at h; cases h)
  refine ⟨_, _, pre0 _ ?_, hrun, hended, _, _, rfl, ?_, ⟨_, rfl⟩, hW, hsame.mono (by decide) (by decide)⟩
  · show Steps p.tables e below (s₁.setTop (mkF m 0 #[.val (.int (6 : Int32))] [])) _
    refine XS.iloadN X0.here hx rfl (hb hby d1_0) rfl ?_
    refine XS.ifNo X0.here hx rfl (hb hby d1_1) rfl ((if0 _ _).trans (flt (by decide +kernel : ¬ ((6 : Int32) < (0 : Int32)))).1) ?_
    refine XS.iloadN X0.here hx rfl (hb hby d1_4) rfl ?_
    refine st3 _ ?_
    refine X3.arraylength hx (by rw [e3]; exact Ar23.1) (State.isArrayOf_alike hZ.alike Ar23.2.1) (g := (mkF m 8 #[.val (.int (6 : Int32))] [(.ref a1), (.int (6 : Int32))])) rfl rfl (hb hby d1_8) _ ?_
    rw [len_of Sz23 Nn23]
    refine XS.icmpYes X3.here hx rfl (pc0 := 9) (pc' := 26) rfl (hb hby d1_9) rfl (tlt (by decide +kernel : (6 : Int32) < (17 : Int32))).1 (by decide) (by decide) ?_
    refine st24 _ ?_
    refine XS.iloadN X24.here hx rfl (hb hby d1_29) rfl ?_
    refine X24.aaload hx (j := (6 : Int32)) (v := (.ref a10)) (by rw [e24]; exact Ar25.1) (State.isArrayOf_alike hZ.alike Ar25.2.1) rfl Ar25.2.2 hin25 hat25 (g := (mkF m 30 #[.val (.int (6 : Int32))] [(.int (6 : Int32)), (.ref a1)])) rfl rfl (hb hby d1_30) _ ?_
    show Steps p.tables e below (T24.setTop (mkF m 31 #[.val (.int (6 : Int32))] [(.ref a10)])) _
    jvm_step X24.here [X24.here.top, hx, (hb hby d1_31), X24.method', Bd.returns, Value.isRef, FieldType.isReference]
    first | (intro acts; rw [hr _ acts rfl rfl rfl]) | rw [hr _ _ rfl rfl rfl]
    exact Steps.refl _
  · show Q1_20 Z _ _ _ _ _ _ _ _ _ _ _ _ _ _ _ _ _ _ _ h0 n0 _ T24.heap _
    rw [e24]
    exact ⟨rfl, N0, rfl⟩
theorem ef_rm3_22 (m : MethodId) (x0 : Addr) : entryFrame m #[(.ref x0)] 1 = mkF m 0 #[.val (.ref x0)] [] := by first | (simp [entryFrame, mkF, argsToLocals, Value.category]; done) | rfl
def Q3_22 (Z : State) (a1 : Addr) (h0 : Heap) (n0 : Nat) (v : Option Value) (h : Heap) (L : List Loc) : Prop := (v = some (.int (6 : Int32)) ∧ Fr n0 L ∧ h = h0)
set_option maxRecDepth 65536 in
set_option maxHeartbeats 40000000 in
theorem rm3_22 (l : Launch) (Z : State) (a0 : Array Value) (hw : ∀ d ∈ own_ws, d.before a0 Z = true) (ws : List Jvm.Cond) (a1 : Addr) (h0 : Heap) (n0 : Nat) (O0 : Old Z n0 h0) (F2 : Fld Z Z.heap a1 C_3 "ordinal" "I" (.int (6 : Int32))) :
    MetFree l M_1 (head1 (Jvm.Cond.code M_1 jdk_37_method_2_code 1 (some .int) :: ws) ({ frames := 0, cells := 0, slots := 0, locals := 0 } : Room)) (fun a U => a = #[(.ref a1)] ∧ Z.Warmed39 U.vm ∧ U.heap = h0) (fun _ _ _ _ _ => True) (fun _ U o U' => ∃ v L, o = .returned v ∧ Q3_22 Z a1 h0 n0 v U'.heap L ∧ FrameEnd U o U' L ({ frames := 0, cells := 0, slots := 0, locals := 0 } : Room).cells ({ frames := 0, cells := 0, slots := 0, locals := 0 } : Room).slots) := by
  refine MetFree.of_bodySF (plainFor_of_name pn_1) hisR ?_
  intro p e s m args below meth c s₁ Bd hml0 hP hK
  obtain ⟨rfl, hZ, hh⟩ := hP
  have hx := Bd.exec
  have hby := Bd.bytes
  have hml : c.maxLocals = 1 := hml0
  have hown : s.vm.findClass "java/lang/Enum" = some m.cls := findClass_of_methodNamed Bd.named
  have hnm := (name_of_methodNamed Bd.named Bd.method).1
  have X0 : Stand p l e ({ frames := 0, cells := 0, slots := 0, locals := 0 } : Room) s m #[(.ref a1)] below meth c s₁ [] 0 0 := Stand.of_body Bd
  have e0 : s₁.heap = h0 := by rw [← hh, Bd.state]; rfl
  have N0 := Fr.nil n0
  have pre0 : ∀ t, Steps p.tables e below (s₁.setTop (mkF m 0 #[.val (.ref a1)] [])) t → Steps p.tables e below (s₁.setTop (entryFrame m #[(.ref a1)] 1)) t := fun t k => castTop (ef_rm3_22 m a1) k
  obtain ⟨T3, X3, e3, st3⟩ := getF X0 hx hZ hown (host := "") (Or.inl (hw _ (gw 56 rfl))) Via.refl e0 (Fld.ext O0.2 F2) (g := (mkF m 1 #[.val (.ref a1)] [(.ref a1)])) rfl rfl (hb hby d3_1)
  obtain ⟨fs, hr, hrun, hended, hW, hsame⟩ := X3.leave (v := some (.int (6 : Int32))) (fun h => by rw [Bd.returns] at h; cases h)
  refine ⟨_, _, pre0 _ ?_, hrun, hended, _, _, rfl, ?_, ⟨_, rfl⟩, hW, hsame.mono (by decide) (by decide)⟩
  · show Steps p.tables e below (s₁.setTop (mkF m 0 #[.val (.ref a1)] [])) _
    refine XS.aloadN X0.here hx rfl (hb hby d3_0) rfl rfl ?_
    refine st3 _ ?_
    show Steps p.tables e below (T3.setTop (mkF m 4 #[.val (.ref a1)] [(.int (6 : Int32))])) _
    exact retI X3 hx Bd.returns (hb hby d3_4) hr
  · show Q3_22 Z _ h0 n0 _ T3.heap _
    rw [e3]
    exact ⟨rfl, N0, rfl⟩
theorem ef_rm2_21 (m : MethodId) (x0 : Addr) : entryFrame m #[(.ref x0)] 1 = mkF m 0 #[.val (.ref x0)] [] := by first | (simp [entryFrame, mkF, argsToLocals, Value.category]; done) | rfl
def Q2_21 (Z : State) (a1 : Addr) (h0 : Heap) (n0 : Nat) (v : Option Value) (h : Heap) (L : List Loc) : Prop := (v = some (.int (6 : Int32)) ∧ Fr n0 L ∧ h = h0)
set_option maxRecDepth 65536 in
set_option maxHeartbeats 40000000 in
theorem rm2_21 (l : Launch) (Z : State) (a0 : Array Value) (hw : ∀ d ∈ own_ws, d.before a0 Z = true) (ws : List Jvm.Cond) (a1 : Addr) (h0 : Heap) (n0 : Nat) (O0 : Old Z n0 h0) (E_2 : Exa Z Z.heap a1 C_0) (F3 : Fld Z Z.heap a1 C_3 "ordinal" "I" (.int (6 : Int32))) :
    MetFree l M_3 (head1 (Jvm.Cond.code M_3 prog_70_method_4_code 1 (some .int) :: ws) ({ frames := 1, cells := 0, slots := 0, locals := 12 } : Room)) (fun a U => a = #[(.ref a1)] ∧ Z.Warmed39 U.vm ∧ U.heap = h0) (fun _ _ _ _ _ => True) (fun _ U o U' => ∃ v L, o = .returned v ∧ Q2_21 Z a1 h0 n0 v U'.heap L ∧ FrameEnd U o U' L ({ frames := 1, cells := 0, slots := 0, locals := 12 } : Room).cells ({ frames := 1, cells := 0, slots := 0, locals := 12 } : Room).slots) := by
  refine MetFree.of_bodySF (plainFor_of_name pn_0) hisR ?_
  intro p e s m args below meth c s₁ Bd hml0 hP hK
  obtain ⟨rfl, hZ, hh⟩ := hP
  have hx := Bd.exec
  have hby := Bd.bytes
  have hml : c.maxLocals = 1 := hml0
  have hown : s.vm.findClass "com/example/ringstead/ringstead/node/Wire$Call" = some m.cls := findClass_of_methodNamed Bd.named
  have hnm := (name_of_methodNamed Bd.named Bd.method).1
  have X0 : Stand p l e ({ frames := 1, cells := 0, slots := 0, locals := 12 } : Room) s m #[(.ref a1)] below meth c s₁ [] 0 0 := Stand.of_body Bd
  have e0 : s₁.heap = h0 := by rw [← hh, Bd.state]; rfl
  have N0 := Fr.nil n0
  have pre0 : ∀ t, Steps p.tables e below (s₁.setTop (mkF m 0 #[.val (.ref a1)] [])) t → Steps p.tables e below (s₁.setTop (entryFrame m #[(.ref a1)] 1)) t := fun t k => castTop (ef_rm2_21 m a1) k
  obtain ⟨cq4, kq4, q4a, q4b, q4c⟩ := isOf hZ e0 (Exa.ext O0.2 E_2)
  obtain ⟨_, _, ⟨T4, L4, k4, n4⟩, -, X4, ⟨Lc4, hQ4, l4, y4, z4⟩, st4⟩ := X0.virtualBackUp hx (owner := "java/lang/Enum") (x := M_2) (y := M_1) hown (mvT hZ (hw _ (gw 49 rfl))) (mvT hZ (hw _ (gw 50 rfl))) (mvT hZ (hw _ (gw 51 rfl))) (by decide) (mvT hZ (hw _ (gw 53 rfl))) (mvT hZ (hw _ (gw 52 rfl))) (backOf (W := 0) (rm3_22 l Z a0 hw [] a1 h0 n0  O0 F3) hZ (hw _ (gw 55 rfl)) (hw _ (gw 54 rfl)) (by decide) (by decide)) q4a q4c (g := (mkF m 1 #[.val (.ref a1)] [(.ref a1)])) rfl (by rw [hml]; rfl) (Steps.refl _) (argsL := []) (rest := []) (lenOf pd_1 rfl) rfl (by show 2 * 0 + _ ≤ _; exact Nat.le_of_eq rfl) (hb hby d2_1) (fun _ _ => ⟨rfl, e0, (by decide : 0 + 0 ≤ _), (by decide : 0 + 0 ≤ _)⟩)
  dsimp only [Pt.U, Pt.locs, Pt.cells, Pt.slots] at X4 l4 y4 z4 st4 hQ4
  subst l4 y4 z4
  obtain ⟨rfl, u6, u7⟩ := hQ4
  have N4 := Fr.app N0 u6
  obtain ⟨fs, hr, hrun, hended, hW, hsame⟩ := X4.leave (v := some (.int (6 : Int32))) (fun h => by rw [Bd.returns] at h; cases h)
  refine ⟨_, _, pre0 _ ?_, hrun, hended, _, _, rfl, ?_, ⟨_, rfl⟩, hW, hsame.mono (by decide) (by decide)⟩
  · show Steps p.tables e below (s₁.setTop (mkF m 0 #[.val (.ref a1)] [])) _
    refine XS.aloadN X0.here hx rfl (hb hby d2_0) rfl rfl ?_
    refine st4.trans ?_
    show Steps p.tables e below (T4.setTop (mkF m 4 #[.val (.ref a1)] [(.int (6 : Int32))])) _
    exact retI X4 hx Bd.returns (hb hby d2_4) hr
  · show Q2_21 Z _ h0 n0 _ T4.heap _
    rw [u7]
    exact ⟨rfl, N4, rfl⟩
theorem ef_rm1_23 (m : MethodId)  : entryFrame m #[(.int (7 : Int32))] 1 = mkF m 0 #[.val (.int (7 : Int32))] [] := by first | (simp [entryFrame, mkF, argsToLocals, Value.category]; done) | rfl
def Q1_23 (Z : State) (a1 : Addr) (a4 : Addr) (a5 : Addr) (a6 : Addr) (a7 : Addr) (a8 : Addr) (a9 : Addr) (a10 : Addr) (a11 : Addr) (a12 : Addr) (a13 : Addr) (a14 : Addr) (a15 : Addr) (a16 : Addr) (a17 : Addr) (a18 : Addr) (a19 : Addr) (a20 : Addr) (k21 : ClassId) (h0 : Heap) (n0 : Nat) (v : Option Value) (h : Heap) (L : List Loc) : Prop := (v = some (.ref a11) ∧ Fr n0 L ∧ h = h0)
set_option maxRecDepth 65536 in
set_option maxHeartbeats 40000000 in
theorem rm1_23 (l : Launch) (Z : State) (a0 : Array Value) (hw : ∀ d ∈ own_ws, d.before a0 Z = true) (ws : List Jvm.Cond) (a1 : Addr) (a4 : Addr) (a5 : Addr) (a6 : Addr) (a7 : Addr) (a8 : Addr) (a9 : Addr) (a10 : Addr) (a11 : Addr) (a12 : Addr) (a13 : Addr) (a14 : Addr) (a15 : Addr) (a16 : Addr) (a17 : Addr) (a18 : Addr) (a19 : Addr) (a20 : Addr) (k21 : ClassId) (h0 : Heap) (n0 : Nat) (O0 : Old Z n0 h0) (S_2 : Sta Z Z.heap C_0 "BY_CODE" C_2 (.ref a1)) (V22 : Arv Z Z.heap a1 k21 (.object "com/example/ringstead/ringstead/node/Wire$Call") (17 : Int32) [(.ref a4), (.ref a5), (.ref a6), (.ref a7), (.ref a8), (.ref a9), (.ref a10), (.ref a11), (.ref a12), (.ref a13), (.ref a14), (.ref a15), (.ref a16), (.ref a17), (.ref a18), (.ref a19), (.ref a20)] .null) :
    MetFree l M_0 (head1 (Jvm.Cond.code M_0 prog_70_method_5_code 1 (some (.object "com/example/ringstead/ringstead/node/Wire$Call")) :: ws) ({ frames := 0, cells := 0, slots := 0, locals := 0 } : Room)) (fun a U => a = #[(.int (7 : Int32))] ∧ Z.Warmed39 U.vm ∧ U.heap = h0) (fun _ _ _ _ _ => True) (fun _ U o U' => ∃ v L, o = .returned v ∧ Q1_23 Z a1 a4 a5 a6 a7 a8 a9 a10 a11 a12 a13 a14 a15 a16 a17 a18 a19 a20 k21 h0 n0 v U'.heap L ∧ FrameEnd U o U' L ({ frames := 0, cells := 0, slots := 0, locals := 0 } : Room).cells ({ frames := 0, cells := 0, slots := 0, locals := 0 } : Room).slots) := by
  refine MetFree.of_bodySF (plainFor_of_name pn_0) hisR ?_
  intro p e s m args below meth c s₁ Bd hml0 hP hK
  obtain ⟨rfl, hZ, hh⟩ := hP
  have hx := Bd.exec
  have hby := Bd.bytes
  have hml : c.maxLocals = 1 := hml0
  have hown : s.vm.findClass "com/example/ringstead/ringstead/node/Wire$Call" = some m.cls := findClass_of_methodNamed Bd.named
  have hnm := (name_of_methodNamed Bd.named Bd.method).1
  have X0 : Stand p l e ({ frames := 0, cells := 0, slots := 0, locals := 0 } : Room) s m #[(.int (7 : Int32))] below meth c s₁ [] 0 0 := Stand.of_body Bd
  have e0 : s₁.heap = h0 := by rw [← hh, Bd.state]; rfl
  have N0 := Fr.nil n0
  have pre0 : ∀ t, Steps p.tables e below (s₁.setTop (mkF m 0 #[.val (.int (7 : Int32))] [])) t → Steps p.tables e below (s₁.setTop (entryFrame m #[(.int (7 : Int32))] 1)) t := fun t k => castTop (ef_rm1_23 m ) k
  obtain ⟨T3, X3, e3, st3⟩ := getS2 X0 hx hZ hown (host := "") (Or.inl (hw _ (gw 42 rfl))) Via.refl e0 (Sta.ext O0.2 S_2) (g := (mkF m 5 #[.val (.int (7 : Int32))] [(.int (7 : Int32))])) rfl (hb hby d1_5)
  obtain ⟨cl23, Ar23, -, Sz23, Nn23, -, -⟩ := id (V22.ext O0.2)
  obtain ⟨T24, X24, e24, st24⟩ := getS2 X3 hx hZ hown (host := "") (Or.inl (hw _ (gw 42 rfl))) Via.refl e3 (Sta.ext O0.2 S_2) (g := (mkF m 26 #[.val (.int (7 : Int32))] [])) rfl (hb hby d1_26)
  obtain ⟨cl25, Ar25, -, Sz25, -, Hh25, -⟩ := id (V22.ext O0.2)
  have hin25 : ¬ ((7 : Int32) < 0 ∨ cl25.slots.size ≤ ((7 : Int32)).toNatClampNeg) := inb_of Sz25 ⟨by decide +kernel, by decide +kernel⟩
  have hat25 : cl25.slots[((7 : Int32)).toNatClampNeg]? = some (.ref a11) := Has.at Hh25 hin25 rfl
  obtain ⟨fs, hr, hrun, hended, hW, hsame⟩ := X24.leave (v := some (.ref a11)) (fun h => by rw [Bd.returns] at h; cases h)
  refine ⟨_, _, pre0 _ ?_, hrun, hended, _, _, rfl, ?_, ⟨_, rfl⟩, hW, hsame.mono (by decide) (by decide)⟩
  · show Steps p.tables e below (s₁.setTop (mkF m 0 #[.val (.int (7 : Int32))] [])) _
    refine XS.iloadN X0.here hx rfl (hb hby d1_0) rfl ?_
    refine XS.ifNo X0.here hx rfl (hb hby d1_1) rfl ((if0 _ _).trans (flt (by decide +kernel : ¬ ((7 : Int32) < (0 : Int32)))).1) ?_
    refine XS.iloadN X0.here hx rfl (hb hby d1_4) rfl ?_
    refine st3 _ ?_
    refine X3.arraylength hx (by rw [e3]; exact Ar23.1) (State.isArrayOf_alike hZ.alike Ar23.2.1) (g := (mkF m 8 #[.val (.int (7 : Int32))] [(.ref a1), (.int (7 : Int32))])) rfl rfl (hb hby d1_8) _ ?_
    rw [len_of Sz23 Nn23]
    refine XS.icmpYes X3.here hx rfl (pc0 := 9) (pc' := 26) rfl (hb hby d1_9) rfl (tlt (by decide +kernel : (7 : Int32) < (17 : Int32))).1 (by decide) (by decide) ?_
    refine st24 _ ?_
    refine XS.iloadN X24.here hx rfl (hb hby d1_29) rfl ?_
    refine X24.aaload hx (j := (7 : Int32)) (v := (.ref a11)) (by rw [e24]; exact Ar25.1) (State.isArrayOf_alike hZ.alike Ar25.2.1) rfl Ar25.2.2 hin25 hat25 (g := (mkF m 30 #[.val (.int (7 : Int32))] [(.int (7 : Int32)), (.ref a1)])) rfl rfl (hb hby d1_30) _ ?_
    show Steps p.tables e below (T24.setTop (mkF m 31 #[.val (.int (7 : Int32))] [(.ref a11)])) _
    jvm_step X24.here [X24.here.top, hx, (hb hby d1_31), X24.method', Bd.returns, Value.isRef, FieldType.isReference]
    first | (intro acts; rw [hr _ acts rfl rfl rfl]) | rw [hr _ _ rfl rfl rfl]
    exact Steps.refl _
  · show Q1_23 Z _ _ _ _ _ _ _ _ _ _ _ _ _ _ _ _ _ _ _ h0 n0 _ T24.heap _
    rw [e24]
    exact ⟨rfl, N0, rfl⟩
theorem ef_rm3_25 (m : MethodId) (x0 : Addr) : entryFrame m #[(.ref x0)] 1 = mkF m 0 #[.val (.ref x0)] [] := by first | (simp [entryFrame, mkF, argsToLocals, Value.category]; done) | rfl
def Q3_25 (Z : State) (a1 : Addr) (h0 : Heap) (n0 : Nat) (v : Option Value) (h : Heap) (L : List Loc) : Prop := (v = some (.int (7 : Int32)) ∧ Fr n0 L ∧ h = h0)
set_option maxRecDepth 65536 in
set_option maxHeartbeats 40000000 in
theorem rm3_25 (l : Launch) (Z : State) (a0 : Array Value) (hw : ∀ d ∈ own_ws, d.before a0 Z = true) (ws : List Jvm.Cond) (a1 : Addr) (h0 : Heap) (n0 : Nat) (O0 : Old Z n0 h0) (F2 : Fld Z Z.heap a1 C_3 "ordinal" "I" (.int (7 : Int32))) :
    MetFree l M_1 (head1 (Jvm.Cond.code M_1 jdk_37_method_2_code 1 (some .int) :: ws) ({ frames := 0, cells := 0, slots := 0, locals := 0 } : Room)) (fun a U => a = #[(.ref a1)] ∧ Z.Warmed39 U.vm ∧ U.heap = h0) (fun _ _ _ _ _ => True) (fun _ U o U' => ∃ v L, o = .returned v ∧ Q3_25 Z a1 h0 n0 v U'.heap L ∧ FrameEnd U o U' L ({ frames := 0, cells := 0, slots := 0, locals := 0 } : Room).cells ({ frames := 0, cells := 0, slots := 0, locals := 0 } : Room).slots) := by
  refine MetFree.of_bodySF (plainFor_of_name pn_1) hisR ?_
  intro p e s m args below meth c s₁ Bd hml0 hP hK
  obtain ⟨rfl, hZ, hh⟩ := hP
  have hx := Bd.exec
  have hby := Bd.bytes
  have hml : c.maxLocals = 1 := hml0
  have hown : s.vm.findClass "java/lang/Enum" = some m.cls := findClass_of_methodNamed Bd.named
  have hnm := (name_of_methodNamed Bd.named Bd.method).1
  have X0 : Stand p l e ({ frames := 0, cells := 0, slots := 0, locals := 0 } : Room) s m #[(.ref a1)] below meth c s₁ [] 0 0 := Stand.of_body Bd
  have e0 : s₁.heap = h0 := by rw [← hh, Bd.state]; rfl
  have N0 := Fr.nil n0
  have pre0 : ∀ t, Steps p.tables e below (s₁.setTop (mkF m 0 #[.val (.ref a1)] [])) t → Steps p.tables e below (s₁.setTop (entryFrame m #[(.ref a1)] 1)) t := fun t k => castTop (ef_rm3_25 m a1) k
  obtain ⟨T3, X3, e3, st3⟩ := getF X0 hx hZ hown (host := "") (Or.inl (hw _ (gw 56 rfl))) Via.refl e0 (Fld.ext O0.2 F2) (g := (mkF m 1 #[.val (.ref a1)] [(.ref a1)])) rfl rfl (hb hby d3_1)
  obtain ⟨fs, hr, hrun, hended, hW, hsame⟩ := X3.leave (v := some (.int (7 : Int32))) (fun h => by rw [Bd.returns] at h; cases h)
  refine ⟨_, _, pre0 _ ?_, hrun, hended, _, _, rfl, ?_, ⟨_, rfl⟩, hW, hsame.mono (by decide) (by decide)⟩
  · show Steps p.tables e below (s₁.setTop (mkF m 0 #[.val (.ref a1)] [])) _
    refine XS.aloadN X0.here hx rfl (hb hby d3_0) rfl rfl ?_
    refine st3 _ ?_
    show Steps p.tables e below (T3.setTop (mkF m 4 #[.val (.ref a1)] [(.int (7 : Int32))])) _
    exact retI X3 hx Bd.returns (hb hby d3_4) hr
  · show Q3_25 Z _ h0 n0 _ T3.heap _
    rw [e3]
    exact ⟨rfl, N0, rfl⟩
theorem ef_rm2_24 (m : MethodId) (x0 : Addr) : entryFrame m #[(.ref x0)] 1 = mkF m 0 #[.val (.ref x0)] [] := by first | (simp [entryFrame, mkF, argsToLocals, Value.category]; done) | rfl
def Q2_24 (Z : State) (a1 : Addr) (h0 : Heap) (n0 : Nat) (v : Option Value) (h : Heap) (L : List Loc) : Prop := (v = some (.int (7 : Int32)) ∧ Fr n0 L ∧ h = h0)
set_option maxRecDepth 65536 in
set_option maxHeartbeats 40000000 in
theorem rm2_24 (l : Launch) (Z : State) (a0 : Array Value) (hw : ∀ d ∈ own_ws, d.before a0 Z = true) (ws : List Jvm.Cond) (a1 : Addr) (h0 : Heap) (n0 : Nat) (O0 : Old Z n0 h0) (E_2 : Exa Z Z.heap a1 C_0) (F3 : Fld Z Z.heap a1 C_3 "ordinal" "I" (.int (7 : Int32))) :
    MetFree l M_3 (head1 (Jvm.Cond.code M_3 prog_70_method_4_code 1 (some .int) :: ws) ({ frames := 1, cells := 0, slots := 0, locals := 12 } : Room)) (fun a U => a = #[(.ref a1)] ∧ Z.Warmed39 U.vm ∧ U.heap = h0) (fun _ _ _ _ _ => True) (fun _ U o U' => ∃ v L, o = .returned v ∧ Q2_24 Z a1 h0 n0 v U'.heap L ∧ FrameEnd U o U' L ({ frames := 1, cells := 0, slots := 0, locals := 12 } : Room).cells ({ frames := 1, cells := 0, slots := 0, locals := 12 } : Room).slots) := by
  refine MetFree.of_bodySF (plainFor_of_name pn_0) hisR ?_
  intro p e s m args below meth c s₁ Bd hml0 hP hK
  obtain ⟨rfl, hZ, hh⟩ := hP
  have hx := Bd.exec
  have hby := Bd.bytes
  have hml : c.maxLocals = 1 := hml0
  have hown : s.vm.findClass "com/example/ringstead/ringstead/node/Wire$Call" = some m.cls := findClass_of_methodNamed Bd.named
  have hnm := (name_of_methodNamed Bd.named Bd.method).1
  have X0 : Stand p l e ({ frames := 1, cells := 0, slots := 0, locals := 12 } : Room) s m #[(.ref a1)] below meth c s₁ [] 0 0 := Stand.of_body Bd
  have e0 : s₁.heap = h0 := by rw [← hh, Bd.state]; rfl
  have N0 := Fr.nil n0
  have pre0 : ∀ t, Steps p.tables e below (s₁.setTop (mkF m 0 #[.val (.ref a1)] [])) t → Steps p.tables e below (s₁.setTop (entryFrame m #[(.ref a1)] 1)) t := fun t k => castTop (ef_rm2_24 m a1) k
  obtain ⟨cq4, kq4, q4a, q4b, q4c⟩ := isOf hZ e0 (Exa.ext O0.2 E_2)
  obtain ⟨_, _, ⟨T4, L4, k4, n4⟩, -, X4, ⟨Lc4, hQ4, l4, y4, z4⟩, st4⟩ := X0.virtualBackUp hx (owner := "java/lang/Enum") (x := M_2) (y := M_1) hown (mvT hZ (hw _ (gw 49 rfl))) (mvT hZ (hw _ (gw 50 rfl))) (mvT hZ (hw _ (gw 51 rfl))) (by decide) (mvT hZ (hw _ (gw 53 rfl))) (mvT hZ (hw _ (gw 52 rfl))) (backOf (W := 0) (rm3_25 l Z a0 hw [] a1 h0 n0  O0 F3) hZ (hw _ (gw 55 rfl)) (hw _ (gw 54 rfl)) (by decide) (by decide)) q4a q4c (g := (mkF m 1 #[.val (.ref a1)] [(.ref a1)])) rfl (by rw [hml]; rfl) (Steps.refl _) (argsL := []) (rest := []) (lenOf pd_1 rfl) rfl (by show 2 * 0 + _ ≤ _; exact Nat.le_of_eq rfl) (hb hby d2_1) (fun _ _ => ⟨rfl, e0, (by decide : 0 + 0 ≤ _), (by decide : 0 + 0 ≤ _)⟩)
  dsimp only [Pt.U, Pt.locs, Pt.cells, Pt.slots] at X4 l4 y4 z4 st4 hQ4
  subst l4 y4 z4
  obtain ⟨rfl, u6, u7⟩ := hQ4
  have N4 := Fr.app N0 u6
  obtain ⟨fs, hr, hrun, hended, hW, hsame⟩ := X4.leave (v := some (.int (7 : Int32))) (fun h => by rw [Bd.returns] at h; cases h)
  refine ⟨_, _, pre0 _ ?_, hrun, hended, _, _, rfl, ?_, ⟨_, rfl⟩, hW, hsame.mono (by decide) (by decide)⟩
  · show Steps p.tables e below (s₁.setTop (mkF m 0 #[.val (.ref a1)] [])) _
    refine XS.aloadN X0.here hx rfl (hb hby d2_0) rfl rfl ?_
    refine st4.trans ?_
    show Steps p.tables e below (T4.setTop (mkF m 4 #[.val (.ref a1)] [(.int (7 : Int32))])) _
    exact retI X4 hx Bd.returns (hb hby d2_4) hr
  · show Q2_24 Z _ h0 n0 _ T4.heap _
    rw [u7]
    exact ⟨rfl, N4, rfl⟩
theorem ef_rm1_26 (m : MethodId)  : entryFrame m #[(.int (8 : Int32))] 1 = mkF m 0 #[.val (.int (8 : Int32))] [] := by first | (simp [entryFrame, mkF, argsToLocals, Value.category]; done) | rfl
def Q1_26 (Z : State) (a1 : Addr) (a4 : Addr) (a5 : Addr) (a6 : Addr) (a7 : Addr) (a8 : Addr) (a9 : Addr) (a10 : Addr) (a11 : Addr) (a12 : Addr) (a13 : Addr) (a14 : Addr) (a15 : Addr) (a16 : Addr) (a17 : Addr) (a18 : Addr) (a19 : Addr) (a20 : Addr) (k21 : ClassId) (h0 : Heap) (n0 : Nat) (v : Option Value) (h : Heap) (L : List Loc) : Prop := (v = some (.ref a12) ∧ Fr n0 L ∧ h = h0)
set_option maxRecDepth 65536 in
set_option maxHeartbeats 40000000 in
theorem rm1_26 (l : Launch) (Z : State) (a0 : Array Value) (hw : ∀ d ∈ own_ws, d.before a0 Z = true) (ws : List Jvm.Cond) (a1 : Addr) (a4 : Addr) (a5 : Addr) (a6 : Addr) (a7 : Addr) (a8 : Addr) (a9 : Addr) (a10 : Addr) (a11 : Addr) (a12 : Addr) (a13 : Addr) (a14 : Addr) (a15 : Addr) (a16 : Addr) (a17 : Addr) (a18 : Addr) (a19 : Addr) (a20 : Addr) (k21 : ClassId) (h0 : Heap) (n0 : Nat) (O0 : Old Z n0 h0) (S_2 : Sta Z Z.heap C_0 "BY_CODE" C_2 (.ref a1)) (V22 : Arv Z Z.heap a1 k21 (.object "com/example/ringstead/ringstead/node/Wire$Call") (17 : Int32) [(.ref a4), (.ref a5), (.ref a6), (.ref a7), (.ref a8), (.ref a9), (.ref a10), (.ref a11), (.ref a12), (.ref a13), (.ref a14), (.ref a15), (.ref a16), (.ref a17), (.ref a18), (.ref a19), (.ref a20)] .null) :
    MetFree l M_0 (head1 (Jvm.Cond.code M_0 prog_70_method_5_code 1 (some (.object "com/example/ringstead/ringstead/node/Wire$Call")) :: ws) ({ frames := 0, cells := 0, slots := 0, locals := 0 } : Room)) (fun a U => a = #[(.int (8 : Int32))] ∧ Z.Warmed39 U.vm ∧ U.heap = h0) (fun _ _ _ _ _ => True) (fun _ U o U' => ∃ v L, o = .returned v ∧ Q1_26 Z a1 a4 a5 a6 a7 a8 a9 a10 a11 a12 a13 a14 a15 a16 a17 a18 a19 a20 k21 h0 n0 v U'.heap L ∧ FrameEnd U o U' L ({ frames := 0, cells := 0, slots := 0, locals := 0 } : Room).cells ({ frames := 0, cells := 0, slots := 0, locals := 0 } : Room).slots) := by
  refine MetFree.of_bodySF (plainFor_of_name pn_0) hisR ?_
  intro p e s m args below meth c s₁ Bd hml0 hP hK
  obtain ⟨rfl, hZ, hh⟩ := hP
  have hx := Bd.exec
  have hby := Bd.bytes
  have hml : c.maxLocals = 1 := hml0
  have hown : s.vm.findClass "com/example/ringstead/ringstead/node/Wire$Call" = some m.cls := findClass_of_methodNamed Bd.named
  have hnm := (name_of_methodNamed Bd.named Bd.method).1
  have X0 : Stand p l e ({ frames := 0, cells := 0, slots := 0, locals := 0 } : Room) s m #[(.int (8 : Int32))] below meth c s₁ [] 0 0 := Stand.of_body Bd
  have e0 : s₁.heap = h0 := by rw [← hh, Bd.state]; rfl
  have N0 := Fr.nil n0
  have pre0 : ∀ t, Steps p.tables e below (s₁.setTop (mkF m 0 #[.val (.int (8 : Int32))] [])) t → Steps p.tables e below (s₁.setTop (entryFrame m #[(.int (8 : Int32))] 1)) t := fun t k => castTop (ef_rm1_26 m ) k
  obtain ⟨T3, X3, e3, st3⟩ := getS2 X0 hx hZ hown (host := "") (Or.inl (hw _ (gw 42 rfl))) Via.refl e0 (Sta.ext O0.2 S_2) (g := (mkF m 5 #[.val (.int (8 : Int32))] [(.int (8 : Int32))])) rfl (hb hby d1_5)
  obtain ⟨cl23, Ar23, -, Sz23, Nn23, -, -⟩ := id (V22.ext O0.2)
  obtain ⟨T24, X24, e24, st24⟩ := getS2 X3 hx hZ hown (host := "") (Or.inl (hw _ (gw 42 rfl))) Via.refl e3 (Sta.ext O0.2 S_2) (g := (mkF m 26 #[.val (.int (8 : Int32))] [])) rfl (hb hby d1_26)
  obtain ⟨cl25, Ar25, -, Sz25, -, Hh25, -⟩ := id (V22.ext O0.2)
  have hin25 : ¬ ((8 : Int32) < 0 ∨ cl25.slots.size ≤ ((8 : Int32)).toNatClampNeg) := inb_of Sz25 ⟨by decide +kernel, by decide +kernel⟩
  have hat25 : cl25.slots[((8 : Int32)).toNatClampNeg]? = some (.ref a12) := Has.at Hh25 hin25 rfl
  obtain ⟨fs, hr, hrun, hended, hW, hsame⟩ := X24.leave (v := some (.ref a12)) (fun h => by rw [Bd.returns] at h; cases h)
  refine ⟨_, _, pre0 _ ?_, hrun, hended, _, _, rfl, ?_, ⟨_, rfl⟩, hW, hsame.mono (by decide) (by decide)⟩
  · show Steps p.tables e below (s₁.setTop (mkF m 0 #[.val (.int (8 : Int32))] [])) _
    refine XS.iloadN X0.here hx rfl (hb hby d1_0) rfl ?_
    refine XS.ifNo X0.here hx rfl (hb hby d1_1) rfl ((if0 _ _).trans (flt (by decide +kernel : ¬ ((8 : Int32) < (0 : Int32)))).1) ?_
    refine XS.iloadN X0.here hx rfl (hb hby d1_4) rfl ?_
    refine st3 _ ?_
    refine X3.arraylength hx (by rw [e3]; exact Ar23.1) (State.isArrayOf_alike hZ.alike Ar23.2.1) (g := (mkF m 8 #[.val (.int (8 : Int32))] [(.ref a1), (.int (8 : Int32))])) rfl rfl (hb hby d1_8) _ ?_
    rw [len_of Sz23 Nn23]
    refine XS.icmpYes X3.here hx rfl (pc0 := 9) (pc' := 26) rfl (hb hby d1_9) rfl (tlt (by decide +kernel : (8 : Int32) < (17 : Int32))).1 (by decide) (by decide) ?_
    refine st24 _ ?_
    refine XS.iloadN X24.here hx rfl (hb hby d1_29) rfl ?_
    refine X24.aaload hx (j := (8 : Int32)) (v := (.ref a12)) (by rw [e24]; exact Ar25.1) (State.isArrayOf_alike hZ.alike Ar25.2.1) rfl Ar25.2.2 hin25 hat25 (g := (mkF m 30 #[.val (.int (8 : Int32))] [(.int (8 : Int32)), (.ref a1)])) rfl rfl (hb hby d1_30) _ ?_
    show Steps p.tables e below (T24.setTop (mkF m 31 #[.val (.int (8 : Int32))] [(.ref a12)])) _
    jvm_step X24.here [X24.here.top, hx, (hb hby d1_31), X24.method', Bd.returns, Value.isRef, FieldType.isReference]
    first | (intro acts; rw [hr _ acts rfl rfl rfl]) | rw [hr _ _ rfl rfl rfl]
    exact Steps.refl _
  · show Q1_26 Z _ _ _ _ _ _ _ _ _ _ _ _ _ _ _ _ _ _ _ h0 n0 _ T24.heap _
    rw [e24]
    exact ⟨rfl, N0, rfl⟩
theorem ef_rm3_28 (m : MethodId) (x0 : Addr) : entryFrame m #[(.ref x0)] 1 = mkF m 0 #[.val (.ref x0)] [] := by first | (simp [entryFrame, mkF, argsToLocals, Value.category]; done) | rfl
def Q3_28 (Z : State) (a1 : Addr) (h0 : Heap) (n0 : Nat) (v : Option Value) (h : Heap) (L : List Loc) : Prop := (v = some (.int (8 : Int32)) ∧ Fr n0 L ∧ h = h0)
set_option maxRecDepth 65536 in
set_option maxHeartbeats 40000000 in
theorem rm3_28 (l : Launch) (Z : State) (a0 : Array Value) (hw : ∀ d ∈ own_ws, d.before a0 Z = true) (ws : List Jvm.Cond) (a1 : Addr) (h0 : Heap) (n0 : Nat) (O0 : Old Z n0 h0) (F2 : Fld Z Z.heap a1 C_3 "ordinal" "I" (.int (8 : Int32))) :
    MetFree l M_1 (head1 (Jvm.Cond.code M_1 jdk_37_method_2_code 1 (some .int) :: ws) ({ frames := 0, cells := 0, slots := 0, locals := 0 } : Room)) (fun a U => a = #[(.ref a1)] ∧ Z.Warmed39 U.vm ∧ U.heap = h0) (fun _ _ _ _ _ => True) (fun _ U o U' => ∃ v L, o = .returned v ∧ Q3_28 Z a1 h0 n0 v U'.heap L ∧ FrameEnd U o U' L ({ frames := 0, cells := 0, slots := 0, locals := 0 } : Room).cells ({ frames := 0, cells := 0, slots := 0, locals := 0 } : Room).slots) := by
  refine MetFree.of_bodySF (plainFor_of_name pn_1) hisR ?_
  intro p e s m args below meth c s₁ Bd hml0 hP hK
  obtain ⟨rfl, hZ, hh⟩ := hP
  have hx := Bd.exec
  have hby := Bd.bytes
  have hml : c.maxLocals = 1 := hml0
  have hown : s.vm.findClass "java/lang/Enum" = some m.cls := findClass_of_methodNamed Bd.named
  have hnm := (name_of_methodNamed Bd.named Bd.method).1
  have X0 : Stand p l e ({ frames := 0, cells := 0, slots := 0, locals := 0 } : Room) s m #[(.ref a1)] below meth c s₁ [] 0 0 := Stand.of_body Bd
  have e0 : s₁.heap = h0 := by rw [← hh, Bd.state]; rfl
  have N0 := Fr.nil n0
  have pre0 : ∀ t, Steps p.tables e below (s₁.setTop (mkF m 0 #[.val (.ref a1)] [])) t → Steps p.tables e below (s₁.setTop (entryFrame m #[(.ref a1)] 1)) t := fun t k => castTop (ef_rm3_28 m a1) k
  obtain ⟨T3, X3, e3, st3⟩ := getF X0 hx hZ hown (host := "") (Or.inl (hw _ (gw 56 rfl))) Via.refl e0 (Fld.ext O0.2 F2) (g := (mkF m 1 #[.val (.ref a1)] [(.ref a1)])) rfl rfl (hb hby d3_1)
  obtain ⟨fs, hr, hrun, hended, hW, hsame⟩ := X3.leave (v := some (.int (8 : Int32))) (fun h => by rw [Bd.returns] at h; cases h)
  refine ⟨_, _, pre0 _ ?_, hrun, hended, _, _, rfl, ?_, ⟨_, rfl⟩, hW, hsame.mono (by decide) (by decide)⟩
  · show Steps p.tables e below (s₁.setTop (mkF m 0 #[.val (.ref a1)] [])) _
    refine XS.aloadN X0.here hx rfl (hb hby d3_0) rfl rfl ?_
    refine st3 _ ?_
    show Steps p.tables e below (T3.setTop (mkF m 4 #[.val (.ref a1)] [(.int (8 : Int32))])) _
    exact retI X3 hx Bd.returns (hb hby d3_4) hr
  · show Q3_28 Z _ h0 n0 _ T3.heap _
    rw [e3]
    exact ⟨rfl, N0, rfl⟩
theorem ef_rm2_27 (m : MethodId) (x0 : Addr) : entryFrame m #[(.ref x0)] 1 = mkF m 0 #[.val (.ref x0)] [] := by first | (simp [entryFrame, mkF, argsToLocals, Value.category]; done) | rfl
def Q2_27 (Z : State) (a1 : Addr) (h0 : Heap) (n0 : Nat) (v : Option Value) (h : Heap) (L : List Loc) : Prop := (v = some (.int (8 : Int32)) ∧ Fr n0 L ∧ h = h0)
set_option maxRecDepth 65536 in
set_option maxHeartbeats 40000000 in
theorem rm2_27 (l : Launch) (Z : State) (a0 : Array Value) (hw : ∀ d ∈ own_ws, d.before a0 Z = true) (ws : List Jvm.Cond) (a1 : Addr) (h0 : Heap) (n0 : Nat) (O0 : Old Z n0 h0) (E_2 : Exa Z Z.heap a1 C_0) (F3 : Fld Z Z.heap a1 C_3 "ordinal" "I" (.int (8 : Int32))) :
    MetFree l M_3 (head1 (Jvm.Cond.code M_3 prog_70_method_4_code 1 (some .int) :: ws) ({ frames := 1, cells := 0, slots := 0, locals := 12 } : Room)) (fun a U => a = #[(.ref a1)] ∧ Z.Warmed39 U.vm ∧ U.heap = h0) (fun _ _ _ _ _ => True) (fun _ U o U' => ∃ v L, o = .returned v ∧ Q2_27 Z a1 h0 n0 v U'.heap L ∧ FrameEnd U o U' L ({ frames := 1, cells := 0, slots := 0, locals := 12 } : Room).cells ({ frames := 1, cells := 0, slots := 0, locals := 12 } : Room).slots) := by
  refine MetFree.of_bodySF (plainFor_of_name pn_0) hisR ?_
  intro p e s m args below meth c s₁ Bd hml0 hP hK
  obtain ⟨rfl, hZ, hh⟩ := hP
  have hx := Bd.exec
  have hby := Bd.bytes
  have hml : c.maxLocals = 1 := hml0
  have hown : s.vm.findClass "com/example/ringstead/ringstead/node/Wire$Call" = some m.cls := findClass_of_methodNamed Bd.named
  have hnm := (name_of_methodNamed Bd.named Bd.method).1
  have X0 : Stand p l e ({ frames := 1, cells := 0, slots := 0, locals := 12 } : Room) s m #[(.ref a1)] below meth c s₁ [] 0 0 := Stand.of_body Bd
  have e0 : s₁.heap = h0 := by rw [← hh, Bd.state]; rfl
  have N0 := Fr.nil n0
  have pre0 : ∀ t, Steps p.tables e below (s₁.setTop (mkF m 0 #[.val (.ref a1)] [])) t → Steps p.tables e below (s₁.setTop (entryFrame m #[(.ref a1)] 1)) t := fun t k => castTop (ef_rm2_27 m a1) k
  obtain ⟨cq4, kq4, q4a, q4b, q4c⟩ := isOf hZ e0 (Exa.ext O0.2 E_2)
  obtain ⟨_, _, ⟨T4, L4, k4, n4⟩, -, X4, ⟨Lc4, hQ4, l4, y4, z4⟩, st4⟩ := X0.virtualBackUp hx (owner := "java/lang/Enum") (x := M_2) (y := M_1) hown (mvT hZ (hw _ (gw 49 rfl))) (mvT hZ (hw _ (gw 50 rfl))) (mvT hZ (hw _ (gw 51 rfl))) (by decide) (mvT hZ (hw _ (gw 53 rfl))) (mvT hZ (hw _ (gw 52 rfl))) (backOf (W := 0) (rm3_28 l Z a0 hw [] a1 h0 n0  O0 F3) hZ (hw _ (gw 55 rfl)) (hw _ (gw 54 rfl)) (by decide) (by decide)) q4a q4c (g := (mkF m 1 #[.val (.ref a1)] [(.ref a1)])) rfl (by rw [hml]; rfl) (Steps.refl _) (argsL := []) (rest := []) (lenOf pd_1 rfl) rfl (by show 2 * 0 + _ ≤ _; exact Nat.le_of_eq rfl) (hb hby d2_1) (fun _ _ => ⟨rfl, e0, (by decide : 0 + 0 ≤ _), (by decide : 0 + 0 ≤ _)⟩)
  dsimp only [Pt.U, Pt.locs, Pt.cells, Pt.slots] at X4 l4 y4 z4 st4 hQ4
  subst l4 y4 z4
  obtain ⟨rfl, u6, u7⟩ := hQ4
  have N4 := Fr.app N0 u6
  obtain ⟨fs, hr, hrun, hended, hW, hsame⟩ := X4.leave (v := some (.int (8 : Int32))) (fun h => by rw [Bd.returns] at h; cases h)
  refine ⟨_, _, pre0 _ ?_, hrun, hended, _, _, rfl, ?_, ⟨_, rfl⟩, hW, hsame.mono (by decide) (by decide)⟩
  · show Steps p.tables e below (s₁.setTop (mkF m 0 #[.val (.ref a1)] [])) _
    refine XS.aloadN X0.here hx rfl (hb hby d2_0) rfl rfl ?_
    refine st4.trans ?_
    show Steps p.tables e below (T4.setTop (mkF m 4 #[.val (.ref a1)] [(.int (8 : Int32))])) _
    exact retI X4 hx Bd.returns (hb hby d2_4) hr
  · show Q2_27 Z _ h0 n0 _ T4.heap _
    rw [u7]
    exact ⟨rfl, N4, rfl⟩
theorem ef_rm1_29 (m : MethodId)  : entryFrame m #[(.int (9 : Int32))] 1 = mkF m 0 #[.val (.int (9 : Int32))] [] := by first | (simp [entryFrame, mkF, argsToLocals, Value.category]; done) | rfl
def Q1_29 (Z : State) (a1 : Addr) (a4 : Addr) (a5 : Addr) (a6 : Addr) (a7 : Addr) (a8 : Addr) (a9 : Addr) (a10 : Addr) (a11 : Addr) (a12 : Addr) (a13 : Addr) (a14 : Addr) (a15 : Addr) (a16 : Addr) (a17 : Addr) (a18 : Addr) (a19 : Addr) (a20 : Addr) (k21 : ClassId) (h0 : Heap) (n0 : Nat) (v : Option Value) (h : Heap) (L : List Loc) : Prop := (v = some (.ref a13) ∧ Fr n0 L ∧ h = h0)
set_option maxRecDepth 65536 in
set_option maxHeartbeats 40000000 in
theorem rm1_29 (l : Launch) (Z : State) (a0 : Array Value) (hw : ∀ d ∈ own_ws, d.before a0 Z = true) (ws : List Jvm.Cond) (a1 : Addr) (a4 : Addr) (a5 : Addr) (a6 : Addr) (a7 : Addr) (a8 : Addr) (a9 : Addr) (a10 : Addr) (a11 : Addr) (a12 : Addr) (a13 : Addr) (a14 : Addr) (a15 : Addr) (a16 : Addr) (a17 : Addr) (a18 : Addr) (a19 : Addr) (a20 : Addr) (k21 : ClassId) (h0 : Heap) (n0 : Nat) (O0 : Old Z n0 h0) (S_2 : Sta Z Z.heap C_0 "BY_CODE" C_2 (.ref a1)) (V22 : Arv Z Z.heap a1 k21 (.object "com/example/ringstead/ringstead/node/Wire$Call") (17 : Int32) [(.ref a4), (.ref a5), (.ref a6), (.ref a7), (.ref a8), (.ref a9), (.ref a10), (.ref a11), (.ref a12), (.ref a13), (.ref a14), (.ref a15), (.ref a16), (.ref a17), (.ref a18), (.ref a19), (.ref a20)] .null) :
    MetFree l M_0 (head1 (Jvm.Cond.code M_0 prog_70_method_5_code 1 (some (.object "com/example/ringstead/ringstead/node/Wire$Call")) :: ws) ({ frames := 0, cells := 0, slots := 0, locals := 0 } : Room)) (fun a U => a = #[(.int (9 : Int32))] ∧ Z.Warmed39 U.vm ∧ U.heap = h0) (fun _ _ _ _ _ => True) (fun _ U o U' => ∃ v L, o = .returned v ∧ Q1_29 Z a1 a4 a5 a6 a7 a8 a9 a10 a11 a12 a13 a14 a15 a16 a17 a18 a19 a20 k21 h0 n0 v U'.heap L ∧ FrameEnd U o U' L ({ frames := 0, cells := 0, slots := 0, locals := 0 } : Room).cells ({ frames := 0, cells := 0, slots := 0, locals := 0 } : Room).slots) := by
  refine MetFree.of_bodySF (plainFor_of_name pn_0) hisR ?_
  intro p e s m args below meth c s₁ Bd hml0 hP hK
  obtain ⟨rfl, hZ, hh⟩ := hP
  have hx := Bd.exec
  have hby := Bd.bytes
  have hml : c.maxLocals = 1 := hml0
  have hown : s.vm.findClass "com/example/ringstead/ringstead/node/Wire$Call" = some m.cls := findClass_of_methodNamed Bd.named
  have hnm := (name_of_methodNamed Bd.named Bd.method).1
  have X0 : Stand p l e ({ frames := 0, cells := 0, slots := 0, locals := 0 } : Room) s m #[(.int (9 : Int32))] below meth c s₁ [] 0 0 := Stand.of_body Bd
  have e0 : s₁.heap = h0 := by rw [← hh, Bd.state]; rfl
  have N0 := Fr.nil n0
  have pre0 : ∀ t, Steps p.tables e below (s₁.setTop (mkF m 0 #[.val (.int (9 : Int32))] [])) t → Steps p.tables e below (s₁.setTop (entryFrame m #[(.int (9 : Int32))] 1)) t := fun t k => castTop (ef_rm1_29 m ) k
  obtain ⟨T3, X3, e3, st3⟩ := getS2 X0 hx hZ hown (host := "") (Or.inl (hw _ (gw 42 rfl))) Via.refl e0 (Sta.ext O0.2 S_2) (g := (mkF m 5 #[.val (.int (9 : Int32))] [(.int (9 : Int32))])) rfl (hb hby d1_5)
  obtain ⟨cl23, Ar23, -, Sz23, Nn23, -, -⟩ := id (V22.ext O0.2)
  obtain ⟨T24, X24, e24, st24⟩ := getS2 X3 hx hZ hown (host := "") (Or.inl (hw _ (gw 42 rfl))) Via.refl e3 (Sta.ext O0.2 S_2) (g := (mkF m 26 #[.val (.int (9 : Int32))] [])) rfl (hb hby d1_26)
  obtain ⟨cl25, Ar25, -, Sz25, -, Hh25, -⟩ := id (V22.ext O0.2)
  have hin25 : ¬ ((9 : Int32) < 0 ∨ cl25.slots.size ≤ ((9 : Int32)).toNatClampNeg) := inb_of Sz25 ⟨by decide +kernel, by decide +kernel⟩
  have hat25 : cl25.slots[((9 : Int32)).toNatClampNeg]? = some (.ref a13) := Has.at Hh25 hin25 rfl
  obtain ⟨fs, hr, hrun, hended, hW, hsame⟩ := X24.leave (v := some (.ref a13)) (fun h => by rw [Bd.returns] at h; cases h)
  refine ⟨_, _, pre0 _ ?_, hrun, hended, _, _, rfl, ?_, ⟨_, rfl⟩, hW, hsame.mono (by decide) (by decide)⟩
  · show Steps p.tables e below (s₁.setTop (mkF m 0 #[.val (.int (9 : Int32))] [])) _
    refine XS.iloadN X0.here hx rfl (hb hby d1_0) rfl ?_
    refine XS.ifNo X0.here hx rfl (hb hby d1_1) rfl ((if0 _ _).trans (flt (by decide +kernel : ¬ ((9 : Int32) < (0 : Int32)))).1) ?_
    refine XS.iloadN X0.here hx rfl (hb hby d1_4) rfl ?_
    refine st3 _ ?_
    refine X3.arraylength hx (by rw [e3]; exact Ar23.1) (State.isArrayOf_alike hZ.alike Ar23.2.1) (g := (mkF m 8 #[.val (.int (9 : Int32))] [(.ref a1), (.int (9 : Int32))])) rfl rfl (hb hby d1_8) _ ?_
    rw [len_of Sz23 Nn23]
    refine XS.icmpYes X3.here hx rfl (pc0 := 9) (pc' := 26) rfl (hb hby d1_9) rfl (tlt (by decide +kernel : (9 : Int32) < (17 : Int32))).1 (by decide) (by decide) ?_
    refine st24 _ ?_
    refine XS.iloadN X24.here hx rfl (hb hby d1_29) rfl ?_
    refine X24.aaload hx (j := (9 : Int32)) (v := (.ref a13)) (by rw [e24]; exact Ar25.1) (State.isArrayOf_alike hZ.alike Ar25.2.1) rfl Ar25.2.2 hin25 hat25 (g := (mkF m 30 #[.val (.int (9 : Int32))] [(.int (9 : Int32)), (.ref a1)])) rfl rfl (hb hby d1_30) _ ?_
    show Steps p.tables e below (T24.setTop (mkF m 31 #[.val (.int (9 : Int32))] [(.ref a13)])) _
    jvm_step X24.here [X24.here.top, hx, (hb hby d1_31), X24.method', Bd.returns, Value.isRef, FieldType.isReference]
    first | (intro acts; rw [hr _ acts rfl rfl rfl]) | rw [hr _ _ rfl rfl rfl]
    exact Steps.refl _
  · show Q1_29 Z _ _ _ _ _ _ _ _ _ _ _ _ _ _ _ _ _ _ _ h0 n0 _ T24.heap _
    rw [e24]
    exact ⟨rfl, N0, rfl⟩
theorem ef_rm3_31 (m : MethodId) (x0 : Addr) : entryFrame m #[(.ref x0)] 1 = mkF m 0 #[.val (.ref x0)] [] := by first | (simp [entryFrame, mkF, argsToLocals, Value.category]; done) | rfl
def Q3_31 (Z : State) (a1 : Addr) (h0 : Heap) (n0 : Nat) (v : Option Value) (h : Heap) (L : List Loc) : Prop := (v = some (.int (9 : Int32)) ∧ Fr n0 L ∧ h = h0)
set_option maxRecDepth 65536 in
set_option maxHeartbeats 40000000 in
theorem rm3_31 (l : Launch) (Z : State) (a0 : Array Value) (hw : ∀ d ∈ own_ws, d.before a0 Z = true) (ws : List Jvm.Cond) (a1 : Addr) (h0 : Heap) (n0 : Nat) (O0 : Old Z n0 h0) (F2 : Fld Z Z.heap a1 C_3 "ordinal" "I" (.int (9 : Int32))) :
    MetFree l M_1 (head1 (Jvm.Cond.code M_1 jdk_37_method_2_code 1 (some .int) :: ws) ({ frames := 0, cells := 0, slots := 0, locals := 0 } : Room)) (fun a U => a = #[(.ref a1)] ∧ Z.Warmed39 U.vm ∧ U.heap = h0) (fun _ _ _ _ _ => True) (fun _ U o U' => ∃ v L, o = .returned v ∧ Q3_31 Z a1 h0 n0 v U'.heap L ∧ FrameEnd U o U' L ({ frames := 0, cells := 0, slots := 0, locals := 0 } : Room).cells ({ frames := 0, cells := 0, slots := 0, locals := 0 } : Room).slots) := by
  refine MetFree.of_bodySF (plainFor_of_name pn_1) hisR ?_
  intro p e s m args below meth c s₁ Bd hml0 hP hK
  obtain ⟨rfl, hZ, hh⟩ := hP
  have hx := Bd.exec
  have hby := Bd.bytes
  have hml : c.maxLocals = 1 := hml0
  have hown : s.vm.findClass "java/lang/Enum" = some m.cls := findClass_of_methodNamed Bd.named
  have hnm := (name_of_methodNamed Bd.named Bd.method).1
  have X0 : Stand p l e ({ frames := 0, cells := 0, slots := 0, locals := 0 } : Room) s m #[(.ref a1)] below meth c s₁ [] 0 0 := Stand.of_body Bd
  have e0 : s₁.heap = h0 := by rw [← hh, Bd.state]; rfl
  have N0 := Fr.nil n0
  have pre0 : ∀ t, Steps p.tables e below (s₁.setTop (mkF m 0 #[.val (.ref a1)] [])) t → Steps p.tables e below (s₁.setTop (entryFrame m #[(.ref a1)] 1)) t := fun t k => castTop (ef_rm3_31 m a1) k
  obtain ⟨T3, X3, e3, st3⟩ := getF X0 hx hZ hown (host := "") (Or.inl (hw _ (gw 56 rfl))) Via.refl e0 (Fld.ext O0.2 F2) (g := (mkF m 1 #[.val (.ref a1)] [(.ref a1)])) rfl rfl (hb hby d3_1)
  obtain ⟨fs, hr, hrun, hended, hW, hsame⟩ := X3.leave (v := some (.int (9 : Int32))) (fun h => by rw [Bd.returns] at h; cases h)
  refine ⟨_, _, pre0 _ ?_, hrun, hended, _, _, rfl, ?_, ⟨_, rfl⟩, hW, hsame.mono (by decide) (by decide)⟩
  · show Steps p.tables e below (s₁.setTop (mkF m 0 #[.val (.ref a1)] [])) _
    refine XS.aloadN X0.here hx rfl (hb hby d3_0) rfl rfl ?_
    refine st3 _ ?_
    show Steps p.tables e below (T3.setTop (mkF m 4 #[.val (.ref a1)] [(.int (9 : Int32))])) _
    exact retI X3 hx Bd.returns (hb hby d3_4) hr
  · show Q3_31 Z _ h0 n0 _ T3.heap _
    rw [e3]
    exact ⟨rfl, N0, rfl⟩
theorem ef_rm2_30 (m : MethodId) (x0 : Addr) : entryFrame m #[(.ref x0)] 1 = mkF m 0 #[.val (.ref x0)] [] := by first | (simp [entryFrame, mkF, argsToLocals, Value.category]; done) | rfl
def Q2_30 (Z : State) (a1 : Addr) (h0 : Heap) (n0 : Nat) (v : Option Value) (h : Heap) (L : List Loc) : Prop := (v = some (.int (9 : Int32)) ∧ Fr n0 L ∧ h = h0)
set_option maxRecDepth 65536 in
set_option maxHeartbeats 40000000 in
theorem rm2_30 (l : Launch) (Z : State) (a0 : Array Value) (hw : ∀ d ∈ own_ws, d.before a0 Z = true) (ws : List Jvm.Cond) (a1 : Addr) (h0 : Heap) (n0 : Nat) (O0 : Old Z n0 h0) (E_2 : Exa Z Z.heap a1 C_0) (F3 : Fld Z Z.heap a1 C_3 "ordinal" "I" (.int (9 : Int32))) :
    MetFree l M_3 (head1 (Jvm.Cond.code M_3 prog_70_method_4_code 1 (some .int) :: ws) ({ frames := 1, cells := 0, slots := 0, locals := 12 } : Room)) (fun a U => a = #[(.ref a1)] ∧ Z.Warmed39 U.vm ∧ U.heap = h0) (fun _ _ _ _ _ => True) (fun _ U o U' => ∃ v L, o = .returned v ∧ Q2_30 Z a1 h0 n0 v U'.heap L ∧ FrameEnd U o U' L ({ frames := 1, cells := 0, slots := 0, locals := 12 } : Room).cells ({ frames := 1, cells := 0, slots := 0, locals := 12 } : Room).slots) := by
  refine MetFree.of_bodySF (plainFor_of_name pn_0) hisR ?_
  intro p e s m args below meth c s₁ Bd hml0 hP hK
  obtain ⟨rfl, hZ, hh⟩ := hP
  have hx := Bd.exec
  have hby := Bd.bytes
  have hml : c.maxLocals = 1 := hml0
  have hown : s.vm.findClass "com/example/ringstead/ringstead/node/Wire$Call" = some m.cls := findClass_of_methodNamed Bd.named
  have hnm := (name_of_methodNamed Bd.named Bd.method).1
  have X0 : Stand p l e ({ frames := 1, cells := 0, slots := 0, locals := 12 } : Room) s m #[(.ref a1)] below meth c s₁ [] 0 0 := Stand.of_body Bd
  have e0 : s₁.heap = h0 := by rw [← hh, Bd.state]; rfl
  have N0 := Fr.nil n0
  have pre0 : ∀ t, Steps p.tables e below (s₁.setTop (mkF m 0 #[.val (.ref a1)] [])) t → Steps p.tables e below (s₁.setTop (entryFrame m #[(.ref a1)] 1)) t := fun t k => castTop (ef_rm2_30 m a1) k
  obtain ⟨cq4, kq4, q4a, q4b, q4c⟩ := isOf hZ e0 (Exa.ext O0.2 E_2)
  obtain ⟨_, _, ⟨T4, L4, k4, n4⟩, -, X4, ⟨Lc4, hQ4, l4, y4, z4⟩, st4⟩ := X0.virtualBackUp hx (owner := "java/lang/Enum") (x := M_2) (y := M_1) hown (mvT hZ (hw _ (gw 49 rfl))) (mvT hZ (hw _ (gw 50 rfl))) (mvT hZ (hw _ (gw 51 rfl))) (by decide) (mvT hZ (hw _ (gw 53 rfl))) (mvT hZ (hw _ (gw 52 rfl))) (backOf (W := 0) (rm3_31 l Z a0 hw [] a1 h0 n0  O0 F3) hZ (hw _ (gw 55 rfl)) (hw _ (gw 54 rfl)) (by decide) (by decide)) q4a q4c (g := (mkF m 1 #[.val (.ref a1)] [(.ref a1)])) rfl (by rw [hml]; rfl) (Steps.refl _) (argsL := []) (rest := []) (lenOf pd_1 rfl) rfl (by show 2 * 0 + _ ≤ _; exact Nat.le_of_eq rfl) (hb hby d2_1) (fun _ _ => ⟨rfl, e0, (by decide : 0 + 0 ≤ _), (by decide : 0 + 0 ≤ _)⟩)
  dsimp only [Pt.U, Pt.locs, Pt.cells, Pt.slots] at X4 l4 y4 z4 st4 hQ4
  subst l4 y4 z4
  obtain ⟨rfl, u6, u7⟩ := hQ4
  have N4 := Fr.app N0 u6
  obtain ⟨fs, hr, hrun, hended, hW, hsame⟩ := X4.leave (v := some (.int (9 : Int32))) (fun h => by rw [Bd.returns] at h; cases h)
  refine ⟨_, _, pre0 _ ?_, hrun, hended, _, _, rfl, ?_, ⟨_, rfl⟩, hW, hsame.mono (by decide) (by decide)⟩
  · show Steps p.tables e below (s₁.setTop (mkF m 0 #[.val (.ref a1)] [])) _
    refine XS.aloadN X0.here hx rfl (hb hby d2_0) rfl rfl ?_
    refine st4.trans ?_
    show Steps p.tables e below (T4.setTop (mkF m 4 #[.val (.ref a1)] [(.int (9 : Int32))])) _
    exact retI X4 hx Bd.returns (hb hby d2_4) hr
  · show Q2_30 Z _ h0 n0 _ T4.heap _
    rw [u7]
    exact ⟨rfl, N4, rfl⟩
theorem ef_rm1_32 (m : MethodId)  : entryFrame m #[(.int (10 : Int32))] 1 = mkF m 0 #[.val (.int (10 : Int32))] [] := by first | (simp [entryFrame, mkF, argsToLocals, Value.category]; done) | rfl
def Q1_32 (Z : State) (a1 : Addr) (a4 : Addr) (a5 : Addr) (a6 : Addr) (a7 : Addr) (a8 : Addr) (a9 : Addr) (a10 : Addr) (a11 : Addr) (a12 : Addr) (a13 : Addr) (a14 : Addr) (a15 : Addr) (a16 : Addr) (a17 : Addr) (a18 : Addr) (a19 : Addr) (a20 : Addr) (k21 : ClassId) (h0 : Heap) (n0 : Nat) (v : Option Value) (h : Heap) (L : List Loc) : Prop := (v = some (.ref a14) ∧ Fr n0 L ∧ h = h0)
set_option maxRecDepth 65536 in
set_option maxHeartbeats 40000000 in
theorem rm1_32 (l : Launch) (Z : State) (a0 : Array Value) (hw : ∀ d ∈ own_ws, d.before a0 Z = true) (ws : List Jvm.Cond) (a1 : Addr) (a4 : Addr) (a5 : Addr) (a6 : Addr) (a7 : Addr) (a8 : Addr) (a9 : Addr) (a10 : Addr) (a11 : Addr) (a12 : Addr) (a13 : Addr) (a14 : Addr) (a15 : Addr) (a16 : Addr) (a17 : Addr) (a18 : Addr) (a19 : Addr) (a20 : Addr) (k21 : ClassId) (h0 : Heap) (n0 : Nat) (O0 : Old Z n0 h0) (S_2 : Sta Z Z.heap C_0 "BY_CODE" C_2 (.ref a1)) (V22 : Arv Z Z.heap a1 k21 (.object "com/example/ringstead/ringstead/node/Wire$Call") (17 : Int32) [(.ref a4), (.ref a5), (.ref a6), (.ref a7), (.ref a8), (.ref a9), (.ref a10), (.ref a11), (.ref a12), (.ref a13), (.ref a14), (.ref a15), (.ref a16), (.ref a17), (.ref a18), (.ref a19), (.ref a20)] .null) :
    MetFree l M_0 (head1 (Jvm.Cond.code M_0 prog_70_method_5_code 1 (some (.object "com/example/ringstead/ringstead/node/Wire$Call")) :: ws) ({ frames := 0, cells := 0, slots := 0, locals := 0 } : Room)) (fun a U => a = #[(.int (10 : Int32))] ∧ Z.Warmed39 U.vm ∧ U.heap = h0) (fun _ _ _ _ _ => True) (fun _ U o U' => ∃ v L, o = .returned v ∧ Q1_32 Z a1 a4 a5 a6 a7 a8 a9 a10 a11 a12 a13 a14 a15 a16 a17 a18 a19 a20 k21 h0 n0 v U'.heap L ∧ FrameEnd U o U' L ({ frames := 0, cells := 0, slots := 0, locals := 0 } : Room).cells ({ frames := 0, cells := 0, slots := 0, locals := 0 } : Room).slots) := by
  refine MetFree.of_bodySF (plainFor_of_name pn_0) hisR ?_
  intro p e s m args below meth c s₁ Bd hml0 hP hK
  obtain ⟨rfl, hZ, hh⟩ := hP
  have hx := Bd.exec
  have hby := Bd.bytes
  have hml : c.maxLocals = 1 := hml0
  have hown : s.vm.findClass "com/example/ringstead/ringstead/node/Wire$Call" = some m.cls := findClass_of_methodNamed Bd.named
  have hnm := (name_of_methodNamed Bd.named Bd.method).1
  have X0 : Stand p l e ({ frames := 0, cells := 0, slots := 0, locals := 0 } : Room) s m #[(.int (10 : Int32))] below meth c s₁ [] 0 0 := Stand.of_body Bd
  have e0 : s₁.heap = h0 := by rw [← hh, Bd.state]; rfl
  have N0 := Fr.nil n0
  have pre0 : ∀ t, Steps p.tables e below (s₁.setTop (mkF m 0 #[.val (.int (10 : Int32))] [])) t → Steps p.tables e below (s₁.setTop (entryFrame m #[(.int (10 : Int32))] 1)) t := fun t k => castTop (ef_rm1_32 m ) k
  obtain ⟨T3, X3, e3, st3⟩ := getS2 X0 hx hZ hown (host := "") (Or.inl (hw _ (gw 42 rfl))) Via.refl e0 (Sta.ext O0.2 S_2) (g := (mkF m 5 #[.val (.int (10 : Int32))] [(.int (10 : Int32))])) rfl (hb hby d1_5)
  obtain ⟨cl23, Ar23, -, Sz23, Nn23, -, -⟩ := id (V22.ext O0.2)
  obtain ⟨T24, X24, e24, st24⟩ := getS2 X3 hx hZ hown (host := "") (Or.inl (hw _ (gw 42 rfl))) Via.refl e3 (Sta.ext O0.2 S_2) (g := (mkF m 26 #[.val (.int (10 : Int32))] [])) rfl (hb hby d1_26)
  obtain ⟨cl25, Ar25, -, Sz25, -, Hh25, -⟩ := id (V22.ext O0.2)
  have hin25 : ¬ ((10 : Int32) < 0 ∨ cl25.slots.size ≤ ((10 : Int32)).toNatClampNeg) := inb_of Sz25 ⟨by decide +kernel, by decide +kernel⟩
  have hat25 : cl25.slots[((10 : Int32)).toNatClampNeg]? = some (.ref a14) := Has.at Hh25 hin25 rfl
  obtain ⟨fs, hr, hrun, hended, hW, hsame⟩ := X24.leave (v := some (.ref a14)) (fun h => by rw [Bd.returns] at h; cases h)
  refine ⟨_, _, pre0 _ ?_, hrun, hended, _, _, rfl, ?_, ⟨_, rfl⟩, hW, hsame.mono (by decide) (by decide)⟩
  · show Steps p.tables e below (s₁.setTop (mkF m 0 #[.val (.int (10 : Int32))] [])) _
    refine XS.iloadN X0.here hx rfl (hb hby d1_0) rfl ?_
    refine XS.ifNo X0.here hx rfl (hb hby d1_1) rfl ((if0 _ _).trans (flt (by decide +kernel : ¬ ((10 : Int32) < (0 : Int32)))).1) ?_
    refine XS.iloadN X0.here hx rfl (hb hby d1_4) rfl ?_
    refine st3 _ ?_
    refine X3.arraylength hx (by rw [e3]; exact Ar23.1) (State.isArrayOf_alike hZ.alike Ar23.2.1) (g := (mkF m 8 #[.val (.int (10 : Int32))] [(.ref a1), (.int (10 : Int32))])) rfl rfl (hb hby d1_8) _ ?_
    rw [len_of Sz23 Nn23]
    refine XS.icmpYes X3.here hx rfl (pc0 := 9) (pc' := 26) rfl (hb hby d1_9) rfl (tlt (by decide +kernel : (10 : Int32) < (17 : Int32))).1 (by decide) (by decide) ?_
    refine st24 _ ?_
    refine XS.iloadN X24.here hx rfl (hb hby d1_29) rfl ?_
    refine X24.aaload hx (j := (10 : Int32)) (v := (.ref a14)) (by rw [e24]; exact Ar25.1) (State.isArrayOf_alike hZ.alike Ar25.2.1) rfl Ar25.2.2 hin25 hat25 (g := (mkF m 30 #[.val (.int (10 : Int32))] [(.int (10 : Int32)), (.ref a1)])) rfl rfl (hb hby d1_30) _ ?_
    show Steps p.tables e below (T24.setTop (mkF m 31 #[.val (.int (10 : Int32))] [(.ref a14)])) _
    jvm_step X24.here [X24.here.top, hx, (hb hby d1_31), X24.method', Bd.returns, Value.isRef, FieldType.isReference]
    first | (intro acts; rw [hr _ acts rfl rfl rfl]) | rw [hr _ _ rfl rfl rfl]
    exact Steps.refl _
  · show Q1_32 Z _ _ _ _ _ _ _ _ _ _ _ _ _ _ _ _ _ _ _ h0 n0 _ T24.heap _
    rw [e24]
    exact ⟨rfl, N0, rfl⟩
theorem ef_rm3_34 (m : MethodId) (x0 : Addr) : entryFrame m #[(.ref x0)] 1 = mkF m 0 #[.val (.ref x0)] [] := by first | (simp [entryFrame, mkF, argsToLocals, Value.category]; done) | rfl
def Q3_34 (Z : State) (a1 : Addr) (h0 : Heap) (n0 : Nat) (v : Option Value) (h : Heap) (L : List Loc) : Prop := (v = some (.int (10 : Int32)) ∧ Fr n0 L ∧ h = h0)
set_option maxRecDepth 65536 in
set_option maxHeartbeats 40000000 in
theorem rm3_34 (l : Launch) (Z : State) (a0 : Array Value) (hw : ∀ d ∈ own_ws, d.before a0 Z = true) (ws : List Jvm.Cond) (a1 : Addr) (h0 : Heap) (n0 : Nat) (O0 : Old Z n0 h0) (F2 : Fld Z Z.heap a1 C_3 "ordinal" "I" (.int (10 : Int32))) :
    MetFree l M_1 (head1 (Jvm.Cond.code M_1 jdk_37_method_2_code 1 (some .int) :: ws) ({ frames := 0, cells := 0, slots := 0, locals := 0 } : Room)) (fun a U => a = #[(.ref a1)] ∧ Z.Warmed39 U.vm ∧ U.heap = h0) (fun _ _ _ _ _ => True) (fun _ U o U' => ∃ v L, o = .returned v ∧ Q3_34 Z a1 h0 n0 v U'.heap L ∧ FrameEnd U o U' L ({ frames := 0, cells := 0, slots := 0, locals := 0 } : Room).cells ({ frames := 0, cells := 0, slots := 0, locals := 0 } : Room).slots) := by
  refine MetFree.of_bodySF (plainFor_of_name pn_1) hisR ?_
  intro p e s m args below meth c s₁ Bd hml0 hP hK
  obtain ⟨rfl, hZ, hh⟩ := hP
  have hx := Bd.exec
  have hby := Bd.bytes
  have hml : c.maxLocals = 1 := hml0
  have hown : s.vm.findClass "java/lang/Enum" = some m.cls := findClass_of_methodNamed Bd.named
  have hnm := (name_of_methodNamed Bd.named Bd.method).1
  have X0 : Stand p l e ({ frames := 0, cells := 0, slots := 0, locals := 0 } : Room) s m #[(.ref a1)] below meth c s₁ [] 0 0 := Stand.of_body Bd
  have e0 : s₁.heap = h0 := by rw [← hh, Bd.state]; rfl
  have N0 := Fr.nil n0
  have pre0 : ∀ t, Steps p.tables e below (s₁.setTop (mkF m 0 #[.val (.ref a1)] [])) t → Steps p.tables e below (s₁.setTop (entryFrame m #[(.ref a1)] 1)) t := fun t k => castTop (ef_rm3_34 m a1) k
  obtain ⟨T3, X3, e3, st3⟩ := getF X0 hx hZ hown (host := "") (Or.inl (hw _ (gw 56 rfl))) Via.refl e0 (Fld.ext O0.2 F2) (g := (mkF m 1 #[.val (.ref a1)] [(.ref a1)])) rfl rfl (hb hby d3_1)
  obtain ⟨fs, hr, hrun, hended, hW, hsame⟩ := X3.leave (v := some (.int (10 : Int32))) (fun h => by rw [Bd.returns] at h; cases h)
  refine ⟨_, _, pre0 _ ?_, hrun, hended, _, _, rfl, ?_, ⟨_, rfl⟩, hW, hsame.mono (by decide) (by decide)⟩
  · show Steps p.tables e below (s₁.setTop (mkF m 0 #[.val (.ref a1)] [])) _
    refine XS.aloadN X0.here hx rfl (hb hby d3_0) rfl rfl ?_
    refine st3 _ ?_
    show Steps p.tables e below (T3.setTop (mkF m 4 #[.val (.ref a1)] [(.int (10 : Int32))])) _
    exact retI X3 hx Bd.returns (hb hby d3_4) hr
  · show Q3_34 Z _ h0 n0 _ T3.heap _
    rw [e3]
    exact ⟨rfl, N0, rfl⟩
theorem ef_rm2_33 (m : MethodId) (x0 : Addr) : entryFrame m #[(.ref x0)] 1 = mkF m 0 #[.val (.ref x0)] [] := by first | (simp [entryFrame, mkF, argsToLocals, Value.category]; done) | rfl
def Q2_33 (Z : State) (a1 : Addr) (h0 : Heap) (n0 : Nat) (v : Option Value) (h : Heap) (L : List Loc) : Prop := (v = some (.int (10 : Int32)) ∧ Fr n0 L ∧ h = h0)
set_option maxRecDepth 65536 in
set_option maxHeartbeats 40000000 in
theorem rm2_33 (l : Launch) (Z : State) (a0 : Array Value) (hw : ∀ d ∈ own_ws, d.before a0 Z = true) (ws : List Jvm.Cond) (a1 : Addr) (h0 : Heap) (n0 : Nat) (O0 : Old Z n0 h0) (E_2 : Exa Z Z.heap a1 C_0) (F3 : Fld Z Z.heap a1 C_3 "ordinal" "I" (.int (10 : Int32))) :
    MetFree l M_3 (head1 (Jvm.Cond.code M_3 prog_70_method_4_code 1 (some .int) :: ws) ({ frames := 1, cells := 0, slots := 0, locals := 12 } : Room)) (fun a U => a = #[(.ref a1)] ∧ Z.Warmed39 U.vm ∧ U.heap = h0) (fun _ _ _ _ _ => True) (fun _ U o U' => ∃ v L, o = .returned v ∧ Q2_33 Z a1 h0 n0 v U'.heap L ∧ FrameEnd U o U' L ({ frames := 1, cells := 0, slots := 0, locals := 12 } : Room).cells ({ frames := 1, cells := 0, slots := 0, locals := 12 } : Room).slots) := by
  refine MetFree.of_bodySF (plainFor_of_name pn_0) hisR ?_
  intro p e s m args below meth c s₁ Bd hml0 hP hK
  obtain ⟨rfl, hZ, hh⟩ := hP
  have hx := Bd.exec
  have hby := Bd.bytes
  have hml : c.maxLocals = 1 := hml0
  have hown : s.vm.findClass "com/example/ringstead/ringstead/node/Wire$Call" = some m.cls := findClass_of_methodNamed Bd.named
  have hnm := (name_of_methodNamed Bd.named Bd.method).1
  have X0 : Stand p l e ({ frames := 1, cells := 0, slots := 0, locals := 12 } : Room) s m #[(.ref a1)] below meth c s₁ [] 0 0 := Stand.of_body Bd
  have e0 : s₁.heap = h0 := by rw [← hh, Bd.state]; rfl
  have N0 := Fr.nil n0
  have pre0 : ∀ t, Steps p.tables e below (s₁.setTop (mkF m 0 #[.val (.ref a1)] [])) t → Steps p.tables e below (s₁.setTop (entryFrame m #[(.ref a1)] 1)) t := fun t k => castTop (ef_rm2_33 m a1) k
  obtain ⟨cq4, kq4, q4a, q4b, q4c⟩ := isOf hZ e0 (Exa.ext O0.2 E_2)
  obtain ⟨_, _, ⟨T4, L4, k4, n4⟩, -, X4, ⟨Lc4, hQ4, l4, y4, z4⟩, st4⟩ := X0.virtualBackUp hx (owner := "java/lang/Enum") (x := M_2) (y := M_1) hown (mvT hZ (hw _ (gw 49 rfl))) (mvT hZ (hw _ (gw 50 rfl))) (mvT hZ (hw _ (gw 51 rfl))) (by decide) (mvT hZ (hw _ (gw 53 rfl))) (mvT hZ (hw _ (gw 52 rfl))) (backOf (W := 0) (rm3_34 l Z a0 hw [] a1 h0 n0  O0 F3) hZ (hw _ (gw 55 rfl)) (hw _ (gw 54 rfl)) (by decide) (by decide)) q4a q4c (g := (mkF m 1 #[.val (.ref a1)] [(.ref a1)])) rfl (by rw [hml]; rfl) (Steps.refl _) (argsL := []) (rest := []) (lenOf pd_1 rfl) rfl (by show 2 * 0 + _ ≤ _; exact Nat.le_of_eq rfl) (hb hby d2_1) (fun _ _ => ⟨rfl, e0, (by decide : 0 + 0 ≤ _), (by decide : 0 + 0 ≤ _)⟩)
  dsimp only [Pt.U, Pt.locs, Pt.cells, Pt.slots] at X4 l4 y4 z4 st4 hQ4
  subst l4 y4 z4
  obtain ⟨rfl, u6, u7⟩ := hQ4
  have N4 := Fr.app N0 u6
  obtain ⟨fs, hr, hrun, hended, hW, hsame⟩ := X4.leave (v := some (.int (10 : Int32))) (fun h => by rw [Bd.returns] at h; cases h)
  refine ⟨_, _, pre0 _ ?_, hrun, hended, _, _, rfl, ?_, ⟨_, rfl⟩, hW, hsame.mono (by decide) (by decide)⟩
  · show Steps p.tables e below (s₁.setTop (mkF m 0 #[.val (.ref a1)] [])) _
    refine XS.aloadN X0.here hx rfl (hb hby d2_0) rfl rfl ?_
    refine st4.trans ?_
    show Steps p.tables e below (T4.setTop (mkF m 4 #[.val (.ref a1)] [(.int (10 : Int32))])) _
    exact retI X4 hx Bd.returns (hb hby d2_4) hr
  · show Q2_33 Z _ h0 n0 _ T4.heap _
    rw [u7]
    exact ⟨rfl, N4, rfl⟩
theorem ef_rm1_35 (m : MethodId)  : entryFrame m #[(.int (11 : Int32))] 1 = mkF m 0 #[.val (.int (11 : Int32))] [] := by first | (simp [entryFrame, mkF, argsToLocals, Value.category]; done) | rfl
def Q1_35 (Z : State) (a1 : Addr) (a4 : Addr) (a5 : Addr) (a6 : Addr) (a7 : Addr) (a8 : Addr) (a9 : Addr) (a10 : Addr) (a11 : Addr) (a12 : Addr) (a13 : Addr) (a14 : Addr) (a15 : Addr) (a16 : Addr) (a17 : Addr) (a18 : Addr) (a19 : Addr) (a20 : Addr) (k21 : ClassId) (h0 : Heap) (n0 : Nat) (v : Option Value) (h : Heap) (L : List Loc) : Prop := (v = some (.ref a15) ∧ Fr n0 L ∧ h = h0)
set_option maxRecDepth 65536 in
set_option maxHeartbeats 40000000 in
theorem rm1_35 (l : Launch) (Z : State) (a0 : Array Value) (hw : ∀ d ∈ own_ws, d.before a0 Z = true) (ws : List Jvm.Cond) (a1 : Addr) (a4 : Addr) (a5 : Addr) (a6 : Addr) (a7 : Addr) (a8 : Addr) (a9 : Addr) (a10 : Addr) (a11 : Addr) (a12 : Addr) (a13 : Addr) (a14 : Addr) (a15 : Addr) (a16 : Addr) (a17 : Addr) (a18 : Addr) (a19 : Addr) (a20 : Addr) (k21 : ClassId) (h0 : Heap) (n0 : Nat) (O0 : Old Z n0 h0) (S_2 : Sta Z Z.heap C_0 "BY_CODE" C_2 (.ref a1)) (V22 : Arv Z Z.heap a1 k21 (.object "com/example/ringstead/ringstead/node/Wire$Call") (17 : Int32) [(.ref a4), (.ref a5), (.ref a6), (.ref a7), (.ref a8), (.ref a9), (.ref a10), (.ref a11), (.ref a12), (.ref a13), (.ref a14), (.ref a15), (.ref a16), (.ref a17), (.ref a18), (.ref a19), (.ref a20)] .null) :
    MetFree l M_0 (head1 (Jvm.Cond.code M_0 prog_70_method_5_code 1 (some (.object "com/example/ringstead/ringstead/node/Wire$Call")) :: ws) ({ frames := 0, cells := 0, slots := 0, locals := 0 } : Room)) (fun a U => a = #[(.int (11 : Int32))] ∧ Z.Warmed39 U.vm ∧ U.heap = h0) (fun _ _ _ _ _ => True) (fun _ U o U' => ∃ v L, o = .returned v ∧ Q1_35 Z a1 a4 a5 a6 a7 a8 a9 a10 a11 a12 a13 a14 a15 a16 a17 a18 a19 a20 k21 h0 n0 v U'.heap L ∧ FrameEnd U o U' L ({ frames := 0, cells := 0, slots := 0, locals := 0 } : Room).cells ({ frames := 0, cells := 0, slots := 0, locals := 0 } : Room).slots) := by
  refine MetFree.of_bodySF (plainFor_of_name pn_0) hisR ?_
  intro p e s m args below meth c s₁ Bd hml0 hP hK
  obtain ⟨rfl, hZ, hh⟩ := hP
  have hx := Bd.exec
  have hby := Bd.bytes
  have hml : c.maxLocals = 1 := hml0
  have hown : s.vm.findClass "com/example/ringstead/ringstead/node/Wire$Call" = some m.cls := findClass_of_methodNamed Bd.named
  have hnm := (name_of_methodNamed Bd.named Bd.method).1
  have X0 : Stand p l e ({ frames := 0, cells := 0, slots := 0, locals := 0 } : Room) s m #[(.int (11 : Int32))] below meth c s₁ [] 0 0 := Stand.of_body Bd
  have e0 : s₁.heap = h0 := by rw [← hh, Bd.state]; rfl
  have N0 := Fr.nil n0
  have pre0 : ∀ t, Steps p.tables e below (s₁.setTop (mkF m 0 #[.val (.int (11 : Int32))] [])) t → Steps p.tables e below (s₁.setTop (entryFrame m #[(.int (11 : Int32))] 1)) t := fun t k => castTop (ef_rm1_35 m ) k
  obtain ⟨T3, X3, e3, st3⟩ := getS2 X0 hx hZ hown (host := "") (Or.inl (hw _ (gw 42 rfl))) Via.refl e0 (Sta.ext O0.2 S_2) (g := (mkF m 5 #[.val (.int (11 : Int32))] [(.int (11 : Int32))])) rfl (hb hby d1_5)
  obtain ⟨cl23, Ar23, -, Sz23, Nn23, -, -⟩ := id (V22.ext O0.2)
  obtain ⟨T24, X24, e24, st24⟩ := getS2 X3 hx hZ hown (host := "") (Or.inl (hw _ (gw 42 rfl))) Via.refl e3 (Sta.ext O0.2 S_2) (g := (mkF m 26 #[.val (.int (11 : Int32))] [])) rfl (hb hby d1_26)
  obtain ⟨cl25, Ar25, -, Sz25, -, Hh25, -⟩ := id (V22.ext O0.2)
  have hin25 : ¬ ((11 : Int32) < 0 ∨ cl25.slots.size ≤ ((11 : Int32)).toNatClampNeg) := inb_of Sz25 ⟨by decide +kernel, by decide +kernel⟩
  have hat25 : cl25.slots[((11 : Int32)).toNatClampNeg]? = some (.ref a15) := Has.at Hh25 hin25 rfl
  obtain ⟨fs, hr, hrun, hended, hW, hsame⟩ := X24.leave (v := some (.ref a15)) (fun h => by rw [Bd.returns] at h; cases h)
  refine ⟨_, _, pre0 _ ?_, hrun, hended, _, _, rfl, ?_, ⟨_, rfl⟩, hW, hsame.mono (by decide) (by decide)⟩
  · show Steps p.tables e below (s₁.setTop (mkF m 0 #[.val (.int (11 : Int32))] [])) _
    refine XS.iloadN X0.here hx rfl (hb hby d1_0) rfl ?_
    refine XS.ifNo X0.here hx rfl (hb hby d1_1) rfl ((if0 _ _).trans (flt (by decide +kernel : ¬ ((11 : Int32) < (0 : Int32)))).1) ?_
    refine XS.iloadN X0.here hx rfl (hb hby d1_4) rfl ?_
    refine st3 _ ?_
    refine X3.arraylength hx (by rw [e3]; exact Ar23.1) (State.isArrayOf_alike hZ.alike Ar23.2.1) (g := (mkF m 8 #[.val (.int (11 : Int32))] [(.ref a1), (.int (11 : Int32))])) rfl rfl (hb hby d1_8) _ ?_
    rw [len_of Sz23 Nn23]
    refine XS.icmpYes X3.here hx rfl (pc0 := 9) (pc' := 26) rfl (hb hby d1_9) rfl (tlt (by decide +kernel : (11 : Int32) < (17 : Int32))).1 (by decide) (by decide) ?_
    refine st24 _ ?_
    refine XS.iloadN X24.here hx rfl (hb hby d1_29) rfl ?_
    refine X24.aaload hx (j := (11 : Int32)) (v := (.ref a15)) (by rw [e24]; exact Ar25.1) (State.isArrayOf_alike hZ.alike Ar25.2.1) rfl Ar25.2.2 hin25 hat25 (g := (mkF m 30 #[.val (.int (11 : Int32))] [(.int (11 : Int32)), (.ref a1)])) rfl rfl (hb hby d1_30) _ ?_
    show Steps p.tables e below (T24.setTop (mkF m 31 #[.val (.int (11 : Int32))] [(.ref a15)])) _
    jvm_step X24.here [X24.here.top, hx, (hb hby d1_31), X24.method', Bd.returns, Value.isRef, FieldType.isReference]
    first | (intro acts; rw [hr _ acts rfl rfl rfl]) | rw [hr _ _ rfl rfl rfl]
    exact Steps.refl _
  · show Q1_35 Z _ _ _ _ _ _ _ _ _ _ _ _ _ _ _ _ _ _ _ h0 n0 _ T24.heap _
    rw [e24]
    exact ⟨rfl, N0, rfl⟩
theorem ef_rm3_37 (m : MethodId) (x0 : Addr) : entryFrame m #[(.ref x0)] 1 = mkF m 0 #[.val (.ref x0)] [] := by first | (simp [entryFrame, mkF, argsToLocals, Value.category]; done) | rfl
def Q3_37 (Z : State) (a1 : Addr) (h0 : Heap) (n0 : Nat) (v : Option Value) (h : Heap) (L : List Loc) : Prop := (v = some (.int (11 : Int32)) ∧ Fr n0 L ∧ h = h0)
set_option maxRecDepth 65536 in
set_option maxHeartbeats 40000000 in
theorem rm3_37 (l : Launch) (Z : State) (a0 : Array Value) (hw : ∀ d ∈ own_ws, d.before a0 Z = true) (ws : List Jvm.Cond) (a1 : Addr) (h0 : Heap) (n0 : Nat) (O0 : Old Z n0 h0) (F2 : Fld Z Z.heap a1 C_3 "ordinal" "I" (.int (11 : Int32))) :
    MetFree l M_1 (head1 (Jvm.Cond.code M_1 jdk_37_method_2_code 1 (some .int) :: ws) ({ frames := 0, cells := 0, slots := 0, locals := 0 } : Room)) (fun a U => a = #[(.ref a1)] ∧ Z.Warmed39 U.vm ∧ U.heap = h0) (fun _ _ _ _ _ => True) (fun _ U o U' => ∃ v L, o = .returned v ∧ Q3_37 Z a1 h0 n0 v U'.heap L ∧ FrameEnd U o U' L ({ frames := 0, cells := 0, slots := 0, locals := 0 } : Room).cells ({ frames := 0, cells := 0, slots := 0, locals := 0 } : Room).slots) := by
  refine MetFree.of_bodySF (plainFor_of_name pn_1) hisR ?_
  intro p e s m args below meth c s₁ Bd hml0 hP hK
  obtain ⟨rfl, hZ, hh⟩ := hP
  have hx := Bd.exec
  have hby := Bd.bytes
  have hml : c.maxLocals = 1 := hml0
  have hown : s.vm.findClass "java/lang/Enum" = some m.cls := findClass_of_methodNamed Bd.named
  have hnm := (name_of_methodNamed Bd.named Bd.method).1
  have X0 : Stand p l e ({ frames := 0, cells := 0, slots := 0, locals := 0 } : Room) s m #[(.ref a1)] below meth c s₁ [] 0 0 := Stand.of_body Bd
  have e0 : s₁.heap = h0 := by rw [← hh, Bd.state]; rfl
  have N0 := Fr.nil n0
  have pre0 : ∀ t, Steps p.tables e below (s₁.setTop (mkF m 0 #[.val (.ref a1)] [])) t → Steps p.tables e below (s₁.setTop (entryFrame m #[(.ref a1)] 1)) t := fun t k => castTop (ef_rm3_37 m a1) k
  obtain ⟨T3, X3, e3, st3⟩ := getF X0 hx hZ hown (host := "") (Or.inl (hw _ (gw 56 rfl))) Via.refl e0 (Fld.ext O0.2 F2) (g := (mkF m 1 #[.val (.ref a1)] [(.ref a1)])) rfl rfl (hb hby d3_1)
  obtain ⟨fs, hr, hrun, hended, hW, hsame⟩ := X3.leave (v := some (.int (11 : Int32))) (fun h => by rw [Bd.returns] at h; cases h)
  refine ⟨_, _, pre0 _ ?_, hrun, hended, _, _, rfl, ?_, ⟨_, rfl⟩, hW, hsame.mono (by decide) (by decide)⟩
  · show Steps p.tables e below (s₁.setTop (mkF m 0 #[.val (.ref a1)] [])) _
    refine XS.aloadN X0.here hx rfl (hb hby d3_0) rfl rfl ?_
    refine st3 _ ?_
    show Steps p.tables e below (T3.setTop (mkF m 4 #[.val (.ref a1)] [(.int (11 : Int32))])) _
    exact retI X3 hx Bd.returns (hb hby d3_4) hr
  · show Q3_37 Z _ h0 n0 _ T3.heap _
    rw [e3]
    exact ⟨rfl, N0, rfl⟩
theorem ef_rm2_36 (m : MethodId) (x0 : Addr) : entryFrame m #[(.ref x0)] 1 = mkF m 0 #[.val (.ref x0)] [] := by first | (simp [entryFrame, mkF, argsToLocals, Value.category]; done) | rfl
def Q2_36 (Z : State) (a1 : Addr) (h0 : Heap) (n0 : Nat) (v : Option Value) (h : Heap) (L : List Loc) : Prop := (v = some (.int (11 : Int32)) ∧ Fr n0 L ∧ h = h0)
set_option maxRecDepth 65536 in
set_option maxHeartbeats 40000000 in
theorem rm2_36 (l : Launch) (Z : State) (a0 : Array Value) (hw : ∀ d ∈ own_ws, d.before a0 Z = true) (ws : List Jvm.Cond) (a1 : Addr) (h0 : Heap) (n0 : Nat) (O0 : Old Z n0 h0) (E_2 : Exa Z Z.heap a1 C_0) (F3 : Fld Z Z.heap a1 C_3 "ordinal" "I" (.int (11 : Int32))) :
    MetFree l M_3 (head1 (Jvm.Cond.code M_3 prog_70_method_4_code 1 (some .int) :: ws) ({ frames := 1, cells := 0, slots := 0, locals := 12 } : Room)) (fun a U => a = #[(.ref a1)] ∧ Z.Warmed39 U.vm ∧ U.heap = h0) (fun _ _ _ _ _ => True) (fun _ U o U' => ∃ v L, o = .returned v ∧ Q2_36 Z a1 h0 n0 v U'.heap L ∧ FrameEnd U o U' L ({ frames := 1, cells := 0, slots := 0, locals := 12 } : Room).cells ({ frames := 1, cells := 0, slots := 0, locals := 12 } : Room).slots) := by
  refine MetFree.of_bodySF (plainFor_of_name pn_0) hisR ?_
  intro p e s m args below meth c s₁ Bd hml0 hP hK
  obtain ⟨rfl, hZ, hh⟩ := hP
  have hx := Bd.exec
  have hby := Bd.bytes
  have hml : c.maxLocals = 1 := hml0
  have hown : s.vm.findClass "com/example/ringstead/ringstead/node/Wire$Call" = some m.cls := findClass_of_methodNamed Bd.named
  have hnm := (name_of_methodNamed Bd.named Bd.method).1
  have X0 : Stand p l e ({ frames := 1, cells := 0, slots := 0, locals := 12 } : Room) s m #[(.ref a1)] below meth c s₁ [] 0 0 := Stand.of_body Bd
  have e0 : s₁.heap = h0 := by rw [← hh, Bd.state]; rfl
  have N0 := Fr.nil n0
  have pre0 : ∀ t, Steps p.tables e below (s₁.setTop (mkF m 0 #[.val (.ref a1)] [])) t → Steps p.tables e below (s₁.setTop (entryFrame m #[(.ref a1)] 1)) t := fun t k => castTop (ef_rm2_36 m a1) k
  obtain ⟨cq4, kq4, q4a, q4b, q4c⟩ := isOf hZ e0 (Exa.ext O0.2 E_2)
  obtain ⟨_, _, ⟨T4, L4, k4, n4⟩, -, X4, ⟨Lc4, hQ4, l4, y4, z4⟩, st4⟩ := X0.virtualBackUp hx (owner := "java/lang/Enum") (x := M_2) (y := M_1) hown (mvT hZ (hw _ (gw 49 rfl))) (mvT hZ (hw _ (gw 50 rfl))) (mvT hZ (hw _ (gw 51 rfl))) (by decide) (mvT hZ (hw _ (gw 53 rfl))) (mvT hZ (hw _ (gw 52 rfl))) (backOf (W := 0) (rm3_37 l Z a0 hw [] a1 h0 n0  O0 F3) hZ (hw _ (gw 55 rfl)) (hw _ (gw 54 rfl)) (by decide) (by decide)) q4a q4c (g := (mkF m 1 #[.val (.ref a1)] [(.ref a1)])) rfl (by rw [hml]; rfl) (Steps.refl _) (argsL := []) (rest := []) (lenOf pd_1 rfl) rfl (by show 2 * 0 + _ ≤ _; exact Nat.le_of_eq rfl) (hb hby d2_1) (fun _ _ => ⟨rfl, e0, (by decide : 0 + 0 ≤ _), (by decide : 0 + 0 ≤ _)⟩)
  dsimp only [Pt.U, Pt.locs, Pt.cells, Pt.slots] at X4 l4 y4 z4 st4 hQ4
  subst l4 y4 z4
  obtain ⟨rfl, u6, u7⟩ := hQ4
  have N4 := Fr.app N0 u6
  obtain ⟨fs, hr, hrun, hended, hW, hsame⟩ := X4.leave (v := some (.int (11 : Int32))) (fun h => by rw [Bd.returns] at h; cases h)
  refine ⟨_, _, pre0 _ ?_, hrun, hended, _, _, rfl, ?_, ⟨_, rfl⟩, hW, hsame.mono (by decide) (by decide)⟩
  · show Steps p.tables e below (s₁.setTop (mkF m 0 #[.val (.ref a1)] [])) _
    refine XS.aloadN X0.here hx rfl (hb hby d2_0) rfl rfl ?_
    refine st4.trans ?_
    show Steps p.tables e below (T4.setTop (mkF m 4 #[.val (.ref a1)] [(.int (11 : Int32))])) _
    exact retI X4 hx Bd.returns (hb hby d2_4) hr
  · show Q2_36 Z _ h0 n0 _ T4.heap _
    rw [u7]
    exact ⟨rfl, N4, rfl⟩
theorem ef_rm1_38 (m : MethodId)  : entryFrame m #[(.int (12 : Int32))] 1 = mkF m 0 #[.val (.int (12 : Int32))] [] := by first | (simp [entryFrame, mkF, argsToLocals, Value.category]; done) | rfl
def Q1_38 (Z : State) (a1 : Addr) (a4 : Addr) (a5 : Addr) (a6 : Addr) (a7 : Addr) (a8 : Addr) (a9 : Addr) (a10 : Addr) (a11 : Addr) (a12 : Addr) (a13 : Addr) (a14 : Addr) (a15 : Addr) (a16 : Addr) (a17 : Addr) (a18 : Addr) (a19 : Addr) (a20 : Addr) (k21 : ClassId) (h0 : Heap) (n0 : Nat) (v : Option Value) (h : Heap) (L : List Loc) : Prop := (v = some (.ref a16) ∧ Fr n0 L ∧ h = h0)
set_option maxRecDepth 65536 in
set_option maxHeartbeats 40000000 in
theorem rm1_38 (l : Launch) (Z : State) (a0 : Array Value) (hw : ∀ d ∈ own_ws, d.before a0 Z = true) (ws : List Jvm.Cond) (a1 : Addr) (a4 : Addr) (a5 : Addr) (a6 : Addr) (a7 : Addr) (a8 : Addr) (a9 : Addr) (a10 : Addr) (a11 : Addr) (a12 : Addr) (a13 : Addr) (a14 : Addr) (a15 : Addr) (a16 : Addr) (a17 : Addr) (a18 : Addr) (a19 : Addr) (a20 : Addr) (k21 : ClassId) (h0 : Heap) (n0 : Nat) (O0 : Old Z n0 h0) (S_2 : Sta Z Z.heap C_0 "BY_CODE" C_2 (.ref a1)) (V22 : Arv Z Z.heap a1 k21 (.object "com/example/ringstead/ringstead/node/Wire$Call") (17 : Int32) [(.ref a4), (.ref a5), (.ref a6), (.ref a7), (.ref a8), (.ref a9), (.ref a10), (.ref a11), (.ref a12), (.ref a13), (.ref a14), (.ref a15), (.ref a16), (.ref a17), (.ref a18), (.ref a19), (.ref a20)] .null) :
    MetFree l M_0 (head1 (Jvm.Cond.code M_0 prog_70_method_5_code 1 (some (.object "com/example/ringstead/ringstead/node/Wire$Call")) :: ws) ({ frames := 0, cells := 0, slots := 0, locals := 0 } : Room)) (fun a U => a = #[(.int (12 : Int32))] ∧ Z.Warmed39 U.vm ∧ U.heap = h0) (fun _ _ _ _ _ => True) (fun _ U o U' => ∃ v L, o = .returned v ∧ Q1_38 Z a1 a4 a5 a6 a7 a8 a9 a10 a11 a12 a13 a14 a15 a16 a17 a18 a19 a20 k21 h0 n0 v U'.heap L ∧ FrameEnd U o U' L ({ frames := 0, cells := 0, slots := 0, locals := 0 } : Room).cells ({ frames := 0, cells := 0, slots := 0, locals := 0 } : Room).slots) := by
  refine MetFree.of_bodySF (plainFor_of_name pn_0) hisR ?_
  intro p e s m args below meth c s₁ Bd hml0 hP hK
  obtain ⟨rfl, hZ, hh⟩ := hP
  have hx := Bd.exec
  have hby := Bd.bytes
  have hml : c.maxLocals = 1 := hml0
  have hown : s.vm.findClass "com/example/ringstead/ringstead/node/Wire$Call" = some m.cls := findClass_of_methodNamed Bd.named
  have hnm := (name_of_methodNamed Bd.named Bd.method).1
  have X0 : Stand p l e ({ frames := 0, cells := 0, slots := 0, locals := 0 } : Room) s m #[(.int (12 : Int32))] below meth c s₁ [] 0 0 := Stand.of_body Bd
  have e0 : s₁.heap = h0 := by rw [← hh, Bd.state]; rfl
  have N0 := Fr.nil n0
  have pre0 : ∀ t, Steps p.tables e below (s₁.setTop (mkF m 0 #[.val (.int (12 : Int32))] [])) t → Steps p.tables e below (s₁.setTop (entryFrame m #[(.int (12 : Int32))] 1)) t := fun t k => castTop (ef_rm1_38 m ) k
  obtain ⟨T3, X3, e3, st3⟩ := getS2 X0 hx hZ hown (host := "") (Or.inl (hw _ (gw 42 rfl))) Via.refl e0 (Sta.ext O0.2 S_2) (g := (mkF m 5 #[.val (.int (12 : Int32))] [(.int (12 : Int32))])) rfl (hb hby d1_5)
  obtain ⟨cl23, Ar23, -, Sz23, Nn23, -, -⟩ := id (V22.ext O0.2)
  obtain ⟨T24, X24, e24, st24⟩ := getS2 X3 hx hZ hown (host := "") (Or.inl (hw _ (gw 42 rfl))) Via.refl e3 (Sta.ext O0.2 S_2) (g := (mkF m 26 #[.val (.int (12 : Int32))] [])) rfl (hb hby d1_26)
  obtain ⟨cl25, Ar25, -, Sz25, -, Hh25, -⟩ := id (V22.ext O0.2)
  have hin25 : ¬ ((12 : Int32) < 0 ∨ cl25.slots.size ≤ ((12 : Int32)).toNatClampNeg) := inb_of Sz25 ⟨by decide +kernel, by decide +kernel⟩
  have hat25 : cl25.slots[((12 : Int32)).toNatClampNeg]? = some (.ref a16) := Has.at Hh25 hin25 rfl
  obtain ⟨fs, hr, hrun, hended, hW, hsame⟩ := X24.leave (v := some (.ref a16)) (fun h => by rw [Bd.returns] at h; cases h)
  refine ⟨_, _, pre0 _ ?_, hrun, hended, _, _, rfl, ?_, ⟨_, rfl⟩, hW, hsame.mono (by decide) (by decide)⟩
  · show Steps p.tables e below (s₁.setTop (mkF m 0 #[.val (.int (12 : Int32))] [])) _
    refine XS.iloadN X0.here hx rfl (hb hby d1_0) rfl ?_
    refine XS.ifNo X0.here hx rfl (hb hby d1_1) rfl ((if0 _ _).trans (flt (by decide +kernel : ¬ ((12 : Int32) < (0 : Int32)))).1) ?_
    refine XS.iloadN X0.here hx rfl (hb hby d1_4) rfl ?_
    refine st3 _ ?_
    refine X3.arraylength hx (by rw [e3]; exact Ar23.1) (State.isArrayOf_alike hZ.alike Ar23.2.1) (g := (mkF m 8 #[.val (.int (12 : Int32))] [(.ref a1), (.int (12 : Int32))])) rfl rfl (hb hby d1_8) _ ?_
    rw [len_of Sz23 Nn23]
    refine XS.icmpYes X3.here hx rfl (pc0 := 9) (pc' := 26) rfl (hb hby d1_9) rfl (tlt (by decide +kernel : (12 : Int32) < (17 : Int32))).1 (by decide) (by decide) ?_
    refine st24 _ ?_
    refine XS.iloadN X24.here hx rfl (hb hby d1_29) rfl ?_
    refine X24.aaload hx (j := (12 : Int32)) (v := (.ref a16)) (by rw [e24]; exact Ar25.1) (State.isArrayOf_alike hZ.alike Ar25.2.1) rfl Ar25.2.2 hin25 hat25 (g := (mkF m 30 #[.val (.int (12 : Int32))] [(.int (12 : Int32)), (.ref a1)])) rfl rfl (hb hby d1_30) _ ?_
    show Steps p.tables e below (T24.setTop (mkF m 31 #[.val (.int (12 : Int32))] [(.ref a16)])) _
    jvm_step X24.here [X24.here.top, hx, (hb hby d1_31), X24.method', Bd.returns, Value.isRef, FieldType.isReference]
    first | (intro acts; rw [hr _ acts rfl rfl rfl]) | rw [hr _ _ rfl rfl rfl]
    exact Steps.refl _
  · show Q1_38 Z _ _ _ _ _ _ _ _ _ _ _ _ _ _ _ _ _ _ _ h0 n0 _ T24.heap _
    rw [e24]
    exact ⟨rfl, N0, rfl⟩
theorem ef_rm3_40 (m : MethodId) (x0 : Addr) : entryFrame m #[(.ref x0)] 1 = mkF m 0 #[.val (.ref x0)] [] := by first | (simp [entryFrame, mkF, argsToLocals, Value.category]; done) | rfl
def Q3_40 (Z : State) (a1 : Addr) (h0 : Heap) (n0 : Nat) (v : Option Value) (h : Heap) (L : List Loc) : Prop := (v = some (.int (12 : Int32)) ∧ Fr n0 L ∧ h = h0)
set_option maxRecDepth 65536 in
set_option maxHeartbeats 40000000 in
theorem rm3_40 (l : Launch) (Z : State) (a0 : Array Value) (hw : ∀ d ∈ own_ws, d.before a0 Z = true) (ws : List Jvm.Cond) (a1 : Addr) (h0 : Heap) (n0 : Nat) (O0 : Old Z n0 h0) (F2 : Fld Z Z.heap a1 C_3 "ordinal" "I" (.int (12 : Int32))) :
    MetFree l M_1 (head1 (Jvm.Cond.code M_1 jdk_37_method_2_code 1 (some .int) :: ws) ({ frames := 0, cells := 0, slots := 0, locals := 0 } : Room)) (fun a U => a = #[(.ref a1)] ∧ Z.Warmed39 U.vm ∧ U.heap = h0) (fun _ _ _ _ _ => True) (fun _ U o U' => ∃ v L, o = .returned v ∧ Q3_40 Z a1 h0 n0 v U'.heap L ∧ FrameEnd U o U' L ({ frames := 0, cells := 0, slots := 0, locals := 0 } : Room).cells ({ frames := 0, cells := 0, slots := 0, locals := 0 } : Room).slots) := by
  refine MetFree.of_bodySF (plainFor_of_name pn_1) hisR ?_
  intro p e s m args below meth c s₁ Bd hml0 hP hK
  obtain ⟨rfl, hZ, hh⟩ := hP
  have hx := Bd.exec
  have hby := Bd.bytes
  have hml : c.maxLocals = 1 := hml0
  have hown : s.vm.findClass "java/lang/Enum" = some m.cls := findClass_of_methodNamed Bd.named
  have hnm := (name_of_methodNamed Bd.named Bd.method).1
  have X0 : Stand p l e ({ frames := 0, cells := 0, slots := 0, locals := 0 } : Room) s m #[(.ref a1)] below meth c s₁ [] 0 0 := Stand.of_body Bd
  have e0 : s₁.heap = h0 := by rw [← hh, Bd.state]; rfl
  have N0 := Fr.nil n0
  have pre0 : ∀ t, Steps p.tables e below (s₁.setTop (mkF m 0 #[.val (.ref a1)] [])) t → Steps p.tables e below (s₁.setTop (entryFrame m #[(.ref a1)] 1)) t := fun t k => castTop (ef_rm3_40 m a1) k
  obtain ⟨T3, X3, e3, st3⟩ := getF X0 hx hZ hown (host := "") (Or.inl (hw _ (gw 56 rfl))) Via.refl e0 (Fld.ext O0.2 F2) (g := (mkF m 1 #[.val (.ref a1)] [(.ref a1)])) rfl rfl (hb hby d3_1)
  obtain ⟨fs, hr, hrun, hended, hW, hsame⟩ := X3.leave (v := some (.int (12 : Int32))) (fun h => by rw [Bd.returns] at h; cases h)
  refine ⟨_, _, pre0 _ ?_, hrun, hended, _, _, rfl, ?_, ⟨_, rfl⟩, hW, hsame.mono (by decide) (by decide)⟩
  · show Steps p.tables e below (s₁.setTop (mkF m 0 #[.val (.ref a1)] [])) _
    refine XS.aloadN X0.here hx rfl (hb hby d3_0) rfl rfl ?_
    refine st3 _ ?_
    show Steps p.tables e below (T3.setTop (mkF m 4 #[.val (.ref a1)] [(.int (12 : Int32))])) _
    exact retI X3 hx Bd.returns (hb hby d3_4) hr
  · show Q3_40 Z _ h0 n0 _ T3.heap _
    rw [e3]
    exact ⟨rfl, N0, rfl⟩
theorem ef_rm2_39 (m : MethodId) (x0 : Addr) : entryFrame m #[(.ref x0)] 1 = mkF m 0 #[.val (.ref x0)] [] := by first | (simp [entryFrame, mkF, argsToLocals, Value.category]; done) | rfl
def Q2_39 (Z : State) (a1 : Addr) (h0 : Heap) (n0 : Nat) (v : Option Value) (h : Heap) (L : List Loc) : Prop := (v = some (.int (12 : Int32)) ∧ Fr n0 L ∧ h = h0)
set_option maxRecDepth 65536 in
set_option maxHeartbeats 40000000 in
theorem rm2_39 (l : Launch) (Z : State) (a0 : Array Value) (hw : ∀ d ∈ own_ws, d.before a0 Z = true) (ws : List Jvm.Cond) (a1 : Addr) (h0 : Heap) (n0 : Nat) (O0 : Old Z n0 h0) (E_2 : Exa Z Z.heap a1 C_0) (F3 : Fld Z Z.heap a1 C_3 "ordinal" "I" (.int (12 : Int32))) :
    MetFree l M_3 (head1 (Jvm.Cond.code M_3 prog_70_method_4_code 1 (some .int) :: ws) ({ frames := 1, cells := 0, slots := 0, locals := 12 } : Room)) (fun a U => a = #[(.ref a1)] ∧ Z.Warmed39 U.vm ∧ U.heap = h0) (fun _ _ _ _ _ => True) (fun _ U o U' => ∃ v L, o = .returned v ∧ Q2_39 Z a1 h0 n0 v U'.heap L ∧ FrameEnd U o U' L ({ frames := 1, cells := 0, slots := 0, locals := 12 } : Room).cells ({ frames := 1, cells := 0, slots := 0, locals := 12 } : Room).slots) := by
  refine MetFree.of_bodySF (plainFor_of_name pn_0) hisR ?_
  intro p e s m args below meth c s₁ Bd hml0 hP hK
  obtain ⟨rfl, hZ, hh⟩ := hP
  have hx := Bd.exec
  have hby := Bd.bytes
  have hml : c.maxLocals = 1 := hml0
  have hown : s.vm.findClass "com/example/ringstead/ringstead/node/Wire$Call" = some m.cls := findClass_of_methodNamed Bd.named
  have hnm := (name_of_methodNamed Bd.named Bd.method).1
  have X0 : Stand p l e ({ frames := 1, cells := 0, slots := 0, locals := 12 } : Room) s m #[(.ref a1)] below meth c s₁ [] 0 0 := Stand.of_body Bd
  have e0 : s₁.heap = h0 := by rw [← hh, Bd.state]; rfl
  have N0 := Fr.nil n0
  have pre0 : ∀ t, Steps p.tables e below (s₁.setTop (mkF m 0 #[.val (.ref a1)] [])) t → Steps p.tables e below (s₁.setTop (entryFrame m #[(.ref a1)] 1)) t := fun t k => castTop (ef_rm2_39 m a1) k
  obtain ⟨cq4, kq4, q4a, q4b, q4c⟩ := isOf hZ e0 (Exa.ext O0.2 E_2)
  obtain ⟨_, _, ⟨T4, L4, k4, n4⟩, -, X4, ⟨Lc4, hQ4, l4, y4, z4⟩, st4⟩ := X0.virtualBackUp hx (owner := "java/lang/Enum") (x := M_2) (y := M_1) hown (mvT hZ (hw _ (gw 49 rfl))) (mvT hZ (hw _ (gw 50 rfl))) (mvT hZ (hw _ (gw 51 rfl))) (by decide) (mvT hZ (hw _ (gw 53 rfl))) (mvT hZ (hw _ (gw 52 rfl))) (backOf (W := 0) (rm3_40 l Z a0 hw [] a1 h0 n0  O0 F3) hZ (hw _ (gw 55 rfl)) (hw _ (gw 54 rfl)) (by decide) (by decide)) q4a q4c (g := (mkF m 1 #[.val (.ref a1)] [(.ref a1)])) rfl (by rw [hml]; rfl) (Steps.refl _) (argsL := []) (rest := []) (lenOf pd_1 rfl) rfl (by show 2 * 0 + _ ≤ _; exact Nat.le_of_eq rfl) (hb hby d2_1) (fun _ _ => ⟨rfl, e0, (by decide : 0 + 0 ≤ _), (by decide : 0 + 0 ≤ _)⟩)
  dsimp only [Pt.U, Pt.locs, Pt.cells, Pt.slots] at X4 l4 y4 z4 st4 hQ4
  subst l4 y4 z4
  obtain ⟨rfl, u6, u7⟩ := hQ4
  have N4 := Fr.app N0 u6
  obtain ⟨fs, hr, hrun, hended, hW, hsame⟩ := X4.leave (v := some (.int (12 : Int32))) (fun h => by rw [Bd.returns] at h; cases h)
  refine ⟨_, _, pre0 _ ?_, hrun, hended, _, _, rfl, ?_, ⟨_, rfl⟩, hW, hsame.mono (by decide) (by decide)⟩
  · show Steps p.tables e below (s₁.setTop (mkF m 0 #[.val (.ref a1)] [])) _
    refine XS.aloadN X0.here hx rfl (hb hby d2_0) rfl rfl ?_
    refine st4.trans ?_
    show Steps p.tables e below (T4.setTop (mkF m 4 #[.val (.ref a1)] [(.int (12 : Int32))])) _
    exact retI X4 hx Bd.returns (hb hby d2_4) hr
  · show Q2_39 Z _ h0 n0 _ T4.heap _
    rw [u7]
    exact ⟨rfl, N4, rfl⟩
theorem ef_rm1_41 (m : MethodId)  : entryFrame m #[(.int (13 : Int32))] 1 = mkF m 0 #[.val (.int (13 : Int32))] [] := by first | (simp [entryFrame, mkF, argsToLocals, Value.category]; done) | rfl
def Q1_41 (Z : State) (a1 : Addr) (a4 : Addr) (a5 : Addr) (a6 : Addr) (a7 : Addr) (a8 : Addr) (a9 : Addr) (a10 : Addr) (a11 : Addr) (a12 : Addr) (a13 : Addr) (a14 : Addr) (a15 : Addr) (a16 : Addr) (a17 : Addr) (a18 : Addr) (a19 : Addr) (a20 : Addr) (k21 : ClassId) (h0 : Heap) (n0 : Nat) (v : Option Value) (h : Heap) (L : List Loc) : Prop := (v = some (.ref a17) ∧ Fr n0 L ∧ h = h0)
set_option maxRecDepth 65536 in
set_option maxHeartbeats 40000000 in
theorem rm1_41 (l : Launch) (Z : State) (a0 : Array Value) (hw : ∀ d ∈ own_ws, d.before a0 Z = true) (ws : List Jvm.Cond) (a1 : Addr) (a4 : Addr) (a5 : Addr) (a6 : Addr) (a7 : Addr) (a8 : Addr) (a9 : Addr) (a10 : Addr) (a11 : Addr) (a12 : Addr) (a13 : Addr) (a14 : Addr) (a15 : Addr) (a16 : Addr) (a17 : Addr) (a18 : Addr) (a19 : Addr) (a20 : Addr) (k21 : ClassId) (h0 : Heap) (n0 : Nat) (O0 : Old Z n0 h0) (S_2 : Sta Z Z.heap C_0 "BY_CODE" C_2 (.ref a1)) (V22 : Arv Z Z.heap a1 k21 (.object "com/example/ringstead/ringstead/node/Wire$Call") (17 : Int32) [(.ref a4), (.ref a5), (.ref a6), (.ref a7), (.ref a8), (.ref a9), (.ref a10), (.ref a11), (.ref a12), (.ref a13), (.ref a14), (.ref a15), (.ref a16), (.ref a17), (.ref a18), (.ref a19), (.ref a20)] .null) :
    MetFree l M_0 (head1 (Jvm.Cond.code M_0 prog_70_method_5_code 1 (some (.object "com/example/ringstead/ringstead/node/Wire$Call")) :: ws) ({ frames := 0, cells := 0, slots := 0, locals := 0 } : Room)) (fun a U => a = #[(.int (13 : Int32))] ∧ Z.Warmed39 U.vm ∧ U.heap = h0) (fun _ _ _ _ _ => True) (fun _ U o U' => ∃ v L, o = .returned v ∧ Q1_41 Z a1 a4 a5 a6 a7 a8 a9 a10 a11 a12 a13 a14 a15 a16 a17 a18 a19 a20 k21 h0 n0 v U'.heap L ∧ FrameEnd U o U' L ({ frames := 0, cells := 0, slots := 0, locals := 0 } : Room).cells ({ frames := 0, cells := 0, slots := 0, locals := 0 } : Room).slots) := by
  refine MetFree.of_bodySF (plainFor_of_name pn_0) hisR ?_
  intro p e s m args below meth c s₁ Bd hml0 hP hK
  obtain ⟨rfl, hZ, hh⟩ := hP
  have hx := Bd.exec
  have hby := Bd.bytes
  have hml : c.maxLocals = 1 := hml0
  have hown : s.vm.findClass "com/example/ringstead/ringstead/node/Wire$Call" = some m.cls := findClass_of_methodNamed Bd.named
  have hnm := (name_of_methodNamed Bd.named Bd.method).1
  have X0 : Stand p l e ({ frames := 0, cells := 0, slots := 0, locals := 0 } : Room) s m #[(.int (13 : Int32))] below meth c s₁ [] 0 0 := Stand.of_body Bd
  have e0 : s₁.heap = h0 := by rw [← hh, Bd.state]; rfl
  have N0 := Fr.nil n0
  have pre0 : ∀ t, Steps p.tables e below (s₁.setTop (mkF m 0 #[.val (.int (13 : Int32))] [])) t → Steps p.tables e below (s₁.setTop (entryFrame m #[(.int (13 : Int32))] 1)) t := fun t k => castTop (ef_rm1_41 m ) k
  obtain ⟨T3, X3, e3, st3⟩ := getS2 X0 hx hZ hown (host := "") (Or.inl (hw _ (gw 42 rfl))) Via.refl e0 (Sta.ext O0.2 S_2) (g := (mkF m 5 #[.val (.int (13 : Int32))] [(.int (13 : Int32))])) rfl (hb hby d1_5)
  obtain ⟨cl23, Ar23, -, Sz23, Nn23, -, -⟩ := id (V22.ext O0.2)
  obtain ⟨T24, X24, e24, st24⟩ := getS2 X3 hx hZ hown (host := "") (Or.inl (hw _ (gw 42 rfl))) Via.refl e3 (Sta.ext O0.2 S_2) (g := (mkF m 26 #[.val (.int (13 : Int32))] [])) rfl (hb hby d1_26)
  obtain ⟨cl25, Ar25, -, Sz25, -, Hh25, -⟩ := id (V22.ext O0.2)
  have hin25 : ¬ ((13 : Int32) < 0 ∨ cl25.slots.size ≤ ((13 : Int32)).toNatClampNeg) := inb_of Sz25 ⟨by decide +kernel, by decide +kernel⟩
  have hat25 : cl25.slots[((13 : Int32)).toNatClampNeg]? = some (.ref a17) := Has.at Hh25 hin25 rfl
  obtain ⟨fs, hr, hrun, hended, hW, hsame⟩ := X24.leave (v := some (.ref a17)) (fun h => by rw [Bd.returns] at h; cases h)
  refine ⟨_, _, pre0 _ ?_, hrun, hended, _, _, rfl, ?_, ⟨_, rfl⟩, hW, hsame.mono (by decide) (by decide)⟩
  · show Steps p.tables e below (s₁.setTop (mkF m 0 #[.val (.int (13 : Int32))] [])) _
    refine XS.iloadN X0.here hx rfl (hb hby d1_0) rfl ?_
    refine XS.ifNo X0.here hx rfl (hb hby d1_1) rfl ((if0 _ _).trans (flt (by decide +kernel : ¬ ((13 : Int32) < (0 : Int32)))).1) ?_
    refine XS.iloadN X0.here hx rfl (hb hby d1_4) rfl ?_
    refine st3 _ ?_
    refine X3.arraylength hx (by rw [e3]; exact Ar23.1) (State.isArrayOf_alike hZ.alike Ar23.2.1) (g := (mkF m 8 #[.val (.int (13 : Int32))] [(.ref a1), (.int (13 : Int32))])) rfl rfl (hb hby d1_8) _ ?_
    rw [len_of Sz23 Nn23]
    refine XS.icmpYes X3.here hx rfl (pc0 := 9) (pc' := 26) rfl (hb hby d1_9) rfl (tlt (by decide +kernel : (13 : Int32) < (17 : Int32))).1 (by decide) (by decide) ?_
    refine st24 _ ?_
    refine XS.iloadN X24.here hx rfl (hb hby d1_29) rfl ?_
    refine X24.aaload hx (j := (13 : Int32)) (v := (.ref a17)) (by rw [e24]; exact Ar25.1) (State.isArrayOf_alike hZ.alike Ar25.2.1) rfl Ar25.2.2 hin25 hat25 (g := (mkF m 30 #[.val (.int (13 : Int32))] [(.int (13 : Int32)), (.ref a1)])) rfl rfl (hb hby d1_30) _ ?_
    show Steps p.tables e below (T24.setTop (mkF m 31 #[.val (.int (13 : Int32))] [(.ref a17)])) _
    jvm_step X24.here [X24.here.top, hx, (hb hby d1_31), X24.method', Bd.returns, Value.isRef, FieldType.isReference]
    first | (intro acts; rw [hr _ acts rfl rfl rfl]) | rw [hr _ _ rfl rfl rfl]
    exact Steps.refl _
  · show Q1_41 Z _ _ _ _ _ _ _ _ _ _ _ _ _ _ _ _ _ _ _ h0 n0 _ T24.heap _
    rw [e24]
    exact ⟨rfl, N0, rfl⟩
theorem ef_rm3_43 (m : MethodId) (x0 : Addr) : entryFrame m #[(.ref x0)] 1 = mkF m 0 #[.val (.ref x0)] [] := by first | (simp [entryFrame, mkF, argsToLocals, Value.category]; done) | rfl
def Q3_43 (Z : State) (a1 : Addr) (h0 : Heap) (n0 : Nat) (v : Option Value) (h : Heap) (L : List Loc) : Prop := (v = some (.int (13 : Int32)) ∧ Fr n0 L ∧ h = h0)
set_option maxRecDepth 65536 in
set_option maxHeartbeats 40000000 in
theorem rm3_43 (l : Launch) (Z : State) (a0 : Array Value) (hw : ∀ d ∈ own_ws, d.before a0 Z = true) (ws : List Jvm.Cond) (a1 : Addr) (h0 : Heap) (n0 : Nat) (O0 : Old Z n0 h0) (F2 : Fld Z Z.heap a1 C_3 "ordinal" "I" (.int (13 : Int32))) :
    MetFree l M_1 (head1 (Jvm.Cond.code M_1 jdk_37_method_2_code 1 (some .int) :: ws) ({ frames := 0, cells := 0, slots := 0, locals := 0 } : Room)) (fun a U => a = #[(.ref a1)] ∧ Z.Warmed39 U.vm ∧ U.heap = h0) (fun _ _ _ _ _ => True) (fun _ U o U' => ∃ v L, o = .returned v ∧ Q3_43 Z a1 h0 n0 v U'.heap L ∧ FrameEnd U o U' L ({ frames := 0, cells := 0, slots := 0, locals := 0 } : Room).cells ({ frames := 0, cells := 0, slots := 0, locals := 0 } : Room).slots) := by
  refine MetFree.of_bodySF (plainFor_of_name pn_1) hisR ?_
  intro p e s m args below meth c s₁ Bd hml0 hP hK
  obtain ⟨rfl, hZ, hh⟩ := hP
  have hx := Bd.exec
  have hby := Bd.bytes
  have hml : c.maxLocals = 1 := hml0
  have hown : s.vm.findClass "java/lang/Enum" = some m.cls := findClass_of_methodNamed Bd.named
  have hnm := (name_of_methodNamed Bd.named Bd.method).1
  have X0 : Stand p l e ({ frames := 0, cells := 0, slots := 0, locals := 0 } : Room) s m #[(.ref a1)] below meth c s₁ [] 0 0 := Stand.of_body Bd
  have e0 : s₁.heap = h0 := by rw [← hh, Bd.state]; rfl
  have N0 := Fr.nil n0
  have pre0 : ∀ t, Steps p.tables e below (s₁.setTop (mkF m 0 #[.val (.ref a1)] [])) t → Steps p.tables e below (s₁.setTop (entryFrame m #[(.ref a1)] 1)) t := fun t k => castTop (ef_rm3_43 m a1) k
  obtain ⟨T3, X3, e3, st3⟩ := getF X0 hx hZ hown (host := "") (Or.inl (hw _ (gw 56 rfl))) Via.refl e0 (Fld.ext O0.2 F2) (g := (mkF m 1 #[.val (.ref a1)] [(.ref a1)])) rfl rfl (hb hby d3_1)
  obtain ⟨fs, hr, hrun, hended, hW, hsame⟩ := X3.leave (v := some (.int (13 : Int32))) (fun h => by rw [Bd.returns] at h; cases h)
  refine ⟨_, _, pre0 _ ?_, hrun, hended, _, _, rfl, ?_, ⟨_, rfl⟩, hW, hsame.mono (by decide) (by decide)⟩
  · show Steps p.tables e below (s₁.setTop (mkF m 0 #[.val (.ref a1)] [])) _
    refine XS.aloadN X0.here hx rfl (hb hby d3_0) rfl rfl ?_
    refine st3 _ ?_
    show Steps p.tables e below (T3.setTop (mkF m 4 #[.val (.ref a1)] [(.int (13 : Int32))])) _
    exact retI X3 hx Bd.returns (hb hby d3_4) hr
  · show Q3_43 Z _ h0 n0 _ T3.heap _
    rw [e3]
    exact ⟨rfl, N0, rfl⟩
theorem ef_rm2_42 (m : MethodId) (x0 : Addr) : entryFrame m #[(.ref x0)] 1 = mkF m 0 #[.val (.ref x0)] [] := by first | (simp [entryFrame, mkF, argsToLocals, Value.category]; done) | rfl
def Q2_42 (Z : State) (a1 : Addr) (h0 : Heap) (n0 : Nat) (v : Option Value) (h : Heap) (L : List Loc) : Prop := (v = some (.int (13 : Int32)) ∧ Fr n0 L ∧ h = h0)
set_option maxRecDepth 65536 in
set_option maxHeartbeats 40000000 in
theorem rm2_42 (l : Launch) (Z : State) (a0 : Array Value) (hw : ∀ d ∈ own_ws, d.before a0 Z = true) (ws : List Jvm.Cond) (a1 : Addr) (h0 : Heap) (n0 : Nat) (O0 : Old Z n0 h0) (E_2 : Exa Z Z.heap a1 C_0) (F3 : Fld Z Z.heap a1 C_3 "ordinal" "I" (.int (13 : Int32))) :
    MetFree l M_3 (head1 (Jvm.Cond.code M_3 prog_70_method_4_code 1 (some .int) :: ws) ({ frames := 1, cells := 0, slots := 0, locals := 12 } : Room)) (fun a U => a = #[(.ref a1)] ∧ Z.Warmed39 U.vm ∧ U.heap = h0) (fun _ _ _ _ _ => True) (fun _ U o U' => ∃ v L, o = .returned v ∧ Q2_42 Z a1 h0 n0 v U'.heap L ∧ FrameEnd U o U' L ({ frames := 1, cells := 0, slots := 0, locals := 12 } : Room).cells ({ frames := 1, cells := 0, slots := 0, locals := 12 } : Room).slots) := by
  refine MetFree.of_bodySF (plainFor_of_name pn_0) hisR ?_
  intro p e s m args below meth c s₁ Bd hml0 hP hK
  obtain ⟨rfl, hZ, hh⟩ := hP
  have hx := Bd.exec
  have hby := Bd.bytes
  have hml : c.maxLocals = 1 := hml0
  have hown : s.vm.findClass "com/example/ringstead/ringstead/node/Wire$Call" = some m.cls := findClass_of_methodNamed Bd.named
  have hnm := (name_of_methodNamed Bd.named Bd.method).1
  have X0 : Stand p l e ({ frames := 1, cells := 0, slots := 0, locals := 12 } : Room) s m #[(.ref a1)] below meth c s₁ [] 0 0 := Stand.of_body Bd
  have e0 : s₁.heap = h0 := by rw [← hh, Bd.state]; rfl
  have N0 := Fr.nil n0
  have pre0 : ∀ t, Steps p.tables e below (s₁.setTop (mkF m 0 #[.val (.ref a1)] [])) t → Steps p.tables e below (s₁.setTop (entryFrame m #[(.ref a1)] 1)) t := fun t k => castTop (ef_rm2_42 m a1) k
  obtain ⟨cq4, kq4, q4a, q4b, q4c⟩ := isOf hZ e0 (Exa.ext O0.2 E_2)
  obtain ⟨_, _, ⟨T4, L4, k4, n4⟩, -, X4, ⟨Lc4, hQ4, l4, y4, z4⟩, st4⟩ := X0.virtualBackUp hx (owner := "java/lang/Enum") (x := M_2) (y := M_1) hown (mvT hZ (hw _ (gw 49 rfl))) (mvT hZ (hw _ (gw 50 rfl))) (mvT hZ (hw _ (gw 51 rfl))) (by decide) (mvT hZ (hw _ (gw 53 rfl))) (mvT hZ (hw _ (gw 52 rfl))) (backOf (W := 0) (rm3_43 l Z a0 hw [] a1 h0 n0  O0 F3) hZ (hw _ (gw 55 rfl)) (hw _ (gw 54 rfl)) (by decide) (by decide)) q4a q4c (g := (mkF m 1 #[.val (.ref a1)] [(.ref a1)])) rfl (by rw [hml]; rfl) (Steps.refl _) (argsL := []) (rest := []) (lenOf pd_1 rfl) rfl (by show 2 * 0 + _ ≤ _; exact Nat.le_of_eq rfl) (hb hby d2_1) (fun _ _ => ⟨rfl, e0, (by decide : 0 + 0 ≤ _), (by decide : 0 + 0 ≤ _)⟩)
  dsimp only [Pt.U, Pt.locs, Pt.cells, Pt.slots] at X4 l4 y4 z4 st4 hQ4
  subst l4 y4 z4
  obtain ⟨rfl, u6, u7⟩ := hQ4
  have N4 := Fr.app N0 u6
  obtain ⟨fs, hr, hrun, hended, hW, hsame⟩ := X4.leave (v := some (.int (13 : Int32))) (fun h => by rw [Bd.returns] at h; cases h)
  refine ⟨_, _, pre0 _ ?_, hrun, hended, _, _, rfl, ?_, ⟨_, rfl⟩, hW, hsame.mono (by decide) (by decide)⟩
  · show Steps p.tables e below (s₁.setTop (mkF m 0 #[.val (.ref a1)] [])) _
    refine XS.aloadN X0.here hx rfl (hb hby d2_0) rfl rfl ?_
    refine st4.trans ?_
    show Steps p.tables e below (T4.setTop (mkF m 4 #[.val (.ref a1)] [(.int (13 : Int32))])) _
    exact retI X4 hx Bd.returns (hb hby d2_4) hr
  · show Q2_42 Z _ h0 n0 _ T4.heap _
    rw [u7]
    exact ⟨rfl, N4, rfl⟩
theorem ef_rm1_44 (m : MethodId)  : entryFrame m #[(.int (14 : Int32))] 1 = mkF m 0 #[.val (.int (14 : Int32))] [] := by first | (simp [entryFrame, mkF, argsToLocals, Value.category]; done) | rfl
def Q1_44 (Z : State) (a1 : Addr) (a4 : Addr) (a5 : Addr) (a6 : Addr) (a7 : Addr) (a8 : Addr) (a9 : Addr) (a10 : Addr) (a11 : Addr) (a12 : Addr) (a13 : Addr) (a14 : Addr) (a15 : Addr) (a16 : Addr) (a17 : Addr) (a18 : Addr) (a19 : Addr) (a20 : Addr) (k21 : ClassId) (h0 : Heap) (n0 : Nat) (v : Option Value) (h : Heap) (L : List Loc) : Prop := (v = some (.ref a18) ∧ Fr n0 L ∧ h = h0)
set_option maxRecDepth 65536 in
set_option maxHeartbeats 40000000 in
theorem rm1_44 (l : Launch) (Z : State) (a0 : Array Value) (hw : ∀ d ∈ own_ws, d.before a0 Z = true) (ws : List Jvm.Cond) (a1 : Addr) (a4 : Addr) (a5 : Addr) (a6 : Addr) (a7 : Addr) (a8 : Addr) (a9 : Addr) (a10 : Addr) (a11 : Addr) (a12 : Addr) (a13 : Addr) (a14 : Addr) (a15 : Addr) (a16 : Addr) (a17 : Addr) (a18 : Addr) (a19 : Addr) (a20 : Addr) (k21 : ClassId) (h0 : Heap) (n0 : Nat) (O0 : Old Z n0 h0) (S_2 : Sta Z Z.heap C_0 "BY_CODE" C_2 (.ref a1)) (V22 : Arv Z Z.heap a1 k21 (.object "com/example/ringstead/ringstead/node/Wire$Call") (17 : Int32) [(.ref a4), (.ref a5), (.ref a6), (.ref a7), (.ref a8), (.ref a9), (.ref a10), (.ref a11), (.ref a12), (.ref a13), (.ref a14), (.ref a15), (.ref a16), (.ref a17), (.ref a18), (.ref a19), (.ref a20)] .null) :
    MetFree l M_0 (head1 (Jvm.Cond.code M_0 prog_70_method_5_code 1 (some (.object "com/example/ringstead/ringstead/node/Wire$Call")) :: ws) ({ frames := 0, cells := 0, slots := 0, locals := 0 } : Room)) (fun a U => a = #[(.int (14 : Int32))] ∧ Z.Warmed39 U.vm ∧ U.heap = h0) (fun _ _ _ _ _ => True) (fun _ U o U' => ∃ v L, o = .returned v ∧ Q1_44 Z a1 a4 a5 a6 a7 a8 a9 a10 a11 a12 a13 a14 a15 a16 a17 a18 a19 a20 k21 h0 n0 v U'.heap L ∧ FrameEnd U o U' L ({ frames := 0, cells := 0, slots := 0, locals := 0 } : Room).cells ({ frames := 0, cells := 0, slots := 0, locals := 0 } : Room).slots) := by
  refine MetFree.of_bodySF (plainFor_of_name pn_0) hisR ?_
  intro p e s m args below meth c s₁ Bd hml0 hP hK
  obtain ⟨rfl, hZ, hh⟩ := hP
  have hx := Bd.exec
  have hby := Bd.bytes
  have hml : c.maxLocals = 1 := hml0
  have hown : s.vm.findClass "com/example/ringstead/ringstead/node/Wire$Call" = some m.cls := findClass_of_methodNamed Bd.named
  have hnm := (name_of_methodNamed Bd.named Bd.method).1
  have X0 : Stand p l e ({ frames := 0, cells := 0, slots := 0, locals := 0 } : Room) s m #[(.int (14 : Int32))] below meth c s₁ [] 0 0 := Stand.of_body Bd
  have e0 : s₁.heap = h0 := by rw [← hh, Bd.state]; rfl
  have N0 := Fr.nil n0
  have pre0 : ∀ t, Steps p.tables e below (s₁.setTop (mkF m 0 #[.val (.int (14 : Int32))] [])) t → Steps p.tables e below (s₁.setTop (entryFrame m #[(.int (14 : Int32))] 1)) t := fun t k => castTop (ef_rm1_44 m ) k
  obtain ⟨T3, X3, e3, st3⟩ := getS2 X0 hx hZ hown (host := "") (Or.inl (hw _ (gw 42 rfl))) Via.refl e0 (Sta.ext O0.2 S_2) (g := (mkF m 5 #[.val (.int (14 : Int32))] [(.int (14 : Int32))])) rfl (hb hby d1_5)
  obtain ⟨cl23, Ar23, -, Sz23, Nn23, -, -⟩ := id (V22.ext O0.2)
  obtain ⟨T24, X24, e24, st24⟩ := getS2 X3 hx hZ hown (host := "") (Or.inl (hw _ (gw 42 rfl))) Via.refl e3 (Sta.ext O0.2 S_2) (g := (mkF m 26 #[.val (.int (14 : Int32))] [])) rfl (hb hby d1_26)
  obtain ⟨cl25, Ar25, -, Sz25, -, Hh25, -⟩ := id (V22.ext O0.2)
  have hin25 : ¬ ((14 : Int32) < 0 ∨ cl25.slots.size ≤ ((14 : Int32)).toNatClampNeg) := inb_of Sz25 ⟨by decide +kernel, by decide +kernel⟩
  have hat25 : cl25.slots[((14 : Int32)).toNatClampNeg]? = some (.ref a18) := Has.at Hh25 hin25 rfl
  obtain ⟨fs, hr, hrun, hended, hW, hsame⟩ := X24.leave (v := some (.ref a18)) (fun h => by rw [Bd.returns] at h; cases h)
  refine ⟨_, _, pre0 _ ?_, hrun, hended, _, _, rfl, ?_, ⟨_, rfl⟩, hW, hsame.mono (by decide) (by decide)⟩
  · show Steps p.tables e below (s₁.setTop (mkF m 0 #[.val (.int (14 : Int32))] [])) _
    refine XS.iloadN X0.here hx rfl (hb hby d1_0) rfl ?_
    refine XS.ifNo X0.here hx rfl (hb hby d1_1) rfl ((if0 _ _).trans (flt (by decide +kernel : ¬ ((14 : Int32) < (0 : Int32)))).1) ?_
    refine XS.iloadN X0.here hx rfl (hb hby d1_4) rfl ?_
    refine st3 _ ?_
    refine X3.arraylength hx (by rw [e3]; exact Ar23.1) (State.isArrayOf_alike hZ.alike Ar23.2.1) (g := (mkF m 8 #[.val (.int (14 : Int32))] [(.ref a1), (.int (14 : Int32))])) rfl rfl (hb hby d1_8) _ ?_
    rw [len_of Sz23 Nn23]
    refine XS.icmpYes X3.here hx rfl (pc0 := 9) (pc' := 26) rfl (hb hby d1_9) rfl (tlt (by decide +kernel : (14 : Int32) < (17 : Int32))).1 (by decide) (by decide) ?_
    refine st24 _ ?_
    refine XS.iloadN X24.here hx rfl (hb hby d1_29) rfl ?_
    refine X24.aaload hx (j := (14 : Int32)) (v := (.ref a18)) (by rw [e24]; exact Ar25.1) (State.isArrayOf_alike hZ.alike Ar25.2.1) rfl Ar25.2.2 hin25 hat25 (g := (mkF m 30 #[.val (.int (14 : Int32))] [(.int (14 : Int32)), (.ref a1)])) rfl rfl (hb hby d1_30) _ ?_
    show Steps p.tables e below (T24.setTop (mkF m 31 #[.val (.int (14 : Int32))] [(.ref a18)])) _
    jvm_step X24.here [X24.here.top, hx, (hb hby d1_31), X24.method', Bd.returns, Value.isRef, FieldType.isReference]
    first | (intro acts; rw [hr _ acts rfl rfl rfl]) | rw [hr _ _ rfl rfl rfl]
    exact Steps.refl _
  · show Q1_44 Z _ _ _ _ _ _ _ _ _ _ _ _ _ _ _ _ _ _ _ h0 n0 _ T24.heap _
    rw [e24]
    exact ⟨rfl, N0, rfl⟩
theorem ef_rm3_46 (m : MethodId) (x0 : Addr) : entryFrame m #[(.ref x0)] 1 = mkF m 0 #[.val (.ref x0)] [] := by first | (simp [entryFrame, mkF, argsToLocals, Value.category]; done) | rfl
def Q3_46 (Z : State) (a1 : Addr) (h0 : Heap) (n0 : Nat) (v : Option Value) (h : Heap) (L : List Loc) : Prop := (v = some (.int (14 : Int32)) ∧ Fr n0 L ∧ h = h0)
set_option maxRecDepth 65536 in
set_option maxHeartbeats 40000000 in
theorem rm3_46 (l : Launch) (Z : State) (a0 : Array Value) (hw : ∀ d ∈ own_ws, d.before a0 Z = true) (ws : List Jvm.Cond) (a1 : Addr) (h0 : Heap) (n0 : Nat) (O0 : Old Z n0 h0) (F2 : Fld Z Z.heap a1 C_3 "ordinal" "I" (.int (14 : Int32))) :
    MetFree l M_1 (head1 (Jvm.Cond.code M_1 jdk_37_method_2_code 1 (some .int) :: ws) ({ frames := 0, cells := 0, slots := 0, locals := 0 } : Room)) (fun a U => a = #[(.ref a1)] ∧ Z.Warmed39 U.vm ∧ U.heap = h0) (fun _ _ _ _ _ => True) (fun _ U o U' => ∃ v L, o = .returned v ∧ Q3_46 Z a1 h0 n0 v U'.heap L ∧ FrameEnd U o U' L ({ frames := 0, cells := 0, slots := 0, locals := 0 } : Room).cells ({ frames := 0, cells := 0, slots := 0, locals := 0 } : Room).slots) := by
  refine MetFree.of_bodySF (plainFor_of_name pn_1) hisR ?_
  intro p e s m args below meth c s₁ Bd hml0 hP hK
  obtain ⟨rfl, hZ, hh⟩ := hP
  have hx := Bd.exec
  have hby := Bd.bytes
  have hml : c.maxLocals = 1 := hml0
  have hown : s.vm.findClass "java/lang/Enum" = some m.cls := findClass_of_methodNamed Bd.named
  have hnm := (name_of_methodNamed Bd.named Bd.method).1
  have X0 : Stand p l e ({ frames := 0, cells := 0, slots := 0, locals := 0 } : Room) s m #[(.ref a1)] below meth c s₁ [] 0 0 := Stand.of_body Bd
  have e0 : s₁.heap = h0 := by rw [← hh, Bd.state]; rfl
  have N0 := Fr.nil n0
  have pre0 : ∀ t, Steps p.tables e below (s₁.setTop (mkF m 0 #[.val (.ref a1)] [])) t → Steps p.tables e below (s₁.setTop (entryFrame m #[(.ref a1)] 1)) t := fun t k => castTop (ef_rm3_46 m a1) k
  obtain ⟨T3, X3, e3, st3⟩ := getF X0 hx hZ hown (host := "") (Or.inl (hw _ (gw 56 rfl))) Via.refl e0 (Fld.ext O0.2 F2) (g := (mkF m 1 #[.val (.ref a1)] [(.ref a1)])) rfl rfl (hb hby d3_1)
  obtain ⟨fs, hr, hrun, hended, hW, hsame⟩ := X3.leave (v := some (.int (14 : Int32))) (fun h => by rw [Bd.returns] at h; cases h)
  refine ⟨_, _, pre0 _ ?_, hrun, hended, _, _, rfl, ?_, ⟨_, rfl⟩, hW, hsame.mono (by decide) (by decide)⟩
  · show Steps p.tables e below (s₁.setTop (mkF m 0 #[.val (.ref a1)] [])) _
    refine XS.aloadN X0.here hx rfl (hb hby d3_0) rfl rfl ?_
    refine st3 _ ?_
    show Steps p.tables e below (T3.setTop (mkF m 4 #[.val (.ref a1)] [(.int (14 : Int32))])) _
    exact retI X3 hx Bd.returns (hb hby d3_4) hr
  · show Q3_46 Z _ h0 n0 _ T3.heap _
    rw [e3]
    exact ⟨rfl, N0, rfl⟩
theorem ef_rm2_45 (m : MethodId) (x0 : Addr) : entryFrame m #[(.ref x0)] 1 = mkF m 0 #[.val (.ref x0)] [] := by first | (simp [entryFrame, mkF, argsToLocals, Value.category]; done) | rfl
def Q2_45 (Z : State) (a1 : Addr) (h0 : Heap) (n0 : Nat) (v : Option Value) (h : Heap) (L : List Loc) : Prop := (v = some (.int (14 : Int32)) ∧ Fr n0 L ∧ h = h0)
set_option maxRecDepth 65536 in
set_option maxHeartbeats 40000000 in
theorem rm2_45 (l : Launch) (Z : State) (a0 : Array Value) (hw : ∀ d ∈ own_ws, d.before a0 Z = true) (ws : List Jvm.Cond) (a1 : Addr) (h0 : Heap) (n0 : Nat) (O0 : Old Z n0 h0) (E_2 : Exa Z Z.heap a1 C_0) (F3 : Fld Z Z.heap a1 C_3 "ordinal" "I" (.int (14 : Int32))) :
    MetFree l M_3 (head1 (Jvm.Cond.code M_3 prog_70_method_4_code 1 (some .int) :: ws) ({ frames := 1, cells := 0, slots := 0, locals := 12 } : Room)) (fun a U => a = #[(.ref a1)] ∧ Z.Warmed39 U.vm ∧ U.heap = h0) (fun _ _ _ _ _ => True) (fun _ U o U' => ∃ v L, o = .returned v ∧ Q2_45 Z a1 h0 n0 v U'.heap L ∧ FrameEnd U o U' L ({ frames := 1, cells := 0, slots := 0, locals := 12 } : Room).cells ({ frames := 1, cells := 0, slots := 0, locals := 12 } : Room).slots) := by
  refine MetFree.of_bodySF (plainFor_of_name pn_0) hisR ?_
  intro p e s m args below meth c s₁ Bd hml0 hP hK
  obtain ⟨rfl, hZ, hh⟩ := hP
  have hx := Bd.exec
  have hby := Bd.bytes
  have hml : c.maxLocals = 1 := hml0
  have hown : s.vm.findClass "com/example/ringstead/ringstead/node/Wire$Call" = some m.cls := findClass_of_methodNamed Bd.named
  have hnm := (name_of_methodNamed Bd.named Bd.method).1
  have X0 : Stand p l e ({ frames := 1, cells := 0, slots := 0, locals := 12 } : Room) s m #[(.ref a1)] below meth c s₁ [] 0 0 := Stand.of_body Bd
  have e0 : s₁.heap = h0 := by rw [← hh, Bd.state]; rfl
  have N0 := Fr.nil n0
  have pre0 : ∀ t, Steps p.tables e below (s₁.setTop (mkF m 0 #[.val (.ref a1)] [])) t → Steps p.tables e below (s₁.setTop (entryFrame m #[(.ref a1)] 1)) t := fun t k => castTop (ef_rm2_45 m a1) k
  obtain ⟨cq4, kq4, q4a, q4b, q4c⟩ := isOf hZ e0 (Exa.ext O0.2 E_2)
  obtain ⟨_, _, ⟨T4, L4, k4, n4⟩, -, X4, ⟨Lc4, hQ4, l4, y4, z4⟩, st4⟩ := X0.virtualBackUp hx (owner := "java/lang/Enum") (x := M_2) (y := M_1) hown (mvT hZ (hw _ (gw 49 rfl))) (mvT hZ (hw _ (gw 50 rfl))) (mvT hZ (hw _ (gw 51 rfl))) (by decide) (mvT hZ (hw _ (gw 53 rfl))) (mvT hZ (hw _ (gw 52 rfl))) (backOf (W := 0) (rm3_46 l Z a0 hw [] a1 h0 n0  O0 F3) hZ (hw _ (gw 55 rfl)) (hw _ (gw 54 rfl)) (by decide) (by decide)) q4a q4c (g := (mkF m 1 #[.val (.ref a1)] [(.ref a1)])) rfl (by rw [hml]; rfl) (Steps.refl _) (argsL := []) (rest := []) (lenOf pd_1 rfl) rfl (by show 2 * 0 + _ ≤ _; exact Nat.le_of_eq rfl) (hb hby d2_1) (fun _ _ => ⟨rfl, e0, (by decide : 0 + 0 ≤ _), (by decide : 0 + 0 ≤ _)⟩)
  dsimp only [Pt.U, Pt.locs, Pt.cells, Pt.slots] at X4 l4 y4 z4 st4 hQ4
  subst l4 y4 z4
  obtain ⟨rfl, u6, u7⟩ := hQ4
  have N4 := Fr.app N0 u6
  obtain ⟨fs, hr, hrun, hended, hW, hsame⟩ := X4.leave (v := some (.int (14 : Int32))) (fun h => by rw [Bd.returns] at h; cases h)
  refine ⟨_, _, pre0 _ ?_, hrun, hended, _, _, rfl, ?_, ⟨_, rfl⟩, hW, hsame.mono (by decide) (by decide)⟩
  · show Steps p.tables e below (s₁.setTop (mkF m 0 #[.val (.ref a1)] [])) _
    refine XS.aloadN X0.here hx rfl (hb hby d2_0) rfl rfl ?_
    refine st4.trans ?_
    show Steps p.tables e below (T4.setTop (mkF m 4 #[.val (.ref a1)] [(.int (14 : Int32))])) _
    exact retI X4 hx Bd.returns (hb hby d2_4) hr
  · show Q2_45 Z _ h0 n0 _ T4.heap _
    rw [u7]
    exact ⟨rfl, N4, rfl⟩
theorem ef_rm1_47 (m : MethodId)  : entryFrame m #[(.int (15 : Int32))] 1 = mkF m 0 #[.val (.int (15 : Int32))] [] := by first | (simp [entryFrame, mkF, argsToLocals, Value.category]; done) | rfl
def Q1_47 (Z : State) (a1 : Addr) (a4 : Addr) (a5 : Addr) (a6 : Addr) (a7 : Addr) (a8 : Addr) (a9 : Addr) (a10 : Addr) (a11 : Addr) (a12 : Addr) (a13 : Addr) (a14 : Addr) (a15 : Addr) (a16 : Addr) (a17 : Addr) (a18 : Addr) (a19 : Addr) (a20 : Addr) (k21 : ClassId) (h0 : Heap) (n0 : Nat) (v : Option Value) (h : Heap) (L : List Loc) : Prop := (v = some (.ref a19) ∧ Fr n0 L ∧ h = h0)
set_option maxRecDepth 65536 in
set_option maxHeartbeats 40000000 in
theorem rm1_47 (l : Launch) (Z : State) (a0 : Array Value) (hw : ∀ d ∈ own_ws, d.before a0 Z = true) (ws : List Jvm.Cond) (a1 : Addr) (a4 : Addr) (a5 : Addr) (a6 : Addr) (a7 : Addr) (a8 : Addr) (a9 : Addr) (a10 : Addr) (a11 : Addr) (a12 : Addr) (a13 : Addr) (a14 : Addr) (a15 : Addr) (a16 : Addr) (a17 : Addr) (a18 : Addr) (a19 : Addr) (a20 : Addr) (k21 : ClassId) (h0 : Heap) (n0 : Nat) (O0 : Old Z n0 h0) (S_2 : Sta Z Z.heap C_0 "BY_CODE" C_2 (.ref a1)) (V22 : Arv Z Z.heap a1 k21 (.object "com/example/ringstead/ringstead/node/Wire$Call") (17 : Int32) [(.ref a4), (.ref a5), (.ref a6), (.ref a7), (.ref a8), (.ref a9), (.ref a10), (.ref a11), (.ref a12), (.ref a13), (.ref a14), (.ref a15), (.ref a16), (.ref a17), (.ref a18), (.ref a19), (.ref a20)] .null) :
    MetFree l M_0 (head1 (Jvm.Cond.code M_0 prog_70_method_5_code 1 (some (.object "com/example/ringstead/ringstead/node/Wire$Call")) :: ws) ({ frames := 0, cells := 0, slots := 0, locals := 0 } : Room)) (fun a U => a = #[(.int (15 : Int32))] ∧ Z.Warmed39 U.vm ∧ U.heap = h0) (fun _ _ _ _ _ => True) (fun _ U o U' => ∃ v L, o = .returned v ∧ Q1_47 Z a1 a4 a5 a6 a7 a8 a9 a10 a11 a12 a13 a14 a15 a16 a17 a18 a19 a20 k21 h0 n0 v U'.heap L ∧ FrameEnd U o U' L ({ frames := 0, cells := 0, slots := 0, locals := 0 } : Room).cells ({ frames := 0, cells := 0, slots := 0, locals := 0 } : Room).slots) := by
  refine MetFree.of_bodySF (plainFor_of_name pn_0) hisR ?_
  intro p e s m args below meth c s₁ Bd hml0 hP hK
  obtain ⟨rfl, hZ, hh⟩ := hP
  have hx := Bd.exec
  have hby := Bd.bytes
  have hml : c.maxLocals = 1 := hml0
  have hown : s.vm.findClass "com/example/ringstead/ringstead/node/Wire$Call" = some m.cls := findClass_of_methodNamed Bd.named
  have hnm := (name_of_methodNamed Bd.named Bd.method).1
  have X0 : Stand p l e ({ frames := 0, cells := 0, slots := 0, locals := 0 } : Room) s m #[(.int (15 : Int32))] below meth c s₁ [] 0 0 := Stand.of_body Bd
  have e0 : s₁.heap = h0 := by rw [← hh, Bd.state]; rfl
  have N0 := Fr.nil n0
  have pre0 : ∀ t, Steps p.tables e below (s₁.setTop (mkF m 0 #[.val (.int (15 : Int32))] [])) t → Steps p.tables e below (s₁.setTop (entryFrame m #[(.int (15 : Int32))] 1)) t := fun t k => castTop (ef_rm1_47 m ) k
  obtain ⟨T3, X3, e3, st3⟩ := getS2 X0 hx hZ hown (host := "") (Or.inl (hw _ (gw 42 rfl))) Via.refl e0 (Sta.ext O0.2 S_2) (g := (mkF m 5 #[.val (.int (15 : Int32))] [(.int (15 : Int32))])) rfl (hb hby d1_5)
  obtain ⟨cl23, Ar23, -, Sz23, Nn23, -, -⟩ := id (V22.ext O0.2)
  obtain ⟨T24, X24, e24, st24⟩ := getS2 X3 hx hZ hown (host := "") (Or.inl (hw _ (gw 42 rfl))) Via.refl e3 (Sta.ext O0.2 S_2) (g := (mkF m 26 #[.val (.int (15 : Int32))] [])) rfl (hb hby d1_26)
  obtain ⟨cl25, Ar25, -, Sz25, -, Hh25, -⟩ := id (V22.ext O0.2)
  have hin25 : ¬ ((15 : Int32) < 0 ∨ cl25.slots.size ≤ ((15 : Int32)).toNatClampNeg) := inb_of Sz25 ⟨by decide +kernel, by decide +kernel⟩
  have hat25 : cl25.slots[((15 : Int32)).toNatClampNeg]? = some (.ref a19) := Has.at Hh25 hin25 rfl
  obtain ⟨fs, hr, hrun, hended, hW, hsame⟩ := X24.leave (v := some (.ref a19)) (fun h => by rw [Bd.returns] at h; cases h)
  refine ⟨_, _, pre0 _ ?_, hrun, hended, _, _, rfl, ?_, ⟨_, rfl⟩, hW, hsame.mono (by decide) (by decide)⟩
  · show Steps p.tables e below (s₁.setTop (mkF m 0 #[.val (.int (15 : Int32))] [])) _
    refine XS.iloadN X0.here hx rfl (hb hby d1_0) rfl ?_
    refine XS.ifNo X0.here hx rfl (hb hby d1_1) rfl ((if0 _ _).trans (flt (by decide +kernel : ¬ ((15 : Int32) < (0 : Int32)))).1) ?_
    refine XS.iloadN X0.here hx rfl (hb hby d1_4) rfl ?_
    refine st3 _ ?_
    refine X3.arraylength hx (by rw [e3]; exact Ar23.1) (State.isArrayOf_alike hZ.alike Ar23.2.1) (g := (mkF m 8 #[.val (.int (15 : Int32))] [(.ref a1), (.int (15 : Int32))])) rfl rfl (hb hby d1_8) _ ?_
    rw [len_of Sz23 Nn23]
    refine XS.icmpYes X3.here hx rfl (pc0 := 9) (pc' := 26) rfl (hb hby d1_9) rfl (tlt (by decide +kernel : (15 : Int32) < (17 : Int32))).1 (by decide) (by decide) ?_
    refine st24 _ ?_
    refine XS.iloadN X24.here hx rfl (hb hby d1_29) rfl ?_
    refine X24.aaload hx (j := (15 : Int32)) (v := (.ref a19)) (by rw [e24]; exact Ar25.1) (State.isArrayOf_alike hZ.alike Ar25.2.1) rfl Ar25.2.2 hin25 hat25 (g := (mkF m 30 #[.val (.int (15 : Int32))] [(.int (15 : Int32)), (.ref a1)])) rfl rfl (hb hby d1_30) _ ?_
    show Steps p.tables e below (T24.setTop (mkF m 31 #[.val (.int (15 : Int32))] [(.ref a19)])) _
    jvm_step X24.here [X24.here.top, hx, (hb hby d1_31), X24.method', Bd.returns, Value.isRef, FieldType.isReference]
    first | (intro acts; rw [hr _ acts rfl rfl rfl]) | rw [hr _ _ rfl rfl rfl]
    exact Steps.refl _
  · show Q1_47 Z _ _ _ _ _ _ _ _ _ _ _ _ _ _ _ _ _ _ _ h0 n0 _ T24.heap _
    rw [e24]
    exact ⟨rfl, N0, rfl⟩
theorem ef_rm3_49 (m : MethodId) (x0 : Addr) : entryFrame m #[(.ref x0)] 1 = mkF m 0 #[.val (.ref x0)] [] := by first | (simp [entryFrame, mkF, argsToLocals, Value.category]; done) | rfl
def Q3_49 (Z : State) (a1 : Addr) (h0 : Heap) (n0 : Nat) (v : Option Value) (h : Heap) (L : List Loc) : Prop := (v = some (.int (15 : Int32)) ∧ Fr n0 L ∧ h = h0)
set_option maxRecDepth 65536 in
set_option maxHeartbeats 40000000 in
theorem rm3_49 (l : Launch) (Z : State) (a0 : Array Value) (hw : ∀ d ∈ own_ws, d.before a0 Z = true) (ws : List Jvm.Cond) (a1 : Addr) (h0 : Heap) (n0 : Nat) (O0 : Old Z n0 h0) (F2 : Fld Z Z.heap a1 C_3 "ordinal" "I" (.int (15 : Int32))) :
    MetFree l M_1 (head1 (Jvm.Cond.code M_1 jdk_37_method_2_code 1 (some .int) :: ws) ({ frames := 0, cells := 0, slots := 0, locals := 0 } : Room)) (fun a U => a = #[(.ref a1)] ∧ Z.Warmed39 U.vm ∧ U.heap = h0) (fun _ _ _ _ _ => True) (fun _ U o U' => ∃ v L, o = .returned v ∧ Q3_49 Z a1 h0 n0 v U'.heap L ∧ FrameEnd U o U' L ({ frames := 0, cells := 0, slots := 0, locals := 0 } : Room).cells ({ frames := 0, cells := 0, slots := 0, locals := 0 } : Room).slots) := by
  refine MetFree.of_bodySF (plainFor_of_name pn_1) hisR ?_
  intro p e s m args below meth c s₁ Bd hml0 hP hK
  obtain ⟨rfl, hZ, hh⟩ := hP
  have hx := Bd.exec
  have hby := Bd.bytes
  have hml : c.maxLocals = 1 := hml0
  have hown : s.vm.findClass "java/lang/Enum" = some m.cls := findClass_of_methodNamed Bd.named
  have hnm := (name_of_methodNamed Bd.named Bd.method).1
  have X0 : Stand p l e ({ frames := 0, cells := 0, slots := 0, locals := 0 } : Room) s m #[(.ref a1)] below meth c s₁ [] 0 0 := Stand.of_body Bd
  have e0 : s₁.heap = h0 := by rw [← hh, Bd.state]; rfl
  have N0 := Fr.nil n0
  have pre0 : ∀ t, Steps p.tables e below (s₁.setTop (mkF m 0 #[.val (.ref a1)] [])) t → Steps p.tables e below (s₁.setTop (entryFrame m #[(.ref a1)] 1)) t := fun t k => castTop (ef_rm3_49 m a1) k
  obtain ⟨T3, X3, e3, st3⟩ := getF X0 hx hZ hown (host := "") (Or.inl (hw _ (gw 56 rfl))) Via.refl e0 (Fld.ext O0.2 F2) (g := (mkF m 1 #[.val (.ref a1)] [(.ref a1)])) rfl rfl (hb hby d3_1)
  obtain ⟨fs, hr, hrun, hended, hW, hsame⟩ := X3.leave (v := some (.int (15 : Int32))) (fun h => by rw [Bd.returns] at h; cases h)
  refine ⟨_, _, pre0 _ ?_, hrun, hended, _, _, rfl, ?_, ⟨_, rfl⟩, hW, hsame.mono (by decide) (by decide)⟩
  · show Steps p.tables e below (s₁.setTop (mkF m 0 #[.val (.ref a1)] [])) _
    refine XS.aloadN X0.here hx rfl (hb hby d3_0) rfl rfl ?_
    refine st3 _ ?_
    show Steps p.tables e below (T3.setTop (mkF m 4 #[.val (.ref a1)] [(.int (15 : Int32))])) _
    exact retI X3 hx Bd.returns (hb hby d3_4) hr
  · show Q3_49 Z _ h0 n0 _ T3.heap _
    rw [e3]
    exact ⟨rfl, N0, rfl⟩
theorem ef_rm2_48 (m : MethodId) (x0 : Addr) : entryFrame m #[(.ref x0)] 1 = mkF m 0 #[.val (.ref x0)] [] := by first | (simp [entryFrame, mkF, argsToLocals, Value.category]; done) | rfl
def Q2_48 (Z : State) (a1 : Addr) (h0 : Heap) (n0 : Nat) (v : Option Value) (h : Heap) (L : List Loc) : Prop := (v = some (.int (15 : Int32)) ∧ Fr n0 L ∧ h = h0)
set_option maxRecDepth 65536 in
set_option maxHeartbeats 40000000 in
theorem rm2_48 (l : Launch) (Z : State) (a0 : Array Value) (hw : ∀ d ∈ own_ws, d.before a0 Z = true) (ws : List Jvm.Cond) (a1 : Addr) (h0 : Heap) (n0 : Nat) (O0 : Old Z n0 h0) (E_2 : Exa Z Z.heap a1 C_0) (F3 : Fld Z Z.heap a1 C_3 "ordinal" "I" (.int (15 : Int32))) :
    MetFree l M_3 (head1 (Jvm.Cond.code M_3 prog_70_method_4_code 1 (some .int) :: ws) ({ frames := 1, cells := 0, slots := 0, locals := 12 } : Room)) (fun a U => a = #[(.ref a1)] ∧ Z.Warmed39 U.vm ∧ U.heap = h0) (fun _ _ _ _ _ => True) (fun _ U o U' => ∃ v L, o = .returned v ∧ Q2_48 Z a1 h0 n0 v U'.heap L ∧ FrameEnd U o U' L ({ frames := 1, cells := 0, slots := 0, locals := 12 } : Room).cells ({ frames := 1, cells := 0, slots := 0, locals := 12 } : Room).slots) := by
  refine MetFree.of_bodySF (plainFor_of_name pn_0) hisR ?_
  intro p e s m args below meth c s₁ Bd hml0 hP hK
  obtain ⟨rfl, hZ, hh⟩ := hP
  have hx := Bd.exec
  have hby := Bd.bytes
  have hml : c.maxLocals = 1 := hml0
  have hown : s.vm.findClass "com/example/ringstead/ringstead/node/Wire$Call" = some m.cls := findClass_of_methodNamed Bd.named
  have hnm := (name_of_methodNamed Bd.named Bd.method).1
  have X0 : Stand p l e ({ frames := 1, cells := 0, slots := 0, locals := 12 } : Room) s m #[(.ref a1)] below meth c s₁ [] 0 0 := Stand.of_body Bd
  have e0 : s₁.heap = h0 := by rw [← hh, Bd.state]; rfl
  have N0 := Fr.nil n0
  have pre0 : ∀ t, Steps p.tables e below (s₁.setTop (mkF m 0 #[.val (.ref a1)] [])) t → Steps p.tables e below (s₁.setTop (entryFrame m #[(.ref a1)] 1)) t := fun t k => castTop (ef_rm2_48 m a1) k
  obtain ⟨cq4, kq4, q4a, q4b, q4c⟩ := isOf hZ e0 (Exa.ext O0.2 E_2)
  obtain ⟨_, _, ⟨T4, L4, k4, n4⟩, -, X4, ⟨Lc4, hQ4, l4, y4, z4⟩, st4⟩ := X0.virtualBackUp hx (owner := "java/lang/Enum") (x := M_2) (y := M_1) hown (mvT hZ (hw _ (gw 49 rfl))) (mvT hZ (hw _ (gw 50 rfl))) (mvT hZ (hw _ (gw 51 rfl))) (by decide) (mvT hZ (hw _ (gw 53 rfl))) (mvT hZ (hw _ (gw 52 rfl))) (backOf (W := 0) (rm3_49 l Z a0 hw [] a1 h0 n0  O0 F3) hZ (hw _ (gw 55 rfl)) (hw _ (gw 54 rfl)) (by decide) (by decide)) q4a q4c (g := (mkF m 1 #[.val (.ref a1)] [(.ref a1)])) rfl (by rw [hml]; rfl) (Steps.refl _) (argsL := []) (rest := []) (lenOf pd_1 rfl) rfl (by show 2 * 0 + _ ≤ _; exact Nat.le_of_eq rfl) (hb hby d2_1) (fun _ _ => ⟨rfl, e0, (by decide : 0 + 0 ≤ _), (by decide : 0 + 0 ≤ _)⟩)
  dsimp only [Pt.U, Pt.locs, Pt.cells, Pt.slots] at X4 l4 y4 z4 st4 hQ4
  subst l4 y4 z4
  obtain ⟨rfl, u6, u7⟩ := hQ4
  have N4 := Fr.app N0 u6
  obtain ⟨fs, hr, hrun, hended, hW, hsame⟩ := X4.leave (v := some (.int (15 : Int32))) (fun h => by rw [Bd.returns] at h; cases h)
  refine ⟨_, _, pre0 _ ?_, hrun, hended, _, _, rfl, ?_, ⟨_, rfl⟩, hW, hsame.mono (by decide) (by decide)⟩
  · show Steps p.tables e below (s₁.setTop (mkF m 0 #[.val (.ref a1)] [])) _
    refine XS.aloadN X0.here hx rfl (hb hby d2_0) rfl rfl ?_
    refine st4.trans ?_
    show Steps p.tables e below (T4.setTop (mkF m 4 #[.val (.ref a1)] [(.int (15 : Int32))])) _
    exact retI X4 hx Bd.returns (hb hby d2_4) hr
  · show Q2_48 Z _ h0 n0 _ T4.heap _
    rw [u7]
    exact ⟨rfl, N4, rfl⟩
theorem ef_rm1_50 (m : MethodId)  : entryFrame m #[(.int (16 : Int32))] 1 = mkF m 0 #[.val (.int (16 : Int32))] [] := by first | (simp [entryFrame, mkF, argsToLocals, Value.category]; done) | rfl
def Q1_50 (Z : State) (a1 : Addr) (a4 : Addr) (a5 : Addr) (a6 : Addr) (a7 : Addr) (a8 : Addr) (a9 : Addr) (a10 : Addr) (a11 : Addr) (a12 : Addr) (a13 : Addr) (a14 : Addr) (a15 : Addr) (a16 : Addr) (a17 : Addr) (a18 : Addr) (a19 : Addr) (a20 : Addr) (k21 : ClassId) (h0 : Heap) (n0 : Nat) (v : Option Value) (h : Heap) (L : List Loc) : Prop := (v = some (.ref a20) ∧ Fr n0 L ∧ h = h0)
set_option maxRecDepth 65536 in
set_option maxHeartbeats 40000000 in
theorem rm1_50 (l : Launch) (Z : State) (a0 : Array Value) (hw : ∀ d ∈ own_ws, d.before a0 Z = true) (ws : List Jvm.Cond) (a1 : Addr) (a4 : Addr) (a5 : Addr) (a6 : Addr) (a7 : Addr) (a8 : Addr) (a9 : Addr) (a10 : Addr) (a11 : Addr) (a12 : Addr) (a13 : Addr) (a14 : Addr) (a15 : Addr) (a16 : Addr) (a17 : Addr) (a18 : Addr) (a19 : Addr) (a20 : Addr) (k21 : ClassId) (h0 : Heap) (n0 : Nat) (O0 : Old Z n0 h0) (S_2 : Sta Z Z.heap C_0 "BY_CODE" C_2 (.ref a1)) (V22 : Arv Z Z.heap a1 k21 (.object "com/example/ringstead/ringstead/node/Wire$Call") (17 : Int32) [(.ref a4), (.ref a5), (.ref a6), (.ref a7), (.ref a8), (.ref a9), (.ref a10), (.ref a11), (.ref a12), (.ref a13), (.ref a14), (.ref a15), (.ref a16), (.ref a17), (.ref a18), (.ref a19), (.ref a20)] .null) :
    MetFree l M_0 (head1 (Jvm.Cond.code M_0 prog_70_method_5_code 1 (some (.object "com/example/ringstead/ringstead/node/Wire$Call")) :: ws) ({ frames := 0, cells := 0, slots := 0, locals := 0 } : Room)) (fun a U => a = #[(.int (16 : Int32))] ∧ Z.Warmed39 U.vm ∧ U.heap = h0) (fun _ _ _ _ _ => True) (fun _ U o U' => ∃ v L, o = .returned v ∧ Q1_50 Z a1 a4 a5 a6 a7 a8 a9 a10 a11 a12 a13 a14 a15 a16 a17 a18 a19 a20 k21 h0 n0 v U'.heap L ∧ FrameEnd U o U' L ({ frames := 0, cells := 0, slots := 0, locals := 0 } : Room).cells ({ frames := 0, cells := 0, slots := 0, locals := 0 } : Room).slots) := by
  refine MetFree.of_bodySF (plainFor_of_name pn_0) hisR ?_
  intro p e s m args below meth c s₁ Bd hml0 hP hK
  obtain ⟨rfl, hZ, hh⟩ := hP
  have hx := Bd.exec
  have hby := Bd.bytes
  have hml : c.maxLocals = 1 := hml0
  have hown : s.vm.findClass "com/example/ringstead/ringstead/node/Wire$Call" = some m.cls := findClass_of_methodNamed Bd.named
  have hnm := (name_of_methodNamed Bd.named Bd.method).1
  have X0 : Stand p l e ({ frames := 0, cells := 0, slots := 0, locals := 0 } : Room) s m #[(.int (16 : Int32))] below meth c s₁ [] 0 0 := Stand.of_body Bd
  have e0 : s₁.heap = h0 := by rw [← hh, Bd.state]; rfl
  have N0 := Fr.nil n0
  have pre0 : ∀ t, Steps p.tables e below (s₁.setTop (mkF m 0 #[.val (.int (16 : Int32))] [])) t → Steps p.tables e below (s₁.setTop (entryFrame m #[(.int (16 : Int32))] 1)) t := fun t k => castTop (ef_rm1_50 m ) k
  obtain ⟨T3, X3, e3, st3⟩ := getS2 X0 hx hZ hown (host := "") (Or.inl (hw _ (gw 42 rfl))) Via.refl e0 (Sta.ext O0.2 S_2) (g := (mkF m 5 #[.val (.int (16 : Int32))] [(.int (16 : Int32))])) rfl (hb hby d1_5)
  obtain ⟨cl23, Ar23, -, Sz23, Nn23, -, -⟩ := id (V22.ext O0.2)
  obtain ⟨T24, X24, e24, st24⟩ := getS2 X3 hx hZ hown (host := "") (Or.inl (hw _ (gw 42 rfl))) Via.refl e3 (Sta.ext O0.2 S_2) (g := (mkF m 26 #[.val (.int (16 : Int32))] [])) rfl (hb hby d1_26)
  obtain ⟨cl25, Ar25, -, Sz25, -, Hh25, -⟩ := id (V22.ext O0.2)
  have hin25 : ¬ ((16 : Int32) < 0 ∨ cl25.slots.size ≤ ((16 : Int32)).toNatClampNeg) := inb_of Sz25 ⟨by decide +kernel, by decide +kernel⟩
  have hat25 : cl25.slots[((16 : Int32)).toNatClampNeg]? = some (.ref a20) := Has.at Hh25 hin25 rfl
  obtain ⟨fs, hr, hrun, hended, hW, hsame⟩ := X24.leave (v := some (.ref a20)) (fun h => by rw [Bd.returns] at h; cases h)
  refine ⟨_, _, pre0 _ ?_, hrun, hended, _, _, rfl, ?_, ⟨_, rfl⟩, hW, hsame.mono (by decide) (by decide)⟩
  · show Steps p.tables e below (s₁.setTop (mkF m 0 #[.val (.int (16 : Int32))] [])) _
    refine XS.iloadN X0.here hx rfl (hb hby d1_0) rfl ?_
    refine XS.ifNo X0.here hx rfl (hb hby d1_1) rfl ((if0 _ _).trans (flt (by decide +kernel : ¬ ((16 : Int32) < (0 : Int32)))).1) ?_
    refine XS.iloadN X0.here hx rfl (hb hby d1_4) rfl ?_
    refine st3 _ ?_
    refine X3.arraylength hx (by rw [e3]; exact Ar23.1) (State.isArrayOf_alike hZ.alike Ar23.2.1) (g := (mkF m 8 #[.val (.int (16 : Int32))] [(.ref a1), (.int (16 : Int32))])) rfl rfl (hb hby d1_8) _ ?_
    rw [len_of Sz23 Nn23]
    refine XS.icmpYes X3.here hx rfl (pc0 := 9) (pc' := 26) rfl (hb hby d1_9) rfl (tlt (by decide +kernel : (16 : Int32) < (17 : Int32))).1 (by decide) (by decide) ?_
    refine st24 _ ?_
    refine XS.iloadN X24.here hx rfl (hb hby d1_29) rfl ?_
    refine X24.aaload hx (j := (16 : Int32)) (v := (.ref a20)) (by rw [e24]; exact Ar25.1) (State.isArrayOf_alike hZ.alike Ar25.2.1) rfl Ar25.2.2 hin25 hat25 (g := (mkF m 30 #[.val (.int (16 : Int32))] [(.int (16 : Int32)), (.ref a1)])) rfl rfl (hb hby d1_30) _ ?_
    show Steps p.tables e below (T24.setTop (mkF m 31 #[.val (.int (16 : Int32))] [(.ref a20)])) _
    jvm_step X24.here [X24.here.top, hx, (hb hby d1_31), X24.method', Bd.returns, Value.isRef, FieldType.isReference]
    first | (intro acts; rw [hr _ acts rfl rfl rfl]) | rw [hr _ _ rfl rfl rfl]
    exact Steps.refl _
  · show Q1_50 Z _ _ _ _ _ _ _ _ _ _ _ _ _ _ _ _ _ _ _ h0 n0 _ T24.heap _
    rw [e24]
    exact ⟨rfl, N0, rfl⟩
theorem ef_rm3_52 (m : MethodId) (x0 : Addr) : entryFrame m #[(.ref x0)] 1 = mkF m 0 #[.val (.ref x0)] [] := by first | (simp [entryFrame, mkF, argsToLocals, Value.category]; done) | rfl
def Q3_52 (Z : State) (a1 : Addr) (h0 : Heap) (n0 : Nat) (v : Option Value) (h : Heap) (L : List Loc) : Prop := (v = some (.int (16 : Int32)) ∧ Fr n0 L ∧ h = h0)
set_option maxRecDepth 65536 in
set_option maxHeartbeats 40000000 in
theorem rm3_52 (l : Launch) (Z : State) (a0 : Array Value) (hw : ∀ d ∈ own_ws, d.before a0 Z = true) (ws : List Jvm.Cond) (a1 : Addr) (h0 : Heap) (n0 : Nat) (O0 : Old Z n0 h0) (F2 : Fld Z Z.heap a1 C_3 "ordinal" "I" (.int (16 : Int32))) :
    MetFree l M_1 (head1 (Jvm.Cond.code M_1 jdk_37_method_2_code 1 (some .int) :: ws) ({ frames := 0, cells := 0, slots := 0, locals := 0 } : Room)) (fun a U => a = #[(.ref a1)] ∧ Z.Warmed39 U.vm ∧ U.heap = h0) (fun _ _ _ _ _ => True) (fun _ U o U' => ∃ v L, o = .returned v ∧ Q3_52 Z a1 h0 n0 v U'.heap L ∧ FrameEnd U o U' L ({ frames := 0, cells := 0, slots := 0, locals := 0 } : Room).cells ({ frames := 0, cells := 0, slots := 0, locals := 0 } : Room).slots) := by
  refine MetFree.of_bodySF (plainFor_of_name pn_1) hisR ?_
  intro p e s m args below meth c s₁ Bd hml0 hP hK
  obtain ⟨rfl, hZ, hh⟩ := hP
  have hx := Bd.exec
  have hby := Bd.bytes
  have hml : c.maxLocals = 1 := hml0
  have hown : s.vm.findClass "java/lang/Enum" = some m.cls := findClass_of_methodNamed Bd.named
  have hnm := (name_of_methodNamed Bd.named Bd.method).1
  have X0 : Stand p l e ({ frames := 0, cells := 0, slots := 0, locals := 0 } : Room) s m #[(.ref a1)] below meth c s₁ [] 0 0 := Stand.of_body Bd
  have e0 : s₁.heap = h0 := by rw [← hh, Bd.state]; rfl
  have N0 := Fr.nil n0
  have pre0 : ∀ t, Steps p.tables e below (s₁.setTop (mkF m 0 #[.val (.ref a1)] [])) t → Steps p.tables e below (s₁.setTop (entryFrame m #[(.ref a1)] 1)) t := fun t k => castTop (ef_rm3_52 m a1) k
  obtain ⟨T3, X3, e3, st3⟩ := getF X0 hx hZ hown (host := "") (Or.inl (hw _ (gw 56 rfl))) Via.refl e0 (Fld.ext O0.2 F2) (g := (mkF m 1 #[.val (.ref a1)] [(.ref a1)])) rfl rfl (hb hby d3_1)
  obtain ⟨fs, hr, hrun, hended, hW, hsame⟩ := X3.leave (v := some (.int (16 : Int32))) (fun h => by rw [Bd.returns] at h; cases h)
  refine ⟨_, _, pre0 _ ?_, hrun, hended, _, _, rfl, ?_, ⟨_, rfl⟩, hW, hsame.mono (by decide) (by decide)⟩
  · show Steps p.tables e below (s₁.setTop (mkF m 0 #[.val (.ref a1)] [])) _
    refine XS.aloadN X0.here hx rfl (hb hby d3_0) rfl rfl ?_
    refine st3 _ ?_
    show Steps p.tables e below (T3.setTop (mkF m 4 #[.val (.ref a1)] [(.int (16 : Int32))])) _
    exact retI X3 hx Bd.returns (hb hby d3_4) hr
  · show Q3_52 Z _ h0 n0 _ T3.heap _
    rw [e3]
    exact ⟨rfl, N0, rfl⟩
theorem ef_rm2_51 (m : MethodId) (x0 : Addr) : entryFrame m #[(.ref x0)] 1 = mkF m 0 #[.val (.ref x0)] [] := by first | (simp [entryFrame, mkF, argsToLocals, Value.category]; done) | rfl
def Q2_51 (Z : State) (a1 : Addr) (h0 : Heap) (n0 : Nat) (v : Option Value) (h : Heap) (L : List Loc) : Prop := (v = some (.int (16 : Int32)) ∧ Fr n0 L ∧ h = h0)
set_option maxRecDepth 65536 in
set_option maxHeartbeats 40000000 in
theorem rm2_51 (l : Launch) (Z : State) (a0 : Array Value) (hw : ∀ d ∈ own_ws, d.before a0 Z = true) (ws : List Jvm.Cond) (a1 : Addr) (h0 : Heap) (n0 : Nat) (O0 : Old Z n0 h0) (E_2 : Exa Z Z.heap a1 C_0) (F3 : Fld Z Z.heap a1 C_3 "ordinal" "I" (.int (16 : Int32))) :
    MetFree l M_3 (head1 (Jvm.Cond.code M_3 prog_70_method_4_code 1 (some .int) :: ws) ({ frames := 1, cells := 0, slots := 0, locals := 12 } : Room)) (fun a U => a = #[(.ref a1)] ∧ Z.Warmed39 U.vm ∧ U.heap = h0) (fun _ _ _ _ _ => True) (fun _ U o U' => ∃ v L, o = .returned v ∧ Q2_51 Z a1 h0 n0 v U'.heap L ∧ FrameEnd U o U' L ({ frames := 1, cells := 0, slots := 0, locals := 12 } : Room).cells ({ frames := 1, cells := 0, slots := 0, locals := 12 } : Room).slots) := by
  refine MetFree.of_bodySF (plainFor_of_name pn_0) hisR ?_
  intro p e s m args below meth c s₁ Bd hml0 hP hK
  obtain ⟨rfl, hZ, hh⟩ := hP
  have hx := Bd.exec
  have hby := Bd.bytes
  have hml : c.maxLocals = 1 := hml0
  have hown : s.vm.findClass "com/example/ringstead/ringstead/node/Wire$Call" = some m.cls := findClass_of_methodNamed Bd.named
  have hnm := (name_of_methodNamed Bd.named Bd.method).1
  have X0 : Stand p l e ({ frames := 1, cells := 0, slots := 0, locals := 12 } : Room) s m #[(.ref a1)] below meth c s₁ [] 0 0 := Stand.of_body Bd
  have e0 : s₁.heap = h0 := by rw [← hh, Bd.state]; rfl
  have N0 := Fr.nil n0
  have pre0 : ∀ t, Steps p.tables e below (s₁.setTop (mkF m 0 #[.val (.ref a1)] [])) t → Steps p.tables e below (s₁.setTop (entryFrame m #[(.ref a1)] 1)) t := fun t k => castTop (ef_rm2_51 m a1) k
  obtain ⟨cq4, kq4, q4a, q4b, q4c⟩ := isOf hZ e0 (Exa.ext O0.2 E_2)
  obtain ⟨_, _, ⟨T4, L4, k4, n4⟩, -, X4, ⟨Lc4, hQ4, l4, y4, z4⟩, st4⟩ := X0.virtualBackUp hx (owner := "java/lang/Enum") (x := M_2) (y := M_1) hown (mvT hZ (hw _ (gw 49 rfl))) (mvT hZ (hw _ (gw 50 rfl))) (mvT hZ (hw _ (gw 51 rfl))) (by decide) (mvT hZ (hw _ (gw 53 rfl))) (mvT hZ (hw _ (gw 52 rfl))) (backOf (W := 0) (rm3_52 l Z a0 hw [] a1 h0 n0  O0 F3) hZ (hw _ (gw 55 rfl)) (hw _ (gw 54 rfl)) (by decide) (by decide)) q4a q4c (g := (mkF m 1 #[.val (.ref a1)] [(.ref a1)])) rfl (by rw [hml]; rfl) (Steps.refl _) (argsL := []) (rest := []) (lenOf pd_1 rfl) rfl (by show 2 * 0 + _ ≤ _; exact Nat.le_of_eq rfl) (hb hby d2_1) (fun _ _ => ⟨rfl, e0, (by decide : 0 + 0 ≤ _), (by decide : 0 + 0 ≤ _)⟩)
  dsimp only [Pt.U, Pt.locs, Pt.cells, Pt.slots] at X4 l4 y4 z4 st4 hQ4
  subst l4 y4 z4
  obtain ⟨rfl, u6, u7⟩ := hQ4
  have N4 := Fr.app N0 u6
  obtain ⟨fs, hr, hrun, hended, hW, hsame⟩ := X4.leave (v := some (.int (16 : Int32))) (fun h => by rw [Bd.returns] at h; cases h)
  refine ⟨_, _, pre0 _ ?_, hrun, hended, _, _, rfl, ?_, ⟨_, rfl⟩, hW, hsame.mono (by decide) (by decide)⟩
  · show Steps p.tables e below (s₁.setTop (mkF m 0 #[.val (.ref a1)] [])) _
    refine XS.aloadN X0.here hx rfl (hb hby d2_0) rfl rfl ?_
    refine st4.trans ?_
    show Steps p.tables e below (T4.setTop (mkF m 4 #[.val (.ref a1)] [(.int (16 : Int32))])) _
    exact retI X4 hx Bd.returns (hb hby d2_4) hr
  · show Q2_51 Z _ h0 n0 _ T4.heap _
    rw [u7]
    exact ⟨rfl, N4, rfl⟩
theorem ef_rm0 (m : MethodId) (x0 : Int32) : entryFrame m #[(.int x0)] maxLocals = mkF m 0 #[.val (.int x0), .unset, .unset, .unset] [] := by first | (simp [entryFrame, mkF, argsToLocals, Value.category, maxLocals]; done) | rfl
def Q0 (Z : State) (p1 : Int32) (a5 : Addr) (a12 : Addr) (a19 : Addr) (a26 : Addr) (a33 : Addr) (a40 : Addr) (a47 : Addr) (a54 : Addr) (a61 : Addr) (a68 : Addr) (a75 : Addr) (a82 : Addr) (a89 : Addr) (a96 : Addr) (a103 : Addr) (a110 : Addr) (a117 : Addr) (a126 : Addr) (k128 : ClassId) (h0 : Heap) (n0 : Nat) (v : Option Value) (h : Heap) (L : List Loc) : Prop := v = some (.int 1) ∧ Fr n0 L
set_option maxRecDepth 65536 in
set_option maxHeartbeats 40000000 in
theorem rm0 (l : Launch) (Z : State) (a0 : Array Value) (hw : ∀ d ∈ own_ws, d.before a0 Z = true) (ws : List Jvm.Cond) (p1 : Int32) (a5 : Addr) (a12 : Addr) (a19 : Addr) (a26 : Addr) (a33 : Addr) (a40 : Addr) (a47 : Addr) (a54 : Addr) (a61 : Addr) (a68 : Addr) (a75 : Addr) (a82 : Addr) (a89 : Addr) (a96 : Addr) (a103 : Addr) (a110 : Addr) (a117 : Addr) (a126 : Addr) (k128 : ClassId) (h0 : Heap) (n0 : Nat) (O0 : Old Z n0 h0) (S_6 : Sta Z Z.heap C_0 "IDENTIFY" C_1 (.ref a5)) (E_10 : Exa Z Z.heap a5 C_0) (S_13 : Sta Z Z.heap C_0 "SUCCESSORS" C_1 (.ref a12)) (E_17 : Exa Z Z.heap a12 C_0) (S_20 : Sta Z Z.heap C_0 "NEIGHBOURS" C_1 (.ref a19)) (E_24 : Exa Z Z.heap a19 C_0) (S_27 : Sta Z Z.heap C_0 "CLOSEST_PRECEDING_FINGER" C_1 (.ref a26)) (E_31 : Exa Z Z.heap a26 C_0) (S_34 : Sta Z Z.heap C_0 "NOTIFY_PREDECESSOR" C_1 (.ref a33)) (E_38 : Exa Z Z.heap a33 C_0) (S_41 : Sta Z Z.heap C_0 "CLOSE_RING" C_1 (.ref a40)) (E_45 : Exa Z Z.heap a40 C_0) (S_48 : Sta Z Z.heap C_0 "WRITE" C_1 (.ref a47)) (E_52 : Exa Z Z.heap a47 C_0) (S_55 : Sta Z Z.heap C_0 "GET" C_1 (.ref a54)) (E_59 : Exa Z Z.heap a54 C_0) (S_62 : Sta Z Z.heap C_0 "HAND_OVER" C_1 (.ref a61)) (E_66 : Exa Z Z.heap a61 C_0) (S_69 : Sta Z Z.heap C_0 "TAKE_OVER" C_1 (.ref a68)) (E_73 : Exa Z Z.heap a68 C_0) (S_76 : Sta Z Z.heap C_0 "COPY" C_1 (.ref a75)) (E_80 : Exa Z Z.heap a75 C_0) (S_83 : Sta Z Z.heap C_0 "COPY_RANGE" C_1 (.ref a82)) (E_87 : Exa Z Z.heap a82 C_0) (S_90 : Sta Z Z.heap C_0 "DROP_COPIES" C_1 (.ref a89)) (E_94 : Exa Z Z.heap a89 C_0) (S_97 : Sta Z Z.heap C_0 "SIZE" C_1 (.ref a96)) (E_101 : Exa Z Z.heap a96 C_0) (S_104 : Sta Z Z.heap C_0 "GRANT_LEASE" C_1 (.ref a103)) (E_108 : Exa Z Z.heap a103 C_0) (S_111 : Sta Z Z.heap C_0 "COPY_HANDED_ON" C_1 (.ref a110)) (E_115 : Exa Z Z.heap a110 C_0) (S_118 : Sta Z Z.heap C_0 "STABILIZED_BY" C_1 (.ref a117)) (E_122 : Exa Z Z.heap a117 C_0) (S_127 : Sta Z Z.heap C_0 "BY_CODE" C_2 (.ref a126)) (V129 : Arv Z Z.heap a126 k128 (.object "com/example/ringstead/ringstead/node/Wire$Call") (17 : Int32) [(.ref a5), (.ref a12), (.ref a19), (.ref a26), (.ref a33), (.ref a40), (.ref a47), (.ref a54), (.ref a61), (.ref a68), (.ref a75), (.ref a82), (.ref a89), (.ref a96), (.ref a103), (.ref a110), (.ref a117)] .null) (F135 : Fld Z Z.heap a5 C_3 "ordinal" "I" (.int (0 : Int32))) (F145 : Fld Z Z.heap a12 C_3 "ordinal" "I" (.int (1 : Int32))) (F155 : Fld Z Z.heap a19 C_3 "ordinal" "I" (.int (2 : Int32))) (F165 : Fld Z Z.heap a26 C_3 "ordinal" "I" (.int (3 : Int32))) (F175 : Fld Z Z.heap a33 C_3 "ordinal" "I" (.int (4 : Int32))) (F185 : Fld Z Z.heap a40 C_3 "ordinal" "I" (.int (5 : Int32))) (F195 : Fld Z Z.heap a47 C_3 "ordinal" "I" (.int (6 : Int32))) (F205 : Fld Z Z.heap a54 C_3 "ordinal" "I" (.int (7 : Int32))) (F215 : Fld Z Z.heap a61 C_3 "ordinal" "I" (.int (8 : Int32))) (F225 : Fld Z Z.heap a68 C_3 "ordinal" "I" (.int (9 : Int32))) (F235 : Fld Z Z.heap a75 C_3 "ordinal" "I" (.int (10 : Int32))) (F245 : Fld Z Z.heap a82 C_3 "ordinal" "I" (.int (11 : Int32))) (F255 : Fld Z Z.heap a89 C_3 "ordinal" "I" (.int (12 : Int32))) (F265 : Fld Z Z.heap a96 C_3 "ordinal" "I" (.int (13 : Int32))) (F275 : Fld Z Z.heap a103 C_3 "ordinal" "I" (.int (14 : Int32))) (F285 : Fld Z Z.heap a110 C_3 "ordinal" "I" (.int (15 : Int32))) (F295 : Fld Z Z.heap a117 C_3 "ordinal" "I" (.int (16 : Int32))) :
    MetFree l x (head1 (Jvm.Cond.code x code maxLocals ret :: ws) room_1) (fun a U => a = #[(.int p1)] ∧ Z.Warmed39 U.vm ∧ U.heap = h0) (fun _ _ _ _ _ => True) (fun _ U o U' => ∃ v L, o = .returned v ∧ Q0 Z p1 a5 a12 a19 a26 a33 a40 a47 a54 a61 a68 a75 a82 a89 a96 a103 a110 a117 a126 k128 h0 n0 v U'.heap L ∧ FrameEnd U o U' L room_1.cells room_1.slots) := by
  refine MetFree.of_bodySF (plainFor_of_name pn_2) hisR ?_
  intro p e s m args below meth c s₁ Bd hml0 hP hK
  obtain ⟨rfl, hZ, hh⟩ := hP
  have hx := Bd.exec
  have hby := Bd.bytes
  have hml : c.maxLocals = 4 := hml0
  have hown : s.vm.findClass "com/example/ringstead/ringstead/node/CallOfPinLaw" = some m.cls := findClass_of_methodNamed Bd.named
  have hnm := (name_of_methodNamed Bd.named Bd.method).1
  have X0 : Stand p l e room_1 s m #[(.int p1)] below meth c s₁ [] 0 0 := Stand.of_body Bd
  have e0 : s₁.heap = h0 := by rw [← hh, Bd.state]; rfl
  have N0 := Fr.nil n0
  have pre0 : ∀ t, Steps p.tables e below (s₁.setTop (mkF m 0 #[.val (.int p1), .unset, .unset, .unset] [])) t → Steps p.tables e below (s₁.setTop (entryFrame m #[(.int p1)] maxLocals)) t := fun t k => castTop (ef_rm0 m p1) k
  obtain ⟨i2, hi2⟩ : ∃ z, z = (p1 &&& (2147483647 : Int32)) := ⟨_, rfl⟩
  obtain ⟨i3, hi3⟩ : ∃ z, z = (i2 % (17 : Int32)) := ⟨_, rfl⟩
  obtain ⟨T4, h4, k4, X4, e4, E4, A4, Ex4, Ov4, st4⟩ := newRE X0 hx hZ hown (hw _ (gw 1 rfl)) (hw _ (gw 2 rfl)) e0 (g := (mkF m 10 #[.val (.int p1), .val (.int i3), .unset, .unset] [(.int (17 : Int32))])) rfl (hb hby at_10) rfl (by decide +kernel) (cap := 17) (by decide +kernel) (by decide) (by decide) (by decide) (ad := "[Lcom/example/ringstead/ringstead/node/Wire$Call;") (by decide +kernel)
  obtain ⟨b4, g4⟩ : ∃ z, z = h0.size := ⟨_, rfl⟩
  rw [← g4] at A4 Ex4 st4
  have O4 : Old Z n0 h4 := O0.ext E4
  have bd_b4 : h0.size ≤ b4 := Nat.le_of_eq g4.symm
  have g_b4 : n0 ≤ b4 := Nat.le_trans (own_z O0) bd_b4
  have sz_b4 : h0.size ≤ b4 := Nat.le_trans (Nat.le_refl _) bd_b4
  have lt_b4 : b4 < h4.size := A4.lt
  have V4 : Arv Z h4 b4 k4 (.object "com/example/ringstead/ringstead/node/Wire$Call") (17 : Int32) [] .null := Arv.new A4 (by decide +kernel)
  obtain ⟨T7, X7, e7, st7⟩ := getS2 X4 hx hZ hown (host := "") (Or.inl (hw _ (gw 3 rfl))) Via.refl e4 (Sta.ext O4.2 S_6) (g := (mkF m 15 #[.val (.int p1), .val (.int i3), .unset, .unset] [(.int (0 : Int32)), (.ref b4), (.ref b4)])) rfl (hb hby at_15)
  have Vp8 : Arv Z h4 b4 k4 (.object "com/example/ringstead/ringstead/node/Wire$Call") (17 : Int32) [.null] .null := V4.pad (pad_rep [] .null 1)
  obtain ⟨cl9, Ar9, qk9, Sz9, Nn9, Hh9, Gg9⟩ := id Vp8
  have hin9 : ¬ ((0 : Int32) < 0 ∨ cl9.slots.size ≤ ((0 : Int32)).toNatClampNeg) := inb_of Sz9 ⟨by decide +kernel, by decide +kernel⟩
  obtain ⟨T11, h11, X11, e11, W11, st11⟩ := stR X7 hx hZ e7 Ar9 (j := (0 : Int32)) hin9 rfl (Sto.ofV Ar9 qk9 Ov4 (Ins.self (Exa.ext O4.2 E_10))) (g := (mkF m 18 #[.val (.int p1), .val (.int i3), .unset, .unset] [(.ref a5), (.int (0 : Int32)), (.ref b4), (.ref b4)])) rfl rfl (hb hby at_18)
  have O11 : Old Z n0 h11 := O4.wr W11 g_b4
  have V11 : Arv Z h11 b4 k4 (.object "com/example/ringstead/ringstead/node/Wire$Call") (17 : Int32) [(.ref a5)] .null := Arv.set Ar9 qk9 Sz9 Nn9 Hh9 Gg9 rfl W11 0 rfl (Nat.le_of_ble_eq_true rfl)
  have N11 := Fr.snoc X11 N0 g_b4
  obtain ⟨T14, X14, e14, st14⟩ := getS2 X11 hx hZ hown (host := "") (Or.inl (hw _ (gw 7 rfl))) Via.refl e11 (Sta.ext O11.2 S_13) (g := (mkF m 21 #[.val (.int p1), .val (.int i3), .unset, .unset] [(.int (1 : Int32)), (.ref b4), (.ref b4)])) rfl (hb hby at_21)
  have Vp15 : Arv Z h11 b4 k4 (.object "com/example/ringstead/ringstead/node/Wire$Call") (17 : Int32) [(.ref a5), .null] .null := V11.pad (pad_rep [(.ref a5)] .null 1)
  obtain ⟨cl16, Ar16, qk16, Sz16, Nn16, Hh16, Gg16⟩ := id Vp15
  have hin16 : ¬ ((1 : Int32) < 0 ∨ cl16.slots.size ≤ ((1 : Int32)).toNatClampNeg) := inb_of Sz16 ⟨by decide +kernel, by decide +kernel⟩
  obtain ⟨T18, h18, X18, e18, W18, st18⟩ := stR X14 hx hZ e14 Ar16 (j := (1 : Int32)) hin16 rfl (Sto.ofV Ar16 qk16 Ov4 (Ins.self (Exa.ext O11.2 E_17))) (g := (mkF m 24 #[.val (.int p1), .val (.int i3), .unset, .unset] [(.ref a12), (.int (1 : Int32)), (.ref b4), (.ref b4)])) rfl rfl (hb hby at_24)
  have O18 : Old Z n0 h18 := O11.wr W18 g_b4
  have V18 : Arv Z h18 b4 k4 (.object "com/example/ringstead/ringstead/node/Wire$Call") (17 : Int32) [(.ref a5), (.ref a12)] .null := Arv.set Ar16 qk16 Sz16 Nn16 Hh16 Gg16 rfl W18 1 rfl (Nat.le_of_ble_eq_true rfl)
  have N18 := Fr.snoc X18 N11 g_b4
  obtain ⟨T21, X21, e21, st21⟩ := getS2 X18 hx hZ hown (host := "") (Or.inl (hw _ (gw 9 rfl))) Via.refl e18 (Sta.ext O18.2 S_20) (g := (mkF m 27 #[.val (.int p1), .val (.int i3), .unset, .unset] [(.int (2 : Int32)), (.ref b4), (.ref b4)])) rfl (hb hby at_27)
  have Vp22 : Arv Z h18 b4 k4 (.object "com/example/ringstead/ringstead/node/Wire$Call") (17 : Int32) [(.ref a5), (.ref a12), .null] .null := V18.pad (pad_rep [(.ref a5), (.ref a12)] .null 1)
  obtain ⟨cl23, Ar23, qk23, Sz23, Nn23, Hh23, Gg23⟩ := id Vp22
  have hin23 : ¬ ((2 : Int32) < 0 ∨ cl23.slots.size ≤ ((2 : Int32)).toNatClampNeg) := inb_of Sz23 ⟨by decide +kernel, by decide +kernel⟩
  obtain ⟨T25, h25, X25, e25, W25, st25⟩ := stR X21 hx hZ e21 Ar23 (j := (2 : Int32)) hin23 rfl (Sto.ofV Ar23 qk23 Ov4 (Ins.self (Exa.ext O18.2 E_24))) (g := (mkF m 30 #[.val (.int p1), .val (.int i3), .unset, .unset] [(.ref a19), (.int (2 : Int32)), (.ref b4), (.ref b4)])) rfl rfl (hb hby at_30)
  have O25 : Old Z n0 h25 := O18.wr W25 g_b4
  have V25 : Arv Z h25 b4 k4 (.object "com/example/ringstead/ringstead/node/Wire$Call") (17 : Int32) [(.ref a5), (.ref a12), (.ref a19)] .null := Arv.set Ar23 qk23 Sz23 Nn23 Hh23 Gg23 rfl W25 2 rfl (Nat.le_of_ble_eq_true rfl)
  have N25 := Fr.snoc X25 N18 g_b4
  obtain ⟨T28, X28, e28, st28⟩ := getS2 X25 hx hZ hown (host := "") (Or.inl (hw _ (gw 11 rfl))) Via.refl e25 (Sta.ext O25.2 S_27) (g := (mkF m 33 #[.val (.int p1), .val (.int i3), .unset, .unset] [(.int (3 : Int32)), (.ref b4), (.ref b4)])) rfl (hb hby at_33)
  have Vp29 : Arv Z h25 b4 k4 (.object "com/example/ringstead/ringstead/node/Wire$Call") (17 : Int32) [(.ref a5), (.ref a12), (.ref a19), .null] .null := V25.pad (pad_rep [(.ref a5), (.ref a12), (.ref a19)] .null 1)
  obtain ⟨cl30, Ar30, qk30, Sz30, Nn30, Hh30, Gg30⟩ := id Vp29
  have hin30 : ¬ ((3 : Int32) < 0 ∨ cl30.slots.size ≤ ((3 : Int32)).toNatClampNeg) := inb_of Sz30 ⟨by decide +kernel, by decide +kernel⟩
  obtain ⟨T32, h32, X32, e32, W32, st32⟩ := stR X28 hx hZ e28 Ar30 (j := (3 : Int32)) hin30 rfl (Sto.ofV Ar30 qk30 Ov4 (Ins.self (Exa.ext O25.2 E_31))) (g := (mkF m 36 #[.val (.int p1), .val (.int i3), .unset, .unset] [(.ref a26), (.int (3 : Int32)), (.ref b4), (.ref b4)])) rfl rfl (hb hby at_36)
  have O32 : Old Z n0 h32 := O25.wr W32 g_b4
  have V32 : Arv Z h32 b4 k4 (.object "com/example/ringstead/ringstead/node/Wire$Call") (17 : Int32) [(.ref a5), (.ref a12), (.ref a19), (.ref a26)] .null := Arv.set Ar30 qk30 Sz30 Nn30 Hh30 Gg30 rfl W32 3 rfl (Nat.le_of_ble_eq_true rfl)
  have N32 := Fr.snoc X32 N25 g_b4
  obtain ⟨T35, X35, e35, st35⟩ := getS2 X32 hx hZ hown (host := "") (Or.inl (hw _ (gw 13 rfl))) Via.refl e32 (Sta.ext O32.2 S_34) (g := (mkF m 39 #[.val (.int p1), .val (.int i3), .unset, .unset] [(.int (4 : Int32)), (.ref b4), (.ref b4)])) rfl (hb hby at_39)
  have Vp36 : Arv Z h32 b4 k4 (.object "com/example/ringstead/ringstead/node/Wire$Call") (17 : Int32) [(.ref a5), (.ref a12), (.ref a19), (.ref a26), .null] .null := V32.pad (pad_rep [(.ref a5), (.ref a12), (.ref a19), (.ref a26)] .null 1)
  obtain ⟨cl37, Ar37, qk37, Sz37, Nn37, Hh37, Gg37⟩ := id Vp36
  have hin37 : ¬ ((4 : Int32) < 0 ∨ cl37.slots.size ≤ ((4 : Int32)).toNatClampNeg) := inb_of Sz37 ⟨by decide +kernel, by decide +kernel⟩
  obtain ⟨T39, h39, X39, e39, W39, st39⟩ := stR X35 hx hZ e35 Ar37 (j := (4 : Int32)) hin37 rfl (Sto.ofV Ar37 qk37 Ov4 (Ins.self (Exa.ext O32.2 E_38))) (g := (mkF m 42 #[.val (.int p1), .val (.int i3), .unset, .unset] [(.ref a33), (.int (4 : Int32)), (.ref b4), (.ref b4)])) rfl rfl (hb hby at_42)
  have O39 : Old Z n0 h39 := O32.wr W39 g_b4
  have V39 : Arv Z h39 b4 k4 (.object "com/example/ringstead/ringstead/node/Wire$Call") (17 : Int32) [(.ref a5), (.ref a12), (.ref a19), (.ref a26), (.ref a33)] .null := Arv.set Ar37 qk37 Sz37 Nn37 Hh37 Gg37 rfl W39 4 rfl (Nat.le_of_ble_eq_true rfl)
  have N39 := Fr.snoc X39 N32 g_b4
  obtain ⟨T42, X42, e42, st42⟩ := getS2 X39 hx hZ hown (host := "") (Or.inl (hw _ (gw 15 rfl))) Via.refl e39 (Sta.ext O39.2 S_41) (g := (mkF m 45 #[.val (.int p1), .val (.int i3), .unset, .unset] [(.int (5 : Int32)), (.ref b4), (.ref b4)])) rfl (hb hby at_45)
  have Vp43 : Arv Z h39 b4 k4 (.object "com/example/ringstead/ringstead/node/Wire$Call") (17 : Int32) [(.ref a5), (.ref a12), (.ref a19), (.ref a26), (.ref a33), .null] .null := V39.pad (pad_rep [(.ref a5), (.ref a12), (.ref a19), (.ref a26), (.ref a33)] .null 1)
  obtain ⟨cl44, Ar44, qk44, Sz44, Nn44, Hh44, Gg44⟩ := id Vp43
  have hin44 : ¬ ((5 : Int32) < 0 ∨ cl44.slots.size ≤ ((5 : Int32)).toNatClampNeg) := inb_of Sz44 ⟨by decide +kernel, by decide +kernel⟩
  obtain ⟨T46, h46, X46, e46, W46, st46⟩ := stR X42 hx hZ e42 Ar44 (j := (5 : Int32)) hin44 rfl (Sto.ofV Ar44 qk44 Ov4 (Ins.self (Exa.ext O39.2 E_45))) (g := (mkF m 48 #[.val (.int p1), .val (.int i3), .unset, .unset] [(.ref a40), (.int (5 : Int32)), (.ref b4), (.ref b4)])) rfl rfl (hb hby at_48)
  have O46 : Old Z n0 h46 := O39.wr W46 g_b4
  have V46 : Arv Z h46 b4 k4 (.object "com/example/ringstead/ringstead/node/Wire$Call") (17 : Int32) [(.ref a5), (.ref a12), (.ref a19), (.ref a26), (.ref a33), (.ref a40)] .null := Arv.set Ar44 qk44 Sz44 Nn44 Hh44 Gg44 rfl W46 5 rfl (Nat.le_of_ble_eq_true rfl)
  have N46 := Fr.snoc X46 N39 g_b4
  obtain ⟨T49, X49, e49, st49⟩ := getS2 X46 hx hZ hown (host := "") (Or.inl (hw _ (gw 17 rfl))) Via.refl e46 (Sta.ext O46.2 S_48) (g := (mkF m 52 #[.val (.int p1), .val (.int i3), .unset, .unset] [(.int (6 : Int32)), (.ref b4), (.ref b4)])) rfl (hb hby at_52)
  have Vp50 : Arv Z h46 b4 k4 (.object "com/example/ringstead/ringstead/node/Wire$Call") (17 : Int32) [(.ref a5), (.ref a12), (.ref a19), (.ref a26), (.ref a33), (.ref a40), .null] .null := V46.pad (pad_rep [(.ref a5), (.ref a12), (.ref a19), (.ref a26), (.ref a33), (.ref a40)] .null 1)
  obtain ⟨cl51, Ar51, qk51, Sz51, Nn51, Hh51, Gg51⟩ := id Vp50
  have hin51 : ¬ ((6 : Int32) < 0 ∨ cl51.slots.size ≤ ((6 : Int32)).toNatClampNeg) := inb_of Sz51 ⟨by decide +kernel, by decide +kernel⟩
  obtain ⟨T53, h53, X53, e53, W53, st53⟩ := stR X49 hx hZ e49 Ar51 (j := (6 : Int32)) hin51 rfl (Sto.ofV Ar51 qk51 Ov4 (Ins.self (Exa.ext O46.2 E_52))) (g := (mkF m 55 #[.val (.int p1), .val (.int i3), .unset, .unset] [(.ref a47), (.int (6 : Int32)), (.ref b4), (.ref b4)])) rfl rfl (hb hby at_55)
  have O53 : Old Z n0 h53 := O46.wr W53 g_b4
  have V53 : Arv Z h53 b4 k4 (.object "com/example/ringstead/ringstead/node/Wire$Call") (17 : Int32) [(.ref a5), (.ref a12), (.ref a19), (.ref a26), (.ref a33), (.ref a40), (.ref a47)] .null := Arv.set Ar51 qk51 Sz51 Nn51 Hh51 Gg51 rfl W53 6 rfl (Nat.le_of_ble_eq_true rfl)
  have N53 := Fr.snoc X53 N46 g_b4
  obtain ⟨T56, X56, e56, st56⟩ := getS2 X53 hx hZ hown (host := "") (Or.inl (hw _ (gw 19 rfl))) Via.refl e53 (Sta.ext O53.2 S_55) (g := (mkF m 59 #[.val (.int p1), .val (.int i3), .unset, .unset] [(.int (7 : Int32)), (.ref b4), (.ref b4)])) rfl (hb hby at_59)
  have Vp57 : Arv Z h53 b4 k4 (.object "com/example/ringstead/ringstead/node/Wire$Call") (17 : Int32) [(.ref a5), (.ref a12), (.ref a19), (.ref a26), (.ref a33), (.ref a40), (.ref a47), .null] .null := V53.pad (pad_rep [(.ref a5), (.ref a12), (.ref a19), (.ref a26), (.ref a33), (.ref a40), (.ref a47)] .null 1)
  obtain ⟨cl58, Ar58, qk58, Sz58, Nn58, Hh58, Gg58⟩ := id Vp57
  have hin58 : ¬ ((7 : Int32) < 0 ∨ cl58.slots.size ≤ ((7 : Int32)).toNatClampNeg) := inb_of Sz58 ⟨by decide +kernel, by decide +kernel⟩
  obtain ⟨T60, h60, X60, e60, W60, st60⟩ := stR X56 hx hZ e56 Ar58 (j := (7 : Int32)) hin58 rfl (Sto.ofV Ar58 qk58 Ov4 (Ins.self (Exa.ext O53.2 E_59))) (g := (mkF m 62 #[.val (.int p1), .val (.int i3), .unset, .unset] [(.ref a54), (.int (7 : Int32)), (.ref b4), (.ref b4)])) rfl rfl (hb hby at_62)
  have O60 : Old Z n0 h60 := O53.wr W60 g_b4
  have V60 : Arv Z h60 b4 k4 (.object "com/example/ringstead/ringstead/node/Wire$Call") (17 : Int32) [(.ref a5), (.ref a12), (.ref a19), (.ref a26), (.ref a33), (.ref a40), (.ref a47), (.ref a54)] .null := Arv.set Ar58 qk58 Sz58 Nn58 Hh58 Gg58 rfl W60 7 rfl (Nat.le_of_ble_eq_true rfl)
  have N60 := Fr.snoc X60 N53 g_b4
  obtain ⟨T63, X63, e63, st63⟩ := getS2 X60 hx hZ hown (host := "") (Or.inl (hw _ (gw 21 rfl))) Via.refl e60 (Sta.ext O60.2 S_62) (g := (mkF m 66 #[.val (.int p1), .val (.int i3), .unset, .unset] [(.int (8 : Int32)), (.ref b4), (.ref b4)])) rfl (hb hby at_66)
  have Vp64 : Arv Z h60 b4 k4 (.object "com/example/ringstead/ringstead/node/Wire$Call") (17 : Int32) [(.ref a5), (.ref a12), (.ref a19), (.ref a26), (.ref a33), (.ref a40), (.ref a47), (.ref a54), .null] .null := V60.pad (pad_rep [(.ref a5), (.ref a12), (.ref a19), (.ref a26), (.ref a33), (.ref a40), (.ref a47), (.ref a54)] .null 1)
  obtain ⟨cl65, Ar65, qk65, Sz65, Nn65, Hh65, Gg65⟩ := id Vp64
  have hin65 : ¬ ((8 : Int32) < 0 ∨ cl65.slots.size ≤ ((8 : Int32)).toNatClampNeg) := inb_of Sz65 ⟨by decide +kernel, by decide +kernel⟩
  obtain ⟨T67, h67, X67, e67, W67, st67⟩ := stR X63 hx hZ e63 Ar65 (j := (8 : Int32)) hin65 rfl (Sto.ofV Ar65 qk65 Ov4 (Ins.self (Exa.ext O60.2 E_66))) (g := (mkF m 69 #[.val (.int p1), .val (.int i3), .unset, .unset] [(.ref a61), (.int (8 : Int32)), (.ref b4), (.ref b4)])) rfl rfl (hb hby at_69)
  have O67 : Old Z n0 h67 := O60.wr W67 g_b4
  have V67 : Arv Z h67 b4 k4 (.object "com/example/ringstead/ringstead/node/Wire$Call") (17 : Int32) [(.ref a5), (.ref a12), (.ref a19), (.ref a26), (.ref a33), (.ref a40), (.ref a47), (.ref a54), (.ref a61)] .null := Arv.set Ar65 qk65 Sz65 Nn65 Hh65 Gg65 rfl W67 8 rfl (Nat.le_of_ble_eq_true rfl)
  have N67 := Fr.snoc X67 N60 g_b4
  obtain ⟨T70, X70, e70, st70⟩ := getS2 X67 hx hZ hown (host := "") (Or.inl (hw _ (gw 23 rfl))) Via.refl e67 (Sta.ext O67.2 S_69) (g := (mkF m 73 #[.val (.int p1), .val (.int i3), .unset, .unset] [(.int (9 : Int32)), (.ref b4), (.ref b4)])) rfl (hb hby at_73)
  have Vp71 : Arv Z h67 b4 k4 (.object "com/example/ringstead/ringstead/node/Wire$Call") (17 : Int32) [(.ref a5), (.ref a12), (.ref a19), (.ref a26), (.ref a33), (.ref a40), (.ref a47), (.ref a54), (.ref a61), .null] .null := V67.pad (pad_rep [(.ref a5), (.ref a12), (.ref a19), (.ref a26), (.ref a33), (.ref a40), (.ref a47), (.ref a54), (.ref a61)] .null 1)
  obtain ⟨cl72, Ar72, qk72, Sz72, Nn72, Hh72, Gg72⟩ := id Vp71
  have hin72 : ¬ ((9 : Int32) < 0 ∨ cl72.slots.size ≤ ((9 : Int32)).toNatClampNeg) := inb_of Sz72 ⟨by decide +kernel, by decide +kernel⟩
  obtain ⟨T74, h74, X74, e74, W74, st74⟩ := stR X70 hx hZ e70 Ar72 (j := (9 : Int32)) hin72 rfl (Sto.ofV Ar72 qk72 Ov4 (Ins.self (Exa.ext O67.2 E_73))) (g := (mkF m 76 #[.val (.int p1), .val (.int i3), .unset, .unset] [(.ref a68), (.int (9 : Int32)), (.ref b4), (.ref b4)])) rfl rfl (hb hby at_76)
  have O74 : Old Z n0 h74 := O67.wr W74 g_b4
  have V74 : Arv Z h74 b4 k4 (.object "com/example/ringstead/ringstead/node/Wire$Call") (17 : Int32) [(.ref a5), (.ref a12), (.ref a19), (.ref a26), (.ref a33), (.ref a40), (.ref a47), (.ref a54), (.ref a61), (.ref a68)] .null := Arv.set Ar72 qk72 Sz72 Nn72 Hh72 Gg72 rfl W74 9 rfl (Nat.le_of_ble_eq_true rfl)
  have N74 := Fr.snoc X74 N67 g_b4
  obtain ⟨T77, X77, e77, st77⟩ := getS2 X74 hx hZ hown (host := "") (Or.inl (hw _ (gw 25 rfl))) Via.refl e74 (Sta.ext O74.2 S_76) (g := (mkF m 80 #[.val (.int p1), .val (.int i3), .unset, .unset] [(.int (10 : Int32)), (.ref b4), (.ref b4)])) rfl (hb hby at_80)
  have Vp78 : Arv Z h74 b4 k4 (.object "com/example/ringstead/ringstead/node/Wire$Call") (17 : Int32) [(.ref a5), (.ref a12), (.ref a19), (.ref a26), (.ref a33), (.ref a40), (.ref a47), (.ref a54), (.ref a61), (.ref a68), .null] .null := V74.pad (pad_rep [(.ref a5), (.ref a12), (.ref a19), (.ref a26), (.ref a33), (.ref a40), (.ref a47), (.ref a54), (.ref a61), (.ref a68)] .null 1)
  obtain ⟨cl79, Ar79, qk79, Sz79, Nn79, Hh79, Gg79⟩ := id Vp78
  have hin79 : ¬ ((10 : Int32) < 0 ∨ cl79.slots.size ≤ ((10 : Int32)).toNatClampNeg) := inb_of Sz79 ⟨by decide +kernel, by decide +kernel⟩
  obtain ⟨T81, h81, X81, e81, W81, st81⟩ := stR X77 hx hZ e77 Ar79 (j := (10 : Int32)) hin79 rfl (Sto.ofV Ar79 qk79 Ov4 (Ins.self (Exa.ext O74.2 E_80))) (g := (mkF m 83 #[.val (.int p1), .val (.int i3), .unset, .unset] [(.ref a75), (.int (10 : Int32)), (.ref b4), (.ref b4)])) rfl rfl (hb hby at_83)
  have O81 : Old Z n0 h81 := O74.wr W81 g_b4
  have V81 : Arv Z h81 b4 k4 (.object "com/example/ringstead/ringstead/node/Wire$Call") (17 : Int32) [(.ref a5), (.ref a12), (.ref a19), (.ref a26), (.ref a33), (.ref a40), (.ref a47), (.ref a54), (.ref a61), (.ref a68), (.ref a75)] .null := Arv.set Ar79 qk79 Sz79 Nn79 Hh79 Gg79 rfl W81 10 rfl (Nat.le_of_ble_eq_true rfl)
  have N81 := Fr.snoc X81 N74 g_b4
  obtain ⟨T84, X84, e84, st84⟩ := getS2 X81 hx hZ hown (host := "") (Or.inl (hw _ (gw 27 rfl))) Via.refl e81 (Sta.ext O81.2 S_83) (g := (mkF m 87 #[.val (.int p1), .val (.int i3), .unset, .unset] [(.int (11 : Int32)), (.ref b4), (.ref b4)])) rfl (hb hby at_87)
  have Vp85 : Arv Z h81 b4 k4 (.object "com/example/ringstead/ringstead/node/Wire$Call") (17 : Int32) [(.ref a5), (.ref a12), (.ref a19), (.ref a26), (.ref a33), (.ref a40), (.ref a47), (.ref a54), (.ref a61), (.ref a68), (.ref a75), .null] .null := V81.pad (pad_rep [(.ref a5), (.ref a12), (.ref a19), (.ref a26), (.ref a33), (.ref a40), (.ref a47), (.ref a54), (.ref a61), (.ref a68), (.ref a75)] .null 1)
  obtain ⟨cl86, Ar86, qk86, Sz86, Nn86, Hh86, Gg86⟩ := id Vp85
  have hin86 : ¬ ((11 : Int32) < 0 ∨ cl86.slots.size ≤ ((11 : Int32)).toNatClampNeg) := inb_of Sz86 ⟨by decide +kernel, by decide +kernel⟩
  obtain ⟨T88, h88, X88, e88, W88, st88⟩ := stR X84 hx hZ e84 Ar86 (j := (11 : Int32)) hin86 rfl (Sto.ofV Ar86 qk86 Ov4 (Ins.self (Exa.ext O81.2 E_87))) (g := (mkF m 90 #[.val (.int p1), .val (.int i3), .unset, .unset] [(.ref a82), (.int (11 : Int32)), (.ref b4), (.ref b4)])) rfl rfl (hb hby at_90)
  have O88 : Old Z n0 h88 := O81.wr W88 g_b4
  have V88 : Arv Z h88 b4 k4 (.object "com/example/ringstead/ringstead/node/Wire$Call") (17 : Int32) [(.ref a5), (.ref a12), (.ref a19), (.ref a26), (.ref a33), (.ref a40), (.ref a47), (.ref a54), (.ref a61), (.ref a68), (.ref a75), (.ref a82)] .null := Arv.set Ar86 qk86 Sz86 Nn86 Hh86 Gg86 rfl W88 11 rfl (Nat.le_of_ble_eq_true rfl)
  have N88 := Fr.snoc X88 N81 g_b4
  obtain ⟨T91, X91, e91, st91⟩ := getS2 X88 hx hZ hown (host := "") (Or.inl (hw _ (gw 29 rfl))) Via.refl e88 (Sta.ext O88.2 S_90) (g := (mkF m 94 #[.val (.int p1), .val (.int i3), .unset, .unset] [(.int (12 : Int32)), (.ref b4), (.ref b4)])) rfl (hb hby at_94)
  have Vp92 : Arv Z h88 b4 k4 (.object "com/example/ringstead/ringstead/node/Wire$Call") (17 : Int32) [(.ref a5), (.ref a12), (.ref a19), (.ref a26), (.ref a33), (.ref a40), (.ref a47), (.ref a54), (.ref a61), (.ref a68), (.ref a75), (.ref a82), .null] .null := V88.pad (pad_rep [(.ref a5), (.ref a12), (.ref a19), (.ref a26), (.ref a33), (.ref a40), (.ref a47), (.ref a54), (.ref a61), (.ref a68), (.ref a75), (.ref a82)] .null 1)
  obtain ⟨cl93, Ar93, qk93, Sz93, Nn93, Hh93, Gg93⟩ := id Vp92
  have hin93 : ¬ ((12 : Int32) < 0 ∨ cl93.slots.size ≤ ((12 : Int32)).toNatClampNeg) := inb_of Sz93 ⟨by decide +kernel, by decide +kernel⟩
  obtain ⟨T95, h95, X95, e95, W95, st95⟩ := stR X91 hx hZ e91 Ar93 (j := (12 : Int32)) hin93 rfl (Sto.ofV Ar93 qk93 Ov4 (Ins.self (Exa.ext O88.2 E_94))) (g := (mkF m 97 #[.val (.int p1), .val (.int i3), .unset, .unset] [(.ref a89), (.int (12 : Int32)), (.ref b4), (.ref b4)])) rfl rfl (hb hby at_97)
  have O95 : Old Z n0 h95 := O88.wr W95 g_b4
  have V95 : Arv Z h95 b4 k4 (.object "com/example/ringstead/ringstead/node/Wire$Call") (17 : Int32) [(.ref a5), (.ref a12), (.ref a19), (.ref a26), (.ref a33), (.ref a40), (.ref a47), (.ref a54), (.ref a61), (.ref a68), (.ref a75), (.ref a82), (.ref a89)] .null := Arv.set Ar93 qk93 Sz93 Nn93 Hh93 Gg93 rfl W95 12 rfl (Nat.le_of_ble_eq_true rfl)
  have N95 := Fr.snoc X95 N88 g_b4
  obtain ⟨T98, X98, e98, st98⟩ := getS2 X95 hx hZ hown (host := "") (Or.inl (hw _ (gw 31 rfl))) Via.refl e95 (Sta.ext O95.2 S_97) (g := (mkF m 101 #[.val (.int p1), .val (.int i3), .unset, .unset] [(.int (13 : Int32)), (.ref b4), (.ref b4)])) rfl (hb hby at_101)
  have Vp99 : Arv Z h95 b4 k4 (.object "com/example/ringstead/ringstead/node/Wire$Call") (17 : Int32) [(.ref a5), (.ref a12), (.ref a19), (.ref a26), (.ref a33), (.ref a40), (.ref a47), (.ref a54), (.ref a61), (.ref a68), (.ref a75), (.ref a82), (.ref a89), .null] .null := V95.pad (pad_rep [(.ref a5), (.ref a12), (.ref a19), (.ref a26), (.ref a33), (.ref a40), (.ref a47), (.ref a54), (.ref a61), (.ref a68), (.ref a75), (.ref a82), (.ref a89)] .null 1)
  obtain ⟨cl100, Ar100, qk100, Sz100, Nn100, Hh100, Gg100⟩ := id Vp99
  have hin100 : ¬ ((13 : Int32) < 0 ∨ cl100.slots.size ≤ ((13 : Int32)).toNatClampNeg) := inb_of Sz100 ⟨by decide +kernel, by decide +kernel⟩
  obtain ⟨T102, h102, X102, e102, W102, st102⟩ := stR X98 hx hZ e98 Ar100 (j := (13 : Int32)) hin100 rfl (Sto.ofV Ar100 qk100 Ov4 (Ins.self (Exa.ext O95.2 E_101))) (g := (mkF m 104 #[.val (.int p1), .val (.int i3), .unset, .unset] [(.ref a96), (.int (13 : Int32)), (.ref b4), (.ref b4)])) rfl rfl (hb hby at_104)
  have O102 : Old Z n0 h102 := O95.wr W102 g_b4
  have V102 : Arv Z h102 b4 k4 (.object "com/example/ringstead/ringstead/node/Wire$Call") (17 : Int32) [(.ref a5), (.ref a12), (.ref a19), (.ref a26), (.ref a33), (.ref a40), (.ref a47), (.ref a54), (.ref a61), (.ref a68), (.ref a75), (.ref a82), (.ref a89), (.ref a96)] .null := Arv.set Ar100 qk100 Sz100 Nn100 Hh100 Gg100 rfl W102 13 rfl (Nat.le_of_ble_eq_true rfl)
  have N102 := Fr.snoc X102 N95 g_b4
  obtain ⟨T105, X105, e105, st105⟩ := getS2 X102 hx hZ hown (host := "") (Or.inl (hw _ (gw 33 rfl))) Via.refl e102 (Sta.ext O102.2 S_104) (g := (mkF m 108 #[.val (.int p1), .val (.int i3), .unset, .unset] [(.int (14 : Int32)), (.ref b4), (.ref b4)])) rfl (hb hby at_108)
  have Vp106 : Arv Z h102 b4 k4 (.object "com/example/ringstead/ringstead/node/Wire$Call") (17 : Int32) [(.ref a5), (.ref a12), (.ref a19), (.ref a26), (.ref a33), (.ref a40), (.ref a47), (.ref a54), (.ref a61), (.ref a68), (.ref a75), (.ref a82), (.ref a89), (.ref a96), .null] .null := V102.pad (pad_rep [(.ref a5), (.ref a12), (.ref a19), (.ref a26), (.ref a33), (.ref a40), (.ref a47), (.ref a54), (.ref a61), (.ref a68), (.ref a75), (.ref a82), (.ref a89), (.ref a96)] .null 1)
  obtain ⟨cl107, Ar107, qk107, Sz107, Nn107, Hh107, Gg107⟩ := id Vp106
  have hin107 : ¬ ((14 : Int32) < 0 ∨ cl107.slots.size ≤ ((14 : Int32)).toNatClampNeg) := inb_of Sz107 ⟨by decide +kernel, by decide +kernel⟩
  obtain ⟨T109, h109, X109, e109, W109, st109⟩ := stR X105 hx hZ e105 Ar107 (j := (14 : Int32)) hin107 rfl (Sto.ofV Ar107 qk107 Ov4 (Ins.self (Exa.ext O102.2 E_108))) (g := (mkF m 111 #[.val (.int p1), .val (.int i3), .unset, .unset] [(.ref a103), (.int (14 : Int32)), (.ref b4), (.ref b4)])) rfl rfl (hb hby at_111)
  have O109 : Old Z n0 h109 := O102.wr W109 g_b4
  have V109 : Arv Z h109 b4 k4 (.object "com/example/ringstead/ringstead/node/Wire$Call") (17 : Int32) [(.ref a5), (.ref a12), (.ref a19), (.ref a26), (.ref a33), (.ref a40), (.ref a47), (.ref a54), (.ref a61), (.ref a68), (.ref a75), (.ref a82), (.ref a89), (.ref a96), (.ref a103)] .null := Arv.set Ar107 qk107 Sz107 Nn107 Hh107 Gg107 rfl W109 14 rfl (Nat.le_of_ble_eq_true rfl)
  have N109 := Fr.snoc X109 N102 g_b4
  obtain ⟨T112, X112, e112, st112⟩ := getS2 X109 hx hZ hown (host := "") (Or.inl (hw _ (gw 35 rfl))) Via.refl e109 (Sta.ext O109.2 S_111) (g := (mkF m 115 #[.val (.int p1), .val (.int i3), .unset, .unset] [(.int (15 : Int32)), (.ref b4), (.ref b4)])) rfl (hb hby at_115)
  have Vp113 : Arv Z h109 b4 k4 (.object "com/example/ringstead/ringstead/node/Wire$Call") (17 : Int32) [(.ref a5), (.ref a12), (.ref a19), (.ref a26), (.ref a33), (.ref a40), (.ref a47), (.ref a54), (.ref a61), (.ref a68), (.ref a75), (.ref a82), (.ref a89), (.ref a96), (.ref a103), .null] .null := V109.pad (pad_rep [(.ref a5), (.ref a12), (.ref a19), (.ref a26), (.ref a33), (.ref a40), (.ref a47), (.ref a54), (.ref a61), (.ref a68), (.ref a75), (.ref a82), (.ref a89), (.ref a96), (.ref a103)] .null 1)
  obtain ⟨cl114, Ar114, qk114, Sz114, Nn114, Hh114, Gg114⟩ := id Vp113
  have hin114 : ¬ ((15 : Int32) < 0 ∨ cl114.slots.size ≤ ((15 : Int32)).toNatClampNeg) := inb_of Sz114 ⟨by decide +kernel, by decide +kernel⟩
  obtain ⟨T116, h116, X116, e116, W116, st116⟩ := stR X112 hx hZ e112 Ar114 (j := (15 : Int32)) hin114 rfl (Sto.ofV Ar114 qk114 Ov4 (Ins.self (Exa.ext O109.2 E_115))) (g := (mkF m 118 #[.val (.int p1), .val (.int i3), .unset, .unset] [(.ref a110), (.int (15 : Int32)), (.ref b4), (.ref b4)])) rfl rfl (hb hby at_118)
  have O116 : Old Z n0 h116 := O109.wr W116 g_b4
  have V116 : Arv Z h116 b4 k4 (.object "com/example/ringstead/ringstead/node/Wire$Call") (17 : Int32) [(.ref a5), (.ref a12), (.ref a19), (.ref a26), (.ref a33), (.ref a40), (.ref a47), (.ref a54), (.ref a61), (.ref a68), (.ref a75), (.ref a82), (.ref a89), (.ref a96), (.ref a103), (.ref a110)] .null := Arv.set Ar114 qk114 Sz114 Nn114 Hh114 Gg114 rfl W116 15 rfl (Nat.le_of_ble_eq_true rfl)
  have N116 := Fr.snoc X116 N109 g_b4
  obtain ⟨T119, X119, e119, st119⟩ := getS2 X116 hx hZ hown (host := "") (Or.inl (hw _ (gw 37 rfl))) Via.refl e116 (Sta.ext O116.2 S_118) (g := (mkF m 122 #[.val (.int p1), .val (.int i3), .unset, .unset] [(.int (16 : Int32)), (.ref b4), (.ref b4)])) rfl (hb hby at_122)
  have Vp120 : Arv Z h116 b4 k4 (.object "com/example/ringstead/ringstead/node/Wire$Call") (17 : Int32) [(.ref a5), (.ref a12), (.ref a19), (.ref a26), (.ref a33), (.ref a40), (.ref a47), (.ref a54), (.ref a61), (.ref a68), (.ref a75), (.ref a82), (.ref a89), (.ref a96), (.ref a103), (.ref a110), .null] .null := V116.pad (pad_rep [(.ref a5), (.ref a12), (.ref a19), (.ref a26), (.ref a33), (.ref a40), (.ref a47), (.ref a54), (.ref a61), (.ref a68), (.ref a75), (.ref a82), (.ref a89), (.ref a96), (.ref a103), (.ref a110)] .null 1)
  obtain ⟨cl121, Ar121, qk121, Sz121, Nn121, Hh121, Gg121⟩ := id Vp120
  have hin121 : ¬ ((16 : Int32) < 0 ∨ cl121.slots.size ≤ ((16 : Int32)).toNatClampNeg) := inb_of Sz121 ⟨by decide +kernel, by decide +kernel⟩
  obtain ⟨T123, h123, X123, e123, W123, st123⟩ := stR X119 hx hZ e119 Ar121 (j := (16 : Int32)) hin121 rfl (Sto.ofV Ar121 qk121 Ov4 (Ins.self (Exa.ext O116.2 E_122))) (g := (mkF m 125 #[.val (.int p1), .val (.int i3), .unset, .unset] [(.ref a117), (.int (16 : Int32)), (.ref b4), (.ref b4)])) rfl rfl (hb hby at_125)
  have O123 : Old Z n0 h123 := O116.wr W123 g_b4
  have V123 : Arv Z h123 b4 k4 (.object "com/example/ringstead/ringstead/node/Wire$Call") (17 : Int32) [(.ref a5), (.ref a12), (.ref a19), (.ref a26), (.ref a33), (.ref a40), (.ref a47), (.ref a54), (.ref a61), (.ref a68), (.ref a75), (.ref a82), (.ref a89), (.ref a96), (.ref a103), (.ref a110), (.ref a117)] .null := Arv.set Ar121 qk121 Sz121 Nn121 Hh121 Gg121 rfl W123 16 rfl (Nat.le_of_ble_eq_true rfl)
  have N123 := Fr.snoc X123 N116 g_b4
  have pre124 : ∀ t, Steps p.tables e below (T123.setTop (mkF m 128 #[.val (.int p1), .val (.int i3), .val (.ref b4), .unset] [(.int i3)])) t → Steps p.tables e below (s₁.setTop (entryFrame m #[(.int p1)] maxLocals)) t := by
    intro t kt
    refine pre0 t ?_
    show Steps p.tables e below (s₁.setTop (mkF m 0 #[.val (.int p1), .unset, .unset, .unset] [])) _
    refine XS.iloadN X0.here hx rfl (hb hby at_0) rfl ?_
    refine X0.ldcInt hx hown (mvT hZ (hw _ (gw 0 rfl))) (g := (mkF m 1 #[.val (.int p1), .unset, .unset, .unset] [(.int p1)])) rfl (hb hby at_1) _ ?_
    refine XS.iand X0.here hx rfl (hb hby at_3) rfl ?_
    show Steps p.tables e below (s₁.setTop (mkF m 4 #[.val (.int p1), .unset, .unset, .unset] [(.int (p1 &&& (2147483647 : Int32)))])) _
    rw [← hi2]
    refine XS.bipush X0.here hx rfl (hb hby at_4) ?_
    refine Jvm.RoadKit.iremM (g := (mkF m 6 #[.val (.int p1), .unset, .unset, .unset] [(.int (17 : Int32)), (.int i2)])) X0 hx rfl (hb hby at_6) rfl (by decide +kernel : ¬ ((17 : Int32) = (0 : Int32))) ?_
    show Steps p.tables e below (s₁.setTop (mkF m 7 #[.val (.int p1), .unset, .unset, .unset] [(.int (i2 % (17 : Int32)))])) _
    rw [← hi3]
    refine XS.istoreN X0.here hx rfl (hb hby at_7) rfl (l' := #[.val (.int p1), .val (.int i3), .unset, .unset]) rfl ?_
    refine XS.bipush X0.here hx rfl (hb hby at_8) ?_
    refine st4 _ ?_
    refine XS.dup X4.here hx rfl (hb hby at_13) rfl rfl ?_
    refine XS.iconst X4.here hx rfl (hb hby at_14) ?_
    refine st7 _ ?_
    refine st11 _ ?_
    refine XS.dup X11.here hx rfl (hb hby at_19) rfl rfl ?_
    show Steps p.tables e below (T11.setTop (mkF m 20 #[.val (.int p1), .val (.int i3), .unset, .unset] [(.ref b4), (.ref b4)])) _
    refine XS.iconst X11.here hx rfl (hb hby at_20) ?_
    refine st14 _ ?_
    refine st18 _ ?_
    refine XS.dup X18.here hx rfl (hb hby at_25) rfl rfl ?_
    refine XS.iconst X18.here hx rfl (hb hby at_26) ?_
    refine st21 _ ?_
    refine st25 _ ?_
    refine XS.dup X25.here hx rfl (hb hby at_31) rfl rfl ?_
    refine XS.iconst X25.here hx rfl (hb hby at_32) ?_
    show Steps p.tables e below (T25.setTop (mkF m 33 #[.val (.int p1), .val (.int i3), .unset, .unset] [(.int (3 : Int32)), (.ref b4), (.ref b4)])) _
    refine st28 _ ?_
    refine st32 _ ?_
    refine XS.dup X32.here hx rfl (hb hby at_37) rfl rfl ?_
    refine XS.iconst X32.here hx rfl (hb hby at_38) ?_
    refine st35 _ ?_
    refine st39 _ ?_
    refine XS.dup X39.here hx rfl (hb hby at_43) rfl rfl ?_
    refine XS.iconst X39.here hx rfl (hb hby at_44) ?_
    refine st42 _ ?_
    show Steps p.tables e below (T42.setTop (mkF m 48 #[.val (.int p1), .val (.int i3), .unset, .unset] [(.ref a40), (.int (5 : Int32)), (.ref b4), (.ref b4)])) _
    refine st46 _ ?_
    refine XS.dup X46.here hx rfl (hb hby at_49) rfl rfl ?_
    refine XS.bipush X46.here hx rfl (hb hby at_50) ?_
    refine st49 _ ?_
    refine st53 _ ?_
    refine XS.dup X53.here hx rfl (hb hby at_56) rfl rfl ?_
    refine XS.bipush X53.here hx rfl (hb hby at_57) ?_
    refine st56 _ ?_
    refine st60 _ ?_
    show Steps p.tables e below (T60.setTop (mkF m 63 #[.val (.int p1), .val (.int i3), .unset, .unset] [(.ref b4)])) _
    refine XS.dup X60.here hx rfl (hb hby at_63) rfl rfl ?_
    refine XS.bipush X60.here hx rfl (hb hby at_64) ?_
    refine st63 _ ?_
    refine st67 _ ?_
    refine XS.dup X67.here hx rfl (hb hby at_70) rfl rfl ?_
    refine XS.bipush X67.here hx rfl (hb hby at_71) ?_
    refine st70 _ ?_
    refine st74 _ ?_
    refine XS.dup X74.here hx rfl (hb hby at_77) rfl rfl ?_
    show Steps p.tables e below (T74.setTop (mkF m 78 #[.val (.int p1), .val (.int i3), .unset, .unset] [(.ref b4), (.ref b4)])) _
    refine XS.bipush X74.here hx rfl (hb hby at_78) ?_
    refine st77 _ ?_
    refine st81 _ ?_
    refine XS.dup X81.here hx rfl (hb hby at_84) rfl rfl ?_
    refine XS.bipush X81.here hx rfl (hb hby at_85) ?_
    refine st84 _ ?_
    refine st88 _ ?_
    refine XS.dup X88.here hx rfl (hb hby at_91) rfl rfl ?_
    refine XS.bipush X88.here hx rfl (hb hby at_92) ?_
    show Steps p.tables e below (T88.setTop (mkF m 94 #[.val (.int p1), .val (.int i3), .unset, .unset] [(.int (12 : Int32)), (.ref b4), (.ref b4)])) _
    refine st91 _ ?_
    refine st95 _ ?_
    refine XS.dup X95.here hx rfl (hb hby at_98) rfl rfl ?_
    refine XS.bipush X95.here hx rfl (hb hby at_99) ?_
    refine st98 _ ?_
    refine st102 _ ?_
    refine XS.dup X102.here hx rfl (hb hby at_105) rfl rfl ?_
    refine XS.bipush X102.here hx rfl (hb hby at_106) ?_
    refine st105 _ ?_
    show Steps p.tables e below (T105.setTop (mkF m 111 #[.val (.int p1), .val (.int i3), .unset, .unset] [(.ref a103), (.int (14 : Int32)), (.ref b4), (.ref b4)])) _
    refine st109 _ ?_
    refine XS.dup X109.here hx rfl (hb hby at_112) rfl rfl ?_
    refine XS.bipush X109.here hx rfl (hb hby at_113) ?_
    refine st112 _ ?_
    refine st116 _ ?_
    refine XS.dup X116.here hx rfl (hb hby at_119) rfl rfl ?_
    refine XS.bipush X116.here hx rfl (hb hby at_120) ?_
    refine st119 _ ?_
    refine st123 _ ?_
    show Steps p.tables e below (T123.setTop (mkF m 126 #[.val (.int p1), .val (.int i3), .unset, .unset] [(.ref b4)])) _
    refine XS.astoreN X123.here hx rfl (hb hby at_126) rfl rfl (l' := #[.val (.int p1), .val (.int i3), .val (.ref b4), .unset]) rfl ?_
    refine XS.iloadN X123.here hx rfl (hb hby at_127) rfl ?_
    exact kt
  rcases (hi3 ▸ own_mod17 hi2 : i3 = (0 : Int32) ∨ i3 = (1 : Int32) ∨ i3 = (2 : Int32) ∨ i3 = (3 : Int32) ∨ i3 = (4 : Int32) ∨ i3 = (5 : Int32) ∨ i3 = (6 : Int32) ∨ i3 = (7 : Int32) ∨ i3 = (8 : Int32) ∨ i3 = (9 : Int32) ∨ i3 = (10 : Int32) ∨ i3 = (11 : Int32) ∨ i3 = (12 : Int32) ∨ i3 = (13 : Int32) ∨ i3 = (14 : Int32) ∨ i3 = (15 : Int32) ∨ i3 = (16 : Int32)) with hq125 | hq125 | hq125 | hq125 | hq125 | hq125 | hq125 | hq125 | hq125 | hq125 | hq125 | hq125 | hq125 | hq125 | hq125 | hq125 | hq125
  · skip
    subst hq125
    obtain ⟨_, _, ⟨T130, L130, k130, n130⟩, -, X130, ⟨Lc130, hQ130, l130, y130, z130⟩, st130⟩ := Jvm.LawKit.callS X123 hx (y := M_0) hown (mvT hZ (hw _ (gw 39 rfl))) (mvT hZ (hw _ (gw 40 rfl))) (mvT hZ (hw _ (gw 4 rfl))) (mvT hZ (hw _ (gw 41 rfl))) (by decide) (backOf (W := 0) (rm1_2 l Z a0 hw [] a126 a5 a12 a19 a26 a33 a40 a47 a54 a61 a68 a75 a82 a89 a96 a103 a110 a117 k128 h123 n0  O123 S_127 V129) hZ (hw _ (gw 41 rfl)) (hw _ (gw 4 rfl)) (by decide) (by decide)) (g := (mkF m 128 #[.val (.int p1), .val (.int (0 : Int32)), .val (.ref b4), .unset] [(.int (0 : Int32))])) rfl (by rw [hml]; rfl) (argsL := [(.int (0 : Int32))]) (rest := []) (lenOf pd_0 rfl) rfl (by show 2 * 0 + _ ≤ _; exact Nat.le_of_eq rfl) (hb hby at_128) (fun _ _ => ⟨rfl, e123, (by decide : 1 + 0 ≤ _), (by decide : 17 + 0 ≤ _)⟩)
    dsimp only [Pt.U, Pt.locs, Pt.cells, Pt.slots] at X130 l130 y130 z130 st130 hQ130
    subst l130 y130 z130
    obtain ⟨rfl, u132, u133⟩ := hQ130
    have N130 := Fr.app N123 u132
    obtain ⟨cl134, Ar134, -, Sz134, -, Hh134, -⟩ := id V123
    have hin134 : ¬ ((0 : Int32) < 0 ∨ cl134.slots.size ≤ ((0 : Int32)).toNatClampNeg) := inb_of Sz134 ⟨by decide +kernel, by decide +kernel⟩
    have hat134 : cl134.slots[((0 : Int32)).toNatClampNeg]? = some (.ref a5) := Has.at Hh134 hin134 rfl
    obtain ⟨cq136, kq136, q136a, q136b, q136c⟩ := isOf hZ u133 (Exa.ext O123.2 E_10)
    obtain ⟨_, _, ⟨T136, L136, k136, n136⟩, -, X136, ⟨Lc136, hQ136, l136, y136, z136⟩, st136⟩ := X130.virtualBack hx (y := M_3) (z := M_3) hown (mvT hZ (hw _ (gw 44 rfl))) (mvT hZ (hw _ (gw 45 rfl))) (notFace_of_selects (args := #[]) (mvT hZ (hw _ (gw 47 rfl)))) (mvT hZ (hw _ (gw 47 rfl))) (mvT hZ (hw _ (gw 46 rfl))) (by decide) (backOf (W := 0) (rm2_3 l Z a0 hw [] a5 h123 n0  O123 E_10 F135) hZ (hw _ (gw 48 rfl)) (hw _ (gw 4 rfl)) (by decide) (by decide)) q136a q136c (g := (mkF m 140 #[.val (.int p1), .val (.int (0 : Int32)), .val (.ref b4), .val (.ref a5)] [(.ref a5)])) rfl (by rw [hml]; rfl) (Steps.refl _) (argsL := []) (rest := []) (lenOf pd_1 rfl) rfl (by show 2 * 0 + _ ≤ _; exact Nat.le_of_eq rfl) (hb hby at_140) (fun _ _ => ⟨rfl, u133, (by decide : 1 + 0 ≤ _), (by decide : 17 + 0 ≤ _)⟩)
    dsimp only [Pt.U, Pt.locs, Pt.cells, Pt.slots] at X136 l136 y136 z136 st136 hQ136
    subst l136 y136 z136
    obtain ⟨rfl, u138, u139⟩ := hQ136
    have N136 := Fr.app N130 u138
    obtain ⟨fs, hr, hrun, hended, hW, hsame⟩ := X136.leave (v := some (.int (1 : Int32))) (fun h => by rw [Bd.returns] at h; cases h)
    refine ⟨_, _, pre124 _ ?_, hrun, hended, _, _, rfl, ?_, ⟨_, rfl⟩, hW, hsame.mono (by decide) (by decide)⟩
    · show Steps p.tables e below (T123.setTop (mkF m 128 #[.val (.int p1), .val (.int (0 : Int32)), .val (.ref b4), .unset] [(.int (0 : Int32))])) _
      refine st130 _ ?_
      refine XS.astoreN X130.here hx rfl (hb hby at_131) rfl rfl (l' := #[.val (.int p1), .val (.int (0 : Int32)), .val (.ref b4), .val (.ref a5)]) rfl ?_
      refine XS.aloadN X130.here hx rfl (hb hby at_132) rfl rfl ?_
      refine XS.aloadN X130.here hx rfl (hb hby at_133) rfl rfl ?_
      refine XS.iloadN X130.here hx rfl (hb hby at_134) rfl ?_
      refine X130.aaload hx (j := (0 : Int32)) (v := (.ref a5)) (by rw [u133]; exact Ar134.1) (State.isArrayOf_alike hZ.alike Ar134.2.1) rfl Ar134.2.2 hin134 hat134 (g := (mkF m 135 #[.val (.int p1), .val (.int (0 : Int32)), .val (.ref b4), .val (.ref a5)] [(.int (0 : Int32)), (.ref b4), (.ref a5)])) rfl rfl (hb hby at_135) _ ?_
      refine Jvm.RoadKit.acmp (g := (mkF m 136 #[.val (.int p1), .val (.int (0 : Int32)), .val (.ref b4), .val (.ref a5)] [(.ref a5), (.ref a5)])) X130 hx rfl rfl rfl (pc0 := 136) (pc' := 139) (same := true) rfl (hb hby at_136) rfl (decide_eq_true rfl) (by decide) (by decide) ?_
      refine XS.aloadN X130.here hx rfl (hb hby at_139) rfl rfl ?_
      refine st136.trans ?_
      show Steps p.tables e below (T136.setTop (mkF m 143 #[.val (.int p1), .val (.int (0 : Int32)), .val (.ref b4), .val (.ref a5)] [(.int (0 : Int32))])) _
      refine XS.iloadN X136.here hx rfl (hb hby at_143) rfl ?_
      refine XS.icmpNo X136.here hx rfl (hb hby at_144) rfl (teq (by decide +kernel : (0 : Int32) = (0 : Int32))).2 ?_
      refine XS.iconst X136.here hx rfl (hb hby at_147) ?_
      refine XS.goto X136.here hx rfl (pc0 := 148) (pc' := 152) rfl (hb hby at_148) (by decide) (by decide) ?_
      show Steps p.tables e below (T136.setTop (mkF m 152 #[.val (.int p1), .val (.int (0 : Int32)), .val (.ref b4), .val (.ref a5)] [(.int (1 : Int32))])) _
      exact retN X136 hx (t := .boolean) Bd.returns (by simp) (hb hby at_152) hr
    · show Q0 Z _ _ _ _ _ _ _ _ _ _ _ _ _ _ _ _ _ _ _ _ h0 n0 _ T136.heap _
      rw [u139]
      exact ⟨rfl, N136⟩
  · skip
    subst hq125
    obtain ⟨_, _, ⟨T140, L140, k140, n140⟩, -, X140, ⟨Lc140, hQ140, l140, y140, z140⟩, st140⟩ := Jvm.LawKit.callS X123 hx (y := M_0) hown (mvT hZ (hw _ (gw 39 rfl))) (mvT hZ (hw _ (gw 40 rfl))) (mvT hZ (hw _ (gw 4 rfl))) (mvT hZ (hw _ (gw 41 rfl))) (by decide) (backOf (W := 0) (rm1_5 l Z a0 hw [] a126 a5 a12 a19 a26 a33 a40 a47 a54 a61 a68 a75 a82 a89 a96 a103 a110 a117 k128 h123 n0  O123 S_127 V129) hZ (hw _ (gw 41 rfl)) (hw _ (gw 4 rfl)) (by decide) (by decide)) (g := (mkF m 128 #[.val (.int p1), .val (.int (1 : Int32)), .val (.ref b4), .unset] [(.int (1 : Int32))])) rfl (by rw [hml]; rfl) (argsL := [(.int (1 : Int32))]) (rest := []) (lenOf pd_0 rfl) rfl (by show 2 * 0 + _ ≤ _; exact Nat.le_of_eq rfl) (hb hby at_128) (fun _ _ => ⟨rfl, e123, (by decide : 1 + 0 ≤ _), (by decide : 17 + 0 ≤ _)⟩)
    dsimp only [Pt.U, Pt.locs, Pt.cells, Pt.slots] at X140 l140 y140 z140 st140 hQ140
    subst l140 y140 z140
    obtain ⟨rfl, u142, u143⟩ := hQ140
    have N140 := Fr.app N123 u142
    obtain ⟨cl144, Ar144, -, Sz144, -, Hh144, -⟩ := id V123
    have hin144 : ¬ ((1 : Int32) < 0 ∨ cl144.slots.size ≤ ((1 : Int32)).toNatClampNeg) := inb_of Sz144 ⟨by decide +kernel, by decide +kernel⟩
    have hat144 : cl144.slots[((1 : Int32)).toNatClampNeg]? = some (.ref a12) := Has.at Hh144 hin144 rfl
    obtain ⟨cq146, kq146, q146a, q146b, q146c⟩ := isOf hZ u143 (Exa.ext O123.2 E_17)
    obtain ⟨_, _, ⟨T146, L146, k146, n146⟩, -, X146, ⟨Lc146, hQ146, l146, y146, z146⟩, st146⟩ := X140.virtualBack hx (y := M_3) (z := M_3) hown (mvT hZ (hw _ (gw 44 rfl))) (mvT hZ (hw _ (gw 45 rfl))) (notFace_of_selects (args := #[]) (mvT hZ (hw _ (gw 47 rfl)))) (mvT hZ (hw _ (gw 47 rfl))) (mvT hZ (hw _ (gw 46 rfl))) (by decide) (backOf (W := 0) (rm2_6 l Z a0 hw [] a12 h123 n0  O123 E_17 F145) hZ (hw _ (gw 48 rfl)) (hw _ (gw 4 rfl)) (by decide) (by decide)) q146a q146c (g := (mkF m 140 #[.val (.int p1), .val (.int (1 : Int32)), .val (.ref b4), .val (.ref a12)] [(.ref a12)])) rfl (by rw [hml]; rfl) (Steps.refl _) (argsL := []) (rest := []) (lenOf pd_1 rfl) rfl (by show 2 * 0 + _ ≤ _; exact Nat.le_of_eq rfl) (hb hby at_140) (fun _ _ => ⟨rfl, u143, (by decide : 1 + 0 ≤ _), (by decide : 17 + 0 ≤ _)⟩)
    dsimp only [Pt.U, Pt.locs, Pt.cells, Pt.slots] at X146 l146 y146 z146 st146 hQ146
    subst l146 y146 z146
    obtain ⟨rfl, u148, u149⟩ := hQ146
    have N146 := Fr.app N140 u148
    obtain ⟨fs, hr, hrun, hended, hW, hsame⟩ := X146.leave (v := some (.int (1 : Int32))) (fun h => by rw [Bd.returns] at h; cases h)
    refine ⟨_, _, pre124 _ ?_, hrun, hended, _, _, rfl, ?_, ⟨_, rfl⟩, hW, hsame.mono (by decide) (by decide)⟩
    · show Steps p.tables e below (T123.setTop (mkF m 128 #[.val (.int p1), .val (.int (1 : Int32)), .val (.ref b4), .unset] [(.int (1 : Int32))])) _
      refine st140 _ ?_
      refine XS.astoreN X140.here hx rfl (hb hby at_131) rfl rfl (l' := #[.val (.int p1), .val (.int (1 : Int32)), .val (.ref b4), .val (.ref a12)]) rfl ?_
      refine XS.aloadN X140.here hx rfl (hb hby at_132) rfl rfl ?_
      refine XS.aloadN X140.here hx rfl (hb hby at_133) rfl rfl ?_
      refine XS.iloadN X140.here hx rfl (hb hby at_134) rfl ?_
      refine X140.aaload hx (j := (1 : Int32)) (v := (.ref a12)) (by rw [u143]; exact Ar144.1) (State.isArrayOf_alike hZ.alike Ar144.2.1) rfl Ar144.2.2 hin144 hat144 (g := (mkF m 135 #[.val (.int p1), .val (.int (1 : Int32)), .val (.ref b4), .val (.ref a12)] [(.int (1 : Int32)), (.ref b4), (.ref a12)])) rfl rfl (hb hby at_135) _ ?_
      refine Jvm.RoadKit.acmp (g := (mkF m 136 #[.val (.int p1), .val (.int (1 : Int32)), .val (.ref b4), .val (.ref a12)] [(.ref a12), (.ref a12)])) X140 hx rfl rfl rfl (pc0 := 136) (pc' := 139) (same := true) rfl (hb hby at_136) rfl (decide_eq_true rfl) (by decide) (by decide) ?_
      refine XS.aloadN X140.here hx rfl (hb hby at_139) rfl rfl ?_
      refine st146.trans ?_
      show Steps p.tables e below (T146.setTop (mkF m 143 #[.val (.int p1), .val (.int (1 : Int32)), .val (.ref b4), .val (.ref a12)] [(.int (1 : Int32))])) _
      refine XS.iloadN X146.here hx rfl (hb hby at_143) rfl ?_
      refine XS.icmpNo X146.here hx rfl (hb hby at_144) rfl (teq (by decide +kernel : (1 : Int32) = (1 : Int32))).2 ?_
      refine XS.iconst X146.here hx rfl (hb hby at_147) ?_
      refine XS.goto X146.here hx rfl (pc0 := 148) (pc' := 152) rfl (hb hby at_148) (by decide) (by decide) ?_
      show Steps p.tables e below (T146.setTop (mkF m 152 #[.val (.int p1), .val (.int (1 : Int32)), .val (.ref b4), .val (.ref a12)] [(.int (1 : Int32))])) _
      exact retN X146 hx (t := .boolean) Bd.returns (by simp) (hb hby at_152) hr
    · show Q0 Z _ _ _ _ _ _ _ _ _ _ _ _ _ _ _ _ _ _ _ _ h0 n0 _ T146.heap _
      rw [u149]
      exact ⟨rfl, N146⟩
  · skip
    subst hq125
    obtain ⟨_, _, ⟨T150, L150, k150, n150⟩, -, X150, ⟨Lc150, hQ150, l150, y150, z150⟩, st150⟩ := Jvm.LawKit.callS X123 hx (y := M_0) hown (mvT hZ (hw _ (gw 39 rfl))) (mvT hZ (hw _ (gw 40 rfl))) (mvT hZ (hw _ (gw 4 rfl))) (mvT hZ (hw _ (gw 41 rfl))) (by decide) (backOf (W := 0) (rm1_8 l Z a0 hw [] a126 a5 a12 a19 a26 a33 a40 a47 a54 a61 a68 a75 a82 a89 a96 a103 a110 a117 k128 h123 n0  O123 S_127 V129) hZ (hw _ (gw 41 rfl)) (hw _ (gw 4 rfl)) (by decide) (by decide)) (g := (mkF m 128 #[.val (.int p1), .val (.int (2 : Int32)), .val (.ref b4), .unset] [(.int (2 : Int32))])) rfl (by rw [hml]; rfl) (argsL := [(.int (2 : Int32))]) (rest := []) (lenOf pd_0 rfl) rfl (by show 2 * 0 + _ ≤ _; exact Nat.le_of_eq rfl) (hb hby at_128) (fun _ _ => ⟨rfl, e123, (by decide : 1 + 0 ≤ _), (by decide : 17 + 0 ≤ _)⟩)
    dsimp only [Pt.U, Pt.locs, Pt.cells, Pt.slots] at X150 l150 y150 z150 st150 hQ150
    subst l150 y150 z150
    obtain ⟨rfl, u152, u153⟩ := hQ150
    have N150 := Fr.app N123 u152
    obtain ⟨cl154, Ar154, -, Sz154, -, Hh154, -⟩ := id V123
    have hin154 : ¬ ((2 : Int32) < 0 ∨ cl154.slots.size ≤ ((2 : Int32)).toNatClampNeg) := inb_of Sz154 ⟨by decide +kernel, by decide +kernel⟩
    have hat154 : cl154.slots[((2 : Int32)).toNatClampNeg]? = some (.ref a19) := Has.at Hh154 hin154 rfl
    obtain ⟨cq156, kq156, q156a, q156b, q156c⟩ := isOf hZ u153 (Exa.ext O123.2 E_24)
    obtain ⟨_, _, ⟨T156, L156, k156, n156⟩, -, X156, ⟨Lc156, hQ156, l156, y156, z156⟩, st156⟩ := X150.virtualBack hx (y := M_3) (z := M_3) hown (mvT hZ (hw _ (gw 44 rfl))) (mvT hZ (hw _ (gw 45 rfl))) (notFace_of_selects (args := #[]) (mvT hZ (hw _ (gw 47 rfl)))) (mvT hZ (hw _ (gw 47 rfl))) (mvT hZ (hw _ (gw 46 rfl))) (by decide) (backOf (W := 0) (rm2_9 l Z a0 hw [] a19 h123 n0  O123 E_24 F155) hZ (hw _ (gw 48 rfl)) (hw _ (gw 4 rfl)) (by decide) (by decide)) q156a q156c (g := (mkF m 140 #[.val (.int p1), .val (.int (2 : Int32)), .val (.ref b4), .val (.ref a19)] [(.ref a19)])) rfl (by rw [hml]; rfl) (Steps.refl _) (argsL := []) (rest := []) (lenOf pd_1 rfl) rfl (by show 2 * 0 + _ ≤ _; exact Nat.le_of_eq rfl) (hb hby at_140) (fun _ _ => ⟨rfl, u153, (by decide : 1 + 0 ≤ _), (by decide : 17 + 0 ≤ _)⟩)
    dsimp only [Pt.U, Pt.locs, Pt.cells, Pt.slots] at X156 l156 y156 z156 st156 hQ156
    subst l156 y156 z156
    obtain ⟨rfl, u158, u159⟩ := hQ156
    have N156 := Fr.app N150 u158
    obtain ⟨fs, hr, hrun, hended, hW, hsame⟩ := X156.leave (v := some (.int (1 : Int32))) (fun h => by rw [Bd.returns] at h; cases h)
    refine ⟨_, _, pre124 _ ?_, hrun, hended, _, _, rfl, ?_, ⟨_, rfl⟩, hW, hsame.mono (by decide) (by decide)⟩
    · show Steps p.tables e below (T123.setTop (mkF m 128 #[.val (.int p1), .val (.int (2 : Int32)), .val (.ref b4), .unset] [(.int (2 : Int32))])) _
      refine st150 _ ?_
      refine XS.astoreN X150.here hx rfl (hb hby at_131) rfl rfl (l' := #[.val (.int p1), .val (.int (2 : Int32)), .val (.ref b4), .val (.ref a19)]) rfl ?_
      refine XS.aloadN X150.here hx rfl (hb hby at_132) rfl rfl ?_
      refine XS.aloadN X150.here hx rfl (hb hby at_133) rfl rfl ?_
      refine XS.iloadN X150.here hx rfl (hb hby at_134) rfl ?_
      refine X150.aaload hx (j := (2 : Int32)) (v := (.ref a19)) (by rw [u153]; exact Ar154.1) (State.isArrayOf_alike hZ.alike Ar154.2.1) rfl Ar154.2.2 hin154 hat154 (g := (mkF m 135 #[.val (.int p1), .val (.int (2 : Int32)), .val (.ref b4), .val (.ref a19)] [(.int (2 : Int32)), (.ref b4), (.ref a19)])) rfl rfl (hb hby at_135) _ ?_
      refine Jvm.RoadKit.acmp (g := (mkF m 136 #[.val (.int p1), .val (.int (2 : Int32)), .val (.ref b4), .val (.ref a19)] [(.ref a19), (.ref a19)])) X150 hx rfl rfl rfl (pc0 := 136) (pc' := 139) (same := true) rfl (hb hby at_136) rfl (decide_eq_true rfl) (by decide) (by decide) ?_
      refine XS.aloadN X150.here hx rfl (hb hby at_139) rfl rfl ?_
      refine st156.trans ?_
      show Steps p.tables e below (T156.setTop (mkF m 143 #[.val (.int p1), .val (.int (2 : Int32)), .val (.ref b4), .val (.ref a19)] [(.int (2 : Int32))])) _
      refine XS.iloadN X156.here hx rfl (hb hby at_143) rfl ?_
      refine XS.icmpNo X156.here hx rfl (hb hby at_144) rfl (teq (by decide +kernel : (2 : Int32) = (2 : Int32))).2 ?_
      refine XS.iconst X156.here hx rfl (hb hby at_147) ?_
      refine XS.goto X156.here hx rfl (pc0 := 148) (pc' := 152) rfl (hb hby at_148) (by decide) (by decide) ?_
      show Steps p.tables e below (T156.setTop (mkF m 152 #[.val (.int p1), .val (.int (2 : Int32)), .val (.ref b4), .val (.ref a19)] [(.int (1 : Int32))])) _
      exact retN X156 hx (t := .boolean) Bd.returns (by simp) (hb hby at_152) hr
    · show Q0 Z _ _ _ _ _ _ _ _ _ _ _ _ _ _ _ _ _ _ _ _ h0 n0 _ T156.heap _
      rw [u159]
      exact ⟨rfl, N156⟩
  · skip
    subst hq125
    obtain ⟨_, _, ⟨T160, L160, k160, n160⟩, -, X160, ⟨Lc160, hQ160, l160, y160, z160⟩, st160⟩ := Jvm.LawKit.callS X123 hx (y := M_0) hown (mvT hZ (hw _ (gw 39 rfl))) (mvT hZ (hw _ (gw 40 rfl))) (mvT hZ (hw _ (gw 4 rfl))) (mvT hZ (hw _ (gw 41 rfl))) (by decide) (backOf (W := 0) (rm1_11 l Z a0 hw [] a126 a5 a12 a19 a26 a33 a40 a47 a54 a61 a68 a75 a82 a89 a96 a103 a110 a117 k128 h123 n0  O123 S_127 V129) hZ (hw _ (gw 41 rfl)) (hw _ (gw 4 rfl)) (by decide) (by decide)) (g := (mkF m 128 #[.val (.int p1), .val (.int (3 : Int32)), .val (.ref b4), .unset] [(.int (3 : Int32))])) rfl (by rw [hml]; rfl) (argsL := [(.int (3 : Int32))]) (rest := []) (lenOf pd_0 rfl) rfl (by show 2 * 0 + _ ≤ _; exact Nat.le_of_eq rfl) (hb hby at_128) (fun _ _ => ⟨rfl, e123, (by decide : 1 + 0 ≤ _), (by decide : 17 + 0 ≤ _)⟩)
    dsimp only [Pt.U, Pt.locs, Pt.cells, Pt.slots] at X160 l160 y160 z160 st160 hQ160
    subst l160 y160 z160
    obtain ⟨rfl, u162, u163⟩ := hQ160
    have N160 := Fr.app N123 u162
    obtain ⟨cl164, Ar164, -, Sz164, -, Hh164, -⟩ := id V123
    have hin164 : ¬ ((3 : Int32) < 0 ∨ cl164.slots.size ≤ ((3 : Int32)).toNatClampNeg) := inb_of Sz164 ⟨by decide +kernel, by decide +kernel⟩
    have hat164 : cl164.slots[((3 : Int32)).toNatClampNeg]? = some (.ref a26) := Has.at Hh164 hin164 rfl
    obtain ⟨cq166, kq166, q166a, q166b, q166c⟩ := isOf hZ u163 (Exa.ext O123.2 E_31)
    obtain ⟨_, _, ⟨T166, L166, k166, n166⟩, -, X166, ⟨Lc166, hQ166, l166, y166, z166⟩, st166⟩ := X160.virtualBack hx (y := M_3) (z := M_3) hown (mvT hZ (hw _ (gw 44 rfl))) (mvT hZ (hw _ (gw 45 rfl))) (notFace_of_selects (args := #[]) (mvT hZ (hw _ (gw 47 rfl)))) (mvT hZ (hw _ (gw 47 rfl))) (mvT hZ (hw _ (gw 46 rfl))) (by decide) (backOf (W := 0) (rm2_12 l Z a0 hw [] a26 h123 n0  O123 E_31 F165) hZ (hw _ (gw 48 rfl)) (hw _ (gw 4 rfl)) (by decide) (by decide)) q166a q166c (g := (mkF m 140 #[.val (.int p1), .val (.int (3 : Int32)), .val (.ref b4), .val (.ref a26)] [(.ref a26)])) rfl (by rw [hml]; rfl) (Steps.refl _) (argsL := []) (rest := []) (lenOf pd_1 rfl) rfl (by show 2 * 0 + _ ≤ _; exact Nat.le_of_eq rfl) (hb hby at_140) (fun _ _ => ⟨rfl, u163, (by decide : 1 + 0 ≤ _), (by decide : 17 + 0 ≤ _)⟩)
    dsimp only [Pt.U, Pt.locs, Pt.cells, Pt.slots] at X166 l166 y166 z166 st166 hQ166
    subst l166 y166 z166
    obtain ⟨rfl, u168, u169⟩ := hQ166
    have N166 := Fr.app N160 u168
    obtain ⟨fs, hr, hrun, hended, hW, hsame⟩ := X166.leave (v := some (.int (1 : Int32))) (fun h => by rw [Bd.returns] at h; cases h)
    refine ⟨_, _, pre124 _ ?_, hrun, hended, _, _, rfl, ?_, ⟨_, rfl⟩, hW, hsame.mono (by decide) (by decide)⟩
    · show Steps p.tables e below (T123.setTop (mkF m 128 #[.val (.int p1), .val (.int (3 : Int32)), .val (.ref b4), .unset] [(.int (3 : Int32))])) _
      refine st160 _ ?_
      refine XS.astoreN X160.here hx rfl (hb hby at_131) rfl rfl (l' := #[.val (.int p1), .val (.int (3 : Int32)), .val (.ref b4), .val (.ref a26)]) rfl ?_
      refine XS.aloadN X160.here hx rfl (hb hby at_132) rfl rfl ?_
      refine XS.aloadN X160.here hx rfl (hb hby at_133) rfl rfl ?_
      refine XS.iloadN X160.here hx rfl (hb hby at_134) rfl ?_
      refine X160.aaload hx (j := (3 : Int32)) (v := (.ref a26)) (by rw [u163]; exact Ar164.1) (State.isArrayOf_alike hZ.alike Ar164.2.1) rfl Ar164.2.2 hin164 hat164 (g := (mkF m 135 #[.val (.int p1), .val (.int (3 : Int32)), .val (.ref b4), .val (.ref a26)] [(.int (3 : Int32)), (.ref b4), (.ref a26)])) rfl rfl (hb hby at_135) _ ?_
      refine Jvm.RoadKit.acmp (g := (mkF m 136 #[.val (.int p1), .val (.int (3 : Int32)), .val (.ref b4), .val (.ref a26)] [(.ref a26), (.ref a26)])) X160 hx rfl rfl rfl (pc0 := 136) (pc' := 139) (same := true) rfl (hb hby at_136) rfl (decide_eq_true rfl) (by decide) (by decide) ?_
      refine XS.aloadN X160.here hx rfl (hb hby at_139) rfl rfl ?_
      refine st166.trans ?_
      show Steps p.tables e below (T166.setTop (mkF m 143 #[.val (.int p1), .val (.int (3 : Int32)), .val (.ref b4), .val (.ref a26)] [(.int (3 : Int32))])) _
      refine XS.iloadN X166.here hx rfl (hb hby at_143) rfl ?_
      refine XS.icmpNo X166.here hx rfl (hb hby at_144) rfl (teq (by decide +kernel : (3 : Int32) = (3 : Int32))).2 ?_
      refine XS.iconst X166.here hx rfl (hb hby at_147) ?_
      refine XS.goto X166.here hx rfl (pc0 := 148) (pc' := 152) rfl (hb hby at_148) (by decide) (by decide) ?_
      show Steps p.tables e below (T166.setTop (mkF m 152 #[.val (.int p1), .val (.int (3 : Int32)), .val (.ref b4), .val (.ref a26)] [(.int (1 : Int32))])) _
      exact retN X166 hx (t := .boolean) Bd.returns (by simp) (hb hby at_152) hr
    · show Q0 Z _ _ _ _ _ _ _ _ _ _ _ _ _ _ _ _ _ _ _ _ h0 n0 _ T166.heap _
      rw [u169]
      exact ⟨rfl, N166⟩
  · skip
    subst hq125
    obtain ⟨_, _, ⟨T170, L170, k170, n170⟩, -, X170, ⟨Lc170, hQ170, l170, y170, z170⟩, st170⟩ := Jvm.LawKit.callS X123 hx (y := M_0) hown (mvT hZ (hw _ (gw 39 rfl))) (mvT hZ (hw _ (gw 40 rfl))) (mvT hZ (hw _ (gw 4 rfl))) (mvT hZ (hw _ (gw 41 rfl))) (by decide) (backOf (W := 0) (rm1_14 l Z a0 hw [] a126 a5 a12 a19 a26 a33 a40 a47 a54 a61 a68 a75 a82 a89 a96 a103 a110 a117 k128 h123 n0  O123 S_127 V129) hZ (hw _ (gw 41 rfl)) (hw _ (gw 4 rfl)) (by decide) (by decide)) (g := (mkF m 128 #[.val (.int p1), .val (.int (4 : Int32)), .val (.ref b4), .unset] [(.int (4 : Int32))])) rfl (by rw [hml]; rfl) (argsL := [(.int (4 : Int32))]) (rest := []) (lenOf pd_0 rfl) rfl (by show 2 * 0 + _ ≤ _; exact Nat.le_of_eq rfl) (hb hby at_128) (fun _ _ => ⟨rfl, e123, (by decide : 1 + 0 ≤ _), (by decide : 17 + 0 ≤ _)⟩)
    dsimp only [Pt.U, Pt.locs, Pt.cells, Pt.slots] at X170 l170 y170 z170 st170 hQ170
    subst l170 y170 z170
    obtain ⟨rfl, u172, u173⟩ := hQ170
    have N170 := Fr.app N123 u172
    obtain ⟨cl174, Ar174, -, Sz174, -, Hh174, -⟩ := id V123
    have hin174 : ¬ ((4 : Int32) < 0 ∨ cl174.slots.size ≤ ((4 : Int32)).toNatClampNeg) := inb_of Sz174 ⟨by decide +kernel, by decide +kernel⟩
    have hat174 : cl174.slots[((4 : Int32)).toNatClampNeg]? = some (.ref a33) := Has.at Hh174 hin174 rfl
    obtain ⟨cq176, kq176, q176a, q176b, q176c⟩ := isOf hZ u173 (Exa.ext O123.2 E_38)
    obtain ⟨_, _, ⟨T176, L176, k176, n176⟩, -, X176, ⟨Lc176, hQ176, l176, y176, z176⟩, st176⟩ := X170.virtualBack hx (y := M_3) (z := M_3) hown (mvT hZ (hw _ (gw 44 rfl))) (mvT hZ (hw _ (gw 45 rfl))) (notFace_of_selects (args := #[]) (mvT hZ (hw _ (gw 47 rfl)))) (mvT hZ (hw _ (gw 47 rfl))) (mvT hZ (hw _ (gw 46 rfl))) (by decide) (backOf (W := 0) (rm2_15 l Z a0 hw [] a33 h123 n0  O123 E_38 F175) hZ (hw _ (gw 48 rfl)) (hw _ (gw 4 rfl)) (by decide) (by decide)) q176a q176c (g := (mkF m 140 #[.val (.int p1), .val (.int (4 : Int32)), .val (.ref b4), .val (.ref a33)] [(.ref a33)])) rfl (by rw [hml]; rfl) (Steps.refl _) (argsL := []) (rest := []) (lenOf pd_1 rfl) rfl (by show 2 * 0 + _ ≤ _; exact Nat.le_of_eq rfl) (hb hby at_140) (fun _ _ => ⟨rfl, u173, (by decide : 1 + 0 ≤ _), (by decide : 17 + 0 ≤ _)⟩)
    dsimp only [Pt.U, Pt.locs, Pt.cells, Pt.slots] at X176 l176 y176 z176 st176 hQ176
    subst l176 y176 z176
    obtain ⟨rfl, u178, u179⟩ := hQ176
    have N176 := Fr.app N170 u178
    obtain ⟨fs, hr, hrun, hended, hW, hsame⟩ := X176.leave (v := some (.int (1 : Int32))) (fun h => by rw [Bd.returns] at h; cases h)
    refine ⟨_, _, pre124 _ ?_, hrun, hended, _, _, rfl, ?_, ⟨_, rfl⟩, hW, hsame.mono (by decide) (by decide)⟩
    · show Steps p.tables e below (T123.setTop (mkF m 128 #[.val (.int p1), .val (.int (4 : Int32)), .val (.ref b4), .unset] [(.int (4 : Int32))])) _
      refine st170 _ ?_
      refine XS.astoreN X170.here hx rfl (hb hby at_131) rfl rfl (l' := #[.val (.int p1), .val (.int (4 : Int32)), .val (.ref b4), .val (.ref a33)]) rfl ?_
      refine XS.aloadN X170.here hx rfl (hb hby at_132) rfl rfl ?_
      refine XS.aloadN X170.here hx rfl (hb hby at_133) rfl rfl ?_
      refine XS.iloadN X170.here hx rfl (hb hby at_134) rfl ?_
      refine X170.aaload hx (j := (4 : Int32)) (v := (.ref a33)) (by rw [u173]; exact Ar174.1) (State.isArrayOf_alike hZ.alike Ar174.2.1) rfl Ar174.2.2 hin174 hat174 (g := (mkF m 135 #[.val (.int p1), .val (.int (4 : Int32)), .val (.ref b4), .val (.ref a33)] [(.int (4 : Int32)), (.ref b4), (.ref a33)])) rfl rfl (hb hby at_135) _ ?_
      refine Jvm.RoadKit.acmp (g := (mkF m 136 #[.val (.int p1), .val (.int (4 : Int32)), .val (.ref b4), .val (.ref a33)] [(.ref a33), (.ref a33)])) X170 hx rfl rfl rfl (pc0 := 136) (pc' := 139) (same := true) rfl (hb hby at_136) rfl (decide_eq_true rfl) (by decide) (by decide) ?_
      refine XS.aloadN X170.here hx rfl (hb hby at_139) rfl rfl ?_
      refine st176.trans ?_
      show Steps p.tables e below (T176.setTop (mkF m 143 #[.val (.int p1), .val (.int (4 : Int32)), .val (.ref b4), .val (.ref a33)] [(.int (4 : Int32))])) _
      refine XS.iloadN X176.here hx rfl (hb hby at_143) rfl ?_
      refine XS.icmpNo X176.here hx rfl (hb hby at_144) rfl (teq (by decide +kernel : (4 : Int32) = (4 : Int32))).2 ?_
      refine XS.iconst X176.here hx rfl (hb hby at_147) ?_
      refine XS.goto X176.here hx rfl (pc0 := 148) (pc' := 152) rfl (hb hby at_148) (by decide) (by decide) ?_
      show Steps p.tables e below (T176.setTop (mkF m 152 #[.val (.int p1), .val (.int (4 : Int32)), .val (.ref b4), .val (.ref a33)] [(.int (1 : Int32))])) _
      exact retN X176 hx (t := .boolean) Bd.returns (by simp) (hb hby at_152) hr
    · show Q0 Z _ _ _ _ _ _ _ _ _ _ _ _ _ _ _ _ _ _ _ _ h0 n0 _ T176.heap _
      rw [u179]
      exact ⟨rfl, N176⟩
  · skip
    subst hq125
    obtain ⟨_, _, ⟨T180, L180, k180, n180⟩, -, X180, ⟨Lc180, hQ180, l180, y180, z180⟩, st180⟩ := Jvm.LawKit.callS X123 hx (y := M_0) hown (mvT hZ (hw _ (gw 39 rfl))) (mvT hZ (hw _ (gw 40 rfl))) (mvT hZ (hw _ (gw 4 rfl))) (mvT hZ (hw _ (gw 41 rfl))) (by decide) (backOf (W := 0) (rm1_17 l Z a0 hw [] a126 a5 a12 a19 a26 a33 a40 a47 a54 a61 a68 a75 a82 a89 a96 a103 a110 a117 k128 h123 n0  O123 S_127 V129) hZ (hw _ (gw 41 rfl)) (hw _ (gw 4 rfl)) (by decide) (by decide)) (g := (mkF m 128 #[.val (.int p1), .val (.int (5 : Int32)), .val (.ref b4), .unset] [(.int (5 : Int32))])) rfl (by rw [hml]; rfl) (argsL := [(.int (5 : Int32))]) (rest := []) (lenOf pd_0 rfl) rfl (by show 2 * 0 + _ ≤ _; exact Nat.le_of_eq rfl) (hb hby at_128) (fun _ _ => ⟨rfl, e123, (by decide : 1 + 0 ≤ _), (by decide : 17 + 0 ≤ _)⟩)
    dsimp only [Pt.U, Pt.locs, Pt.cells, Pt.slots] at X180 l180 y180 z180 st180 hQ180
    subst l180 y180 z180
    obtain ⟨rfl, u182, u183⟩ := hQ180
    have N180 := Fr.app N123 u182
    obtain ⟨cl184, Ar184, -, Sz184, -, Hh184, -⟩ := id V123
    have hin184 : ¬ ((5 : Int32) < 0 ∨ cl184.slots.size ≤ ((5 : Int32)).toNatClampNeg) := inb_of Sz184 ⟨by decide +kernel, by decide +kernel⟩
    have hat184 : cl184.slots[((5 : Int32)).toNatClampNeg]? = some (.ref a40) := Has.at Hh184 hin184 rfl
    obtain ⟨cq186, kq186, q186a, q186b, q186c⟩ := isOf hZ u183 (Exa.ext O123.2 E_45)
    obtain ⟨_, _, ⟨T186, L186, k186, n186⟩, -, X186, ⟨Lc186, hQ186, l186, y186, z186⟩, st186⟩ := X180.virtualBack hx (y := M_3) (z := M_3) hown (mvT hZ (hw _ (gw 44 rfl))) (mvT hZ (hw _ (gw 45 rfl))) (notFace_of_selects (args := #[]) (mvT hZ (hw _ (gw 47 rfl)))) (mvT hZ (hw _ (gw 47 rfl))) (mvT hZ (hw _ (gw 46 rfl))) (by decide) (backOf (W := 0) (rm2_18 l Z a0 hw [] a40 h123 n0  O123 E_45 F185) hZ (hw _ (gw 48 rfl)) (hw _ (gw 4 rfl)) (by decide) (by decide)) q186a q186c (g := (mkF m 140 #[.val (.int p1), .val (.int (5 : Int32)), .val (.ref b4), .val (.ref a40)] [(.ref a40)])) rfl (by rw [hml]; rfl) (Steps.refl _) (argsL := []) (rest := []) (lenOf pd_1 rfl) rfl (by show 2 * 0 + _ ≤ _; exact Nat.le_of_eq rfl) (hb hby at_140) (fun _ _ => ⟨rfl, u183, (by decide : 1 + 0 ≤ _), (by decide : 17 + 0 ≤ _)⟩)
    dsimp only [Pt.U, Pt.locs, Pt.cells, Pt.slots] at X186 l186 y186 z186 st186 hQ186
    subst l186 y186 z186
    obtain ⟨rfl, u188, u189⟩ := hQ186
    have N186 := Fr.app N180 u188
    obtain ⟨fs, hr, hrun, hended, hW, hsame⟩ := X186.leave (v := some (.int (1 : Int32))) (fun h => by rw [Bd.returns] at h; cases h)
    refine ⟨_, _, pre124 _ ?_, hrun, hended, _, _, rfl, ?_, ⟨_, rfl⟩, hW, hsame.mono (by decide) (by decide)⟩
    · show Steps p.tables e below (T123.setTop (mkF m 128 #[.val (.int p1), .val (.int (5 : Int32)), .val (.ref b4), .unset] [(.int (5 : Int32))])) _
      refine st180 _ ?_
      refine XS.astoreN X180.here hx rfl (hb hby at_131) rfl rfl (l' := #[.val (.int p1), .val (.int (5 : Int32)), .val (.ref b4), .val (.ref a40)]) rfl ?_
      refine XS.aloadN X180.here hx rfl (hb hby at_132) rfl rfl ?_
      refine XS.aloadN X180.here hx rfl (hb hby at_133) rfl rfl ?_
      refine XS.iloadN X180.here hx rfl (hb hby at_134) rfl ?_
      refine X180.aaload hx (j := (5 : Int32)) (v := (.ref a40)) (by rw [u183]; exact Ar184.1) (State.isArrayOf_alike hZ.alike Ar184.2.1) rfl Ar184.2.2 hin184 hat184 (g := (mkF m 135 #[.val (.int p1), .val (.int (5 : Int32)), .val (.ref b4), .val (.ref a40)] [(.int (5 : Int32)), (.ref b4), (.ref a40)])) rfl rfl (hb hby at_135) _ ?_
      refine Jvm.RoadKit.acmp (g := (mkF m 136 #[.val (.int p1), .val (.int (5 : Int32)), .val (.ref b4), .val (.ref a40)] [(.ref a40), (.ref a40)])) X180 hx rfl rfl rfl (pc0 := 136) (pc' := 139) (same := true) rfl (hb hby at_136) rfl (decide_eq_true rfl) (by decide) (by decide) ?_
      refine XS.aloadN X180.here hx rfl (hb hby at_139) rfl rfl ?_
      refine st186.trans ?_
      show Steps p.tables e below (T186.setTop (mkF m 143 #[.val (.int p1), .val (.int (5 : Int32)), .val (.ref b4), .val (.ref a40)] [(.int (5 : Int32))])) _
      refine XS.iloadN X186.here hx rfl (hb hby at_143) rfl ?_
      refine XS.icmpNo X186.here hx rfl (hb hby at_144) rfl (teq (by decide +kernel : (5 : Int32) = (5 : Int32))).2 ?_
      refine XS.iconst X186.here hx rfl (hb hby at_147) ?_
      refine XS.goto X186.here hx rfl (pc0 := 148) (pc' := 152) rfl (hb hby at_148) (by decide) (by decide) ?_
      show Steps p.tables e below (T186.setTop (mkF m 152 #[.val (.int p1), .val (.int (5 : Int32)), .val (.ref b4), .val (.ref a40)] [(.int (1 : Int32))])) _
      exact retN X186 hx (t := .boolean) Bd.returns (by simp) (hb hby at_152) hr
    · show Q0 Z _ _ _ _ _ _ _ _ _ _ _ _ _ _ _ _ _ _ _ _ h0 n0 _ T186.heap _
      rw [u189]
      exact ⟨rfl, N186⟩
  · skip
    subst hq125
    obtain ⟨_, _, ⟨T190, L190, k190, n190⟩, -, X190, ⟨Lc190, hQ190, l190, y190, z190⟩, st190⟩ := Jvm.LawKit.callS X123 hx (y := M_0) hown (mvT hZ (hw _ (gw 39 rfl))) (mvT hZ (hw _ (gw 40 rfl))) (mvT hZ (hw _ (gw 4 rfl))) (mvT hZ (hw _ (gw 41 rfl))) (by decide) (backOf (W := 0) (rm1_20 l Z a0 hw [] a126 a5 a12 a19 a26 a33 a40 a47 a54 a61 a68 a75 a82 a89 a96 a103 a110 a117 k128 h123 n0  O123 S_127 V129) hZ (hw _ (gw 41 rfl)) (hw _ (gw 4 rfl)) (by decide) (by decide)) (g := (mkF m 128 #[.val (.int p1), .val (.int (6 : Int32)), .val (.ref b4), .unset] [(.int (6 : Int32))])) rfl (by rw [hml]; rfl) (argsL := [(.int (6 : Int32))]) (rest := []) (lenOf pd_0 rfl) rfl (by show 2 * 0 + _ ≤ _; exact Nat.le_of_eq rfl) (hb hby at_128) (fun _ _ => ⟨rfl, e123, (by decide : 1 + 0 ≤ _), (by decide : 17 + 0 ≤ _)⟩)
    dsimp only [Pt.U, Pt.locs, Pt.cells, Pt.slots] at X190 l190 y190 z190 st190 hQ190
    subst l190 y190 z190
    obtain ⟨rfl, u192, u193⟩ := hQ190
    have N190 := Fr.app N123 u192
    obtain ⟨cl194, Ar194, -, Sz194, -, Hh194, -⟩ := id V123
    have hin194 : ¬ ((6 : Int32) < 0 ∨ cl194.slots.size ≤ ((6 : Int32)).toNatClampNeg) := inb_of Sz194 ⟨by decide +kernel, by decide +kernel⟩
    have hat194 : cl194.slots[((6 : Int32)).toNatClampNeg]? = some (.ref a47) := Has.at Hh194 hin194 rfl
    obtain ⟨cq196, kq196, q196a, q196b, q196c⟩ := isOf hZ u193 (Exa.ext O123.2 E_52)
    obtain ⟨_, _, ⟨T196, L196, k196, n196⟩, -, X196, ⟨Lc196, hQ196, l196, y196, z196⟩, st196⟩ := X190.virtualBack hx (y := M_3) (z := M_3) hown (mvT hZ (hw _ (gw 44 rfl))) (mvT hZ (hw _ (gw 45 rfl))) (notFace_of_selects (args := #[]) (mvT hZ (hw _ (gw 47 rfl)))) (mvT hZ (hw _ (gw 47 rfl))) (mvT hZ (hw _ (gw 46 rfl))) (by decide) (backOf (W := 0) (rm2_21 l Z a0 hw [] a47 h123 n0  O123 E_52 F195) hZ (hw _ (gw 48 rfl)) (hw _ (gw 4 rfl)) (by decide) (by decide)) q196a q196c (g := (mkF m 140 #[.val (.int p1), .val (.int (6 : Int32)), .val (.ref b4), .val (.ref a47)] [(.ref a47)])) rfl (by rw [hml]; rfl) (Steps.refl _) (argsL := []) (rest := []) (lenOf pd_1 rfl) rfl (by show 2 * 0 + _ ≤ _; exact Nat.le_of_eq rfl) (hb hby at_140) (fun _ _ => ⟨rfl, u193, (by decide : 1 + 0 ≤ _), (by decide : 17 + 0 ≤ _)⟩)
    dsimp only [Pt.U, Pt.locs, Pt.cells, Pt.slots] at X196 l196 y196 z196 st196 hQ196
    subst l196 y196 z196
    obtain ⟨rfl, u198, u199⟩ := hQ196
    have N196 := Fr.app N190 u198
    obtain ⟨fs, hr, hrun, hended, hW, hsame⟩ := X196.leave (v := some (.int (1 : Int32))) (fun h => by rw [Bd.returns] at h; cases h)
    refine ⟨_, _, pre124 _ ?_, hrun, hended, _, _, rfl, ?_, ⟨_, rfl⟩, hW, hsame.mono (by decide) (by decide)⟩
    · show Steps p.tables e below (T123.setTop (mkF m 128 #[.val (.int p1), .val (.int (6 : Int32)), .val (.ref b4), .unset] [(.int (6 : Int32))])) _
      refine st190 _ ?_
      refine XS.astoreN X190.here hx rfl (hb hby at_131) rfl rfl (l' := #[.val (.int p1), .val (.int (6 : Int32)), .val (.ref b4), .val (.ref a47)]) rfl ?_
      refine XS.aloadN X190.here hx rfl (hb hby at_132) rfl rfl ?_
      refine XS.aloadN X190.here hx rfl (hb hby at_133) rfl rfl ?_
      refine XS.iloadN X190.here hx rfl (hb hby at_134) rfl ?_
      refine X190.aaload hx (j := (6 : Int32)) (v := (.ref a47)) (by rw [u193]; exact Ar194.1) (State.isArrayOf_alike hZ.alike Ar194.2.1) rfl Ar194.2.2 hin194 hat194 (g := (mkF m 135 #[.val (.int p1), .val (.int (6 : Int32)), .val (.ref b4), .val (.ref a47)] [(.int (6 : Int32)), (.ref b4), (.ref a47)])) rfl rfl (hb hby at_135) _ ?_
      refine Jvm.RoadKit.acmp (g := (mkF m 136 #[.val (.int p1), .val (.int (6 : Int32)), .val (.ref b4), .val (.ref a47)] [(.ref a47), (.ref a47)])) X190 hx rfl rfl rfl (pc0 := 136) (pc' := 139) (same := true) rfl (hb hby at_136) rfl (decide_eq_true rfl) (by decide) (by decide) ?_
      refine XS.aloadN X190.here hx rfl (hb hby at_139) rfl rfl ?_
      refine st196.trans ?_
      show Steps p.tables e below (T196.setTop (mkF m 143 #[.val (.int p1), .val (.int (6 : Int32)), .val (.ref b4), .val (.ref a47)] [(.int (6 : Int32))])) _
      refine XS.iloadN X196.here hx rfl (hb hby at_143) rfl ?_
      refine XS.icmpNo X196.here hx rfl (hb hby at_144) rfl (teq (by decide +kernel : (6 : Int32) = (6 : Int32))).2 ?_
      refine XS.iconst X196.here hx rfl (hb hby at_147) ?_
      refine XS.goto X196.here hx rfl (pc0 := 148) (pc' := 152) rfl (hb hby at_148) (by decide) (by decide) ?_
      show Steps p.tables e below (T196.setTop (mkF m 152 #[.val (.int p1), .val (.int (6 : Int32)), .val (.ref b4), .val (.ref a47)] [(.int (1 : Int32))])) _
      exact retN X196 hx (t := .boolean) Bd.returns (by simp) (hb hby at_152) hr
    · show Q0 Z _ _ _ _ _ _ _ _ _ _ _ _ _ _ _ _ _ _ _ _ h0 n0 _ T196.heap _
      rw [u199]
      exact ⟨rfl, N196⟩
  · skip
    subst hq125
    obtain ⟨_, _, ⟨T200, L200, k200, n200⟩, -, X200, ⟨Lc200, hQ200, l200, y200, z200⟩, st200⟩ := Jvm.LawKit.callS X123 hx (y := M_0) hown (mvT hZ (hw _ (gw 39 rfl))) (mvT hZ (hw _ (gw 40 rfl))) (mvT hZ (hw _ (gw 4 rfl))) (mvT hZ (hw _ (gw 41 rfl))) (by decide) (backOf (W := 0) (rm1_23 l Z a0 hw [] a126 a5 a12 a19 a26 a33 a40 a47 a54 a61 a68 a75 a82 a89 a96 a103 a110 a117 k128 h123 n0  O123 S_127 V129) hZ (hw _ (gw 41 rfl)) (hw _ (gw 4 rfl)) (by decide) (by decide)) (g := (mkF m 128 #[.val (.int p1), .val (.int (7 : Int32)), .val (.ref b4), .unset] [(.int (7 : Int32))])) rfl (by rw [hml]; rfl) (argsL := [(.int (7 : Int32))]) (rest := []) (lenOf pd_0 rfl) rfl (by show 2 * 0 + _ ≤ _; exact Nat.le_of_eq rfl) (hb hby at_128) (fun _ _ => ⟨rfl, e123, (by decide : 1 + 0 ≤ _), (by decide : 17 + 0 ≤ _)⟩)
    dsimp only [Pt.U, Pt.locs, Pt.cells, Pt.slots] at X200 l200 y200 z200 st200 hQ200
    subst l200 y200 z200
    obtain ⟨rfl, u202, u203⟩ := hQ200
    have N200 := Fr.app N123 u202
    obtain ⟨cl204, Ar204, -, Sz204, -, Hh204, -⟩ := id V123
    have hin204 : ¬ ((7 : Int32) < 0 ∨ cl204.slots.size ≤ ((7 : Int32)).toNatClampNeg) := inb_of Sz204 ⟨by decide +kernel, by decide +kernel⟩
    have hat204 : cl204.slots[((7 : Int32)).toNatClampNeg]? = some (.ref a54) := Has.at Hh204 hin204 rfl
    obtain ⟨cq206, kq206, q206a, q206b, q206c⟩ := isOf hZ u203 (Exa.ext O123.2 E_59)
    obtain ⟨_, _, ⟨T206, L206, k206, n206⟩, -, X206, ⟨Lc206, hQ206, l206, y206, z206⟩, st206⟩ := X200.virtualBack hx (y := M_3) (z := M_3) hown (mvT hZ (hw _ (gw 44 rfl))) (mvT hZ (hw _ (gw 45 rfl))) (notFace_of_selects (args := #[]) (mvT hZ (hw _ (gw 47 rfl)))) (mvT hZ (hw _ (gw 47 rfl))) (mvT hZ (hw _ (gw 46 rfl))) (by decide) (backOf (W := 0) (rm2_24 l Z a0 hw [] a54 h123 n0  O123 E_59 F205) hZ (hw _ (gw 48 rfl)) (hw _ (gw 4 rfl)) (by decide) (by decide)) q206a q206c (g := (mkF m 140 #[.val (.int p1), .val (.int (7 : Int32)), .val (.ref b4), .val (.ref a54)] [(.ref a54)])) rfl (by rw [hml]; rfl) (Steps.refl _) (argsL := []) (rest := []) (lenOf pd_1 rfl) rfl (by show 2 * 0 + _ ≤ _; exact Nat.le_of_eq rfl) (hb hby at_140) (fun _ _ => ⟨rfl, u203, (by decide : 1 + 0 ≤ _), (by decide : 17 + 0 ≤ _)⟩)
    dsimp only [Pt.U, Pt.locs, Pt.cells, Pt.slots] at X206 l206 y206 z206 st206 hQ206
    subst l206 y206 z206
    obtain ⟨rfl, u208, u209⟩ := hQ206
    have N206 := Fr.app N200 u208
    obtain ⟨fs, hr, hrun, hended, hW, hsame⟩ := X206.leave (v := some (.int (1 : Int32))) (fun h => by rw [Bd.returns] at h; cases h)
    refine ⟨_, _, pre124 _ ?_, hrun, hended, _, _, rfl, ?_, ⟨_, rfl⟩, hW, hsame.mono (by decide) (by decide)⟩
    · show Steps p.tables e below (T123.setTop (mkF m 128 #[.val (.int p1), .val (.int (7 : Int32)), .val (.ref b4), .unset] [(.int (7 : Int32))])) _
      refine st200 _ ?_
      refine XS.astoreN X200.here hx rfl (hb hby at_131) rfl rfl (l' := #[.val (.int p1), .val (.int (7 : Int32)), .val (.ref b4), .val (.ref a54)]) rfl ?_
      refine XS.aloadN X200.here hx rfl (hb hby at_132) rfl rfl ?_
      refine XS.aloadN X200.here hx rfl (hb hby at_133) rfl rfl ?_
      refine XS.iloadN X200.here hx rfl (hb hby at_134) rfl ?_
      refine X200.aaload hx (j := (7 : Int32)) (v := (.ref a54)) (by rw [u203]; exact Ar204.1) (State.isArrayOf_alike hZ.alike Ar204.2.1) rfl Ar204.2.2 hin204 hat204 (g := (mkF m 135 #[.val (.int p1), .val (.int (7 : Int32)), .val (.ref b4), .val (.ref a54)] [(.int (7 : Int32)), (.ref b4), (.ref a54)])) rfl rfl (hb hby at_135) _ ?_
      refine Jvm.RoadKit.acmp (g := (mkF m 136 #[.val (.int p1), .val (.int (7 : Int32)), .val (.ref b4), .val (.ref a54)] [(.ref a54), (.ref a54)])) X200 hx rfl rfl rfl (pc0 := 136) (pc' := 139) (same := true) rfl (hb hby at_136) rfl (decide_eq_true rfl) (by decide) (by decide) ?_
      refine XS.aloadN X200.here hx rfl (hb hby at_139) rfl rfl ?_
      refine st206.trans ?_
      show Steps p.tables e below (T206.setTop (mkF m 143 #[.val (.int p1), .val (.int (7 : Int32)), .val (.ref b4), .val (.ref a54)] [(.int (7 : Int32))])) _
      refine XS.iloadN X206.here hx rfl (hb hby at_143) rfl ?_
      refine XS.icmpNo X206.here hx rfl (hb hby at_144) rfl (teq (by decide +kernel : (7 : Int32) = (7 : Int32))).2 ?_
      refine XS.iconst X206.here hx rfl (hb hby at_147) ?_
      refine XS.goto X206.here hx rfl (pc0 := 148) (pc' := 152) rfl (hb hby at_148) (by decide) (by decide) ?_
      show Steps p.tables e below (T206.setTop (mkF m 152 #[.val (.int p1), .val (.int (7 : Int32)), .val (.ref b4), .val (.ref a54)] [(.int (1 : Int32))])) _
      exact retN X206 hx (t := .boolean) Bd.returns (by simp) (hb hby at_152) hr
    · show Q0 Z _ _ _ _ _ _ _ _ _ _ _ _ _ _ _ _ _ _ _ _ h0 n0 _ T206.heap _
      rw [u209]
      exact ⟨rfl, N206⟩
  · skip
    subst hq125
    obtain ⟨_, _, ⟨T210, L210, k210, n210⟩, -, X210, ⟨Lc210, hQ210, l210, y210, z210⟩, st210⟩ := Jvm.LawKit.callS X123 hx (y := M_0) hown (mvT hZ (hw _ (gw 39 rfl))) (mvT hZ (hw _ (gw 40 rfl))) (mvT hZ (hw _ (gw 4 rfl))) (mvT hZ (hw _ (gw 41 rfl))) (by decide) (backOf (W := 0) (rm1_26 l Z a0 hw [] a126 a5 a12 a19 a26 a33 a40 a47 a54 a61 a68 a75 a82 a89 a96 a103 a110 a117 k128 h123 n0  O123 S_127 V129) hZ (hw _ (gw 41 rfl)) (hw _ (gw 4 rfl)) (by decide) (by decide)) (g := (mkF m 128 #[.val (.int p1), .val (.int (8 : Int32)), .val (.ref b4), .unset] [(.int (8 : Int32))])) rfl (by rw [hml]; rfl) (argsL := [(.int (8 : Int32))]) (rest := []) (lenOf pd_0 rfl) rfl (by show 2 * 0 + _ ≤ _; exact Nat.le_of_eq rfl) (hb hby at_128) (fun _ _ => ⟨rfl, e123, (by decide : 1 + 0 ≤ _), (by decide : 17 + 0 ≤ _)⟩)
    dsimp only [Pt.U, Pt.locs, Pt.cells, Pt.slots] at X210 l210 y210 z210 st210 hQ210
    subst l210 y210 z210
    obtain ⟨rfl, u212, u213⟩ := hQ210
    have N210 := Fr.app N123 u212
    obtain ⟨cl214, Ar214, -, Sz214, -, Hh214, -⟩ := id V123
    have hin214 : ¬ ((8 : Int32) < 0 ∨ cl214.slots.size ≤ ((8 : Int32)).toNatClampNeg) := inb_of Sz214 ⟨by decide +kernel, by decide +kernel⟩
    have hat214 : cl214.slots[((8 : Int32)).toNatClampNeg]? = some (.ref a61) := Has.at Hh214 hin214 rfl
    obtain ⟨cq216, kq216, q216a, q216b, q216c⟩ := isOf hZ u213 (Exa.ext O123.2 E_66)
    obtain ⟨_, _, ⟨T216, L216, k216, n216⟩, -, X216, ⟨Lc216, hQ216, l216, y216, z216⟩, st216⟩ := X210.virtualBack hx (y := M_3) (z := M_3) hown (mvT hZ (hw _ (gw 44 rfl))) (mvT hZ (hw _ (gw 45 rfl))) (notFace_of_selects (args := #[]) (mvT hZ (hw _ (gw 47 rfl)))) (mvT hZ (hw _ (gw 47 rfl))) (mvT hZ (hw _ (gw 46 rfl))) (by decide) (backOf (W := 0) (rm2_27 l Z a0 hw [] a61 h123 n0  O123 E_66 F215) hZ (hw _ (gw 48 rfl)) (hw _ (gw 4 rfl)) (by decide) (by decide)) q216a q216c (g := (mkF m 140 #[.val (.int p1), .val (.int (8 : Int32)), .val (.ref b4), .val (.ref a61)] [(.ref a61)])) rfl (by rw [hml]; rfl) (Steps.refl _) (argsL := []) (rest := []) (lenOf pd_1 rfl) rfl (by show 2 * 0 + _ ≤ _; exact Nat.le_of_eq rfl) (hb hby at_140) (fun _ _ => ⟨rfl, u213, (by decide : 1 + 0 ≤ _), (by decide : 17 + 0 ≤ _)⟩)
    dsimp only [Pt.U, Pt.locs, Pt.cells, Pt.slots] at X216 l216 y216 z216 st216 hQ216
    subst l216 y216 z216
    obtain ⟨rfl, u218, u219⟩ := hQ216
    have N216 := Fr.app N210 u218
    obtain ⟨fs, hr, hrun, hended, hW, hsame⟩ := X216.leave (v := some (.int (1 : Int32))) (fun h => by rw [Bd.returns] at h; cases h)
    refine ⟨_, _, pre124 _ ?_, hrun, hended, _, _, rfl, ?_, ⟨_, rfl⟩, hW, hsame.mono (by decide) (by decide)⟩
    · show Steps p.tables e below (T123.setTop (mkF m 128 #[.val (.int p1), .val (.int (8 : Int32)), .val (.ref b4), .unset] [(.int (8 : Int32))])) _
      refine st210 _ ?_
      refine XS.astoreN X210.here hx rfl (hb hby at_131) rfl rfl (l' := #[.val (.int p1), .val (.int (8 : Int32)), .val (.ref b4), .val (.ref a61)]) rfl ?_
      refine XS.aloadN X210.here hx rfl (hb hby at_132) rfl rfl ?_
      refine XS.aloadN X210.here hx rfl (hb hby at_133) rfl rfl ?_
      refine XS.iloadN X210.here hx rfl (hb hby at_134) rfl ?_
      refine X210.aaload hx (j := (8 : Int32)) (v := (.ref a61)) (by rw [u213]; exact Ar214.1) (State.isArrayOf_alike hZ.alike Ar214.2.1) rfl Ar214.2.2 hin214 hat214 (g := (mkF m 135 #[.val (.int p1), .val (.int (8 : Int32)), .val (.ref b4), .val (.ref a61)] [(.int (8 : Int32)), (.ref b4), (.ref a61)])) rfl rfl (hb hby at_135) _ ?_
      refine Jvm.RoadKit.acmp (g := (mkF m 136 #[.val (.int p1), .val (.int (8 : Int32)), .val (.ref b4), .val (.ref a61)] [(.ref a61), (.ref a61)])) X210 hx rfl rfl rfl (pc0 := 136) (pc' := 139) (same := true) rfl (hb hby at_136) rfl (decide_eq_true rfl) (by decide) (by decide) ?_
      refine XS.aloadN X210.here hx rfl (hb hby at_139) rfl rfl ?_
      refine st216.trans ?_
      show Steps p.tables e below (T216.setTop (mkF m 143 #[.val (.int p1), .val (.int (8 : Int32)), .val (.ref b4), .val (.ref a61)] [(.int (8 : Int32))])) _
      refine XS.iloadN X216.here hx rfl (hb hby at_143) rfl ?_
      refine XS.icmpNo X216.here hx rfl (hb hby at_144) rfl (teq (by decide +kernel : (8 : Int32) = (8 : Int32))).2 ?_
      refine XS.iconst X216.here hx rfl (hb hby at_147) ?_
      refine XS.goto X216.here hx rfl (pc0 := 148) (pc' := 152) rfl (hb hby at_148) (by decide) (by decide) ?_
      show Steps p.tables e below (T216.setTop (mkF m 152 #[.val (.int p1), .val (.int (8 : Int32)), .val (.ref b4), .val (.ref a61)] [(.int (1 : Int32))])) _
      exact retN X216 hx (t := .boolean) Bd.returns (by simp) (hb hby at_152) hr
    · show Q0 Z _ _ _ _ _ _ _ _ _ _ _ _ _ _ _ _ _ _ _ _ h0 n0 _ T216.heap _
      rw [u219]
      exact ⟨rfl, N216⟩
  · skip
    subst hq125
    obtain ⟨_, _, ⟨T220, L220, k220, n220⟩, -, X220, ⟨Lc220, hQ220, l220, y220, z220⟩, st220⟩ := Jvm.LawKit.callS X123 hx (y := M_0) hown (mvT hZ (hw _ (gw 39 rfl))) (mvT hZ (hw _ (gw 40 rfl))) (mvT hZ (hw _ (gw 4 rfl))) (mvT hZ (hw _ (gw 41 rfl))) (by decide) (backOf (W := 0) (rm1_29 l Z a0 hw [] a126 a5 a12 a19 a26 a33 a40 a47 a54 a61 a68 a75 a82 a89 a96 a103 a110 a117 k128 h123 n0  O123 S_127 V129) hZ (hw _ (gw 41 rfl)) (hw _ (gw 4 rfl)) (by decide) (by decide)) (g := (mkF m 128 #[.val (.int p1), .val (.int (9 : Int32)), .val (.ref b4), .unset] [(.int (9 : Int32))])) rfl (by rw [hml]; rfl) (argsL := [(.int (9 : Int32))]) (rest := []) (lenOf pd_0 rfl) rfl (by show 2 * 0 + _ ≤ _; exact Nat.le_of_eq rfl) (hb hby at_128) (fun _ _ => ⟨rfl, e123, (by decide : 1 + 0 ≤ _), (by decide : 17 + 0 ≤ _)⟩)
    dsimp only [Pt.U, Pt.locs, Pt.cells, Pt.slots] at X220 l220 y220 z220 st220 hQ220
    subst l220 y220 z220
    obtain ⟨rfl, u222, u223⟩ := hQ220
    have N220 := Fr.app N123 u222
    obtain ⟨cl224, Ar224, -, Sz224, -, Hh224, -⟩ := id V123
    have hin224 : ¬ ((9 : Int32) < 0 ∨ cl224.slots.size ≤ ((9 : Int32)).toNatClampNeg) := inb_of Sz224 ⟨by decide +kernel, by decide +kernel⟩
    have hat224 : cl224.slots[((9 : Int32)).toNatClampNeg]? = some (.ref a68) := Has.at Hh224 hin224 rfl
    obtain ⟨cq226, kq226, q226a, q226b, q226c⟩ := isOf hZ u223 (Exa.ext O123.2 E_73)
    obtain ⟨_, _, ⟨T226, L226, k226, n226⟩, -, X226, ⟨Lc226, hQ226, l226, y226, z226⟩, st226⟩ := X220.virtualBack hx (y := M_3) (z := M_3) hown (mvT hZ (hw _ (gw 44 rfl))) (mvT hZ (hw _ (gw 45 rfl))) (notFace_of_selects (args := #[]) (mvT hZ (hw _ (gw 47 rfl)))) (mvT hZ (hw _ (gw 47 rfl))) (mvT hZ (hw _ (gw 46 rfl))) (by decide) (backOf (W := 0) (rm2_30 l Z a0 hw [] a68 h123 n0  O123 E_73 F225) hZ (hw _ (gw 48 rfl)) (hw _ (gw 4 rfl)) (by decide) (by decide)) q226a q226c (g := (mkF m 140 #[.val (.int p1), .val (.int (9 : Int32)), .val (.ref b4), .val (.ref a68)] [(.ref a68)])) rfl (by rw [hml]; rfl) (Steps.refl _) (argsL := []) (rest := []) (lenOf pd_1 rfl) rfl (by show 2 * 0 + _ ≤ _; exact Nat.le_of_eq rfl) (hb hby at_140) (fun _ _ => ⟨rfl, u223, (by decide : 1 + 0 ≤ _), (by decide : 17 + 0 ≤ _)⟩)
    dsimp only [Pt.U, Pt.locs, Pt.cells, Pt.slots] at X226 l226 y226 z226 st226 hQ226
    subst l226 y226 z226
    obtain ⟨rfl, u228, u229⟩ := hQ226
    have N226 := Fr.app N220 u228
    obtain ⟨fs, hr, hrun, hended, hW, hsame⟩ := X226.leave (v := some (.int (1 : Int32))) (fun h => by rw [Bd.returns] at h; cases h)
    refine ⟨_, _, pre124 _ ?_, hrun, hended, _, _, rfl, ?_, ⟨_, rfl⟩, hW, hsame.mono (by decide) (by decide)⟩
    · show Steps p.tables e below (T123.setTop (mkF m 128 #[.val (.int p1), .val (.int (9 : Int32)), .val (.ref b4), .unset] [(.int (9 : Int32))])) _
      refine st220 _ ?_
      refine XS.astoreN X220.here hx rfl (hb hby at_131) rfl rfl (l' := #[.val (.int p1), .val (.int (9 : Int32)), .val (.ref b4), .val (.ref a68)]) rfl ?_
      refine XS.aloadN X220.here hx rfl (hb hby at_132) rfl rfl ?_
      refine XS.aloadN X220.here hx rfl (hb hby at_133) rfl rfl ?_
      refine XS.iloadN X220.here hx rfl (hb hby at_134) rfl ?_
      refine X220.aaload hx (j := (9 : Int32)) (v := (.ref a68)) (by rw [u223]; exact Ar224.1) (State.isArrayOf_alike hZ.alike Ar224.2.1) rfl Ar224.2.2 hin224 hat224 (g := (mkF m 135 #[.val (.int p1), .val (.int (9 : Int32)), .val (.ref b4), .val (.ref a68)] [(.int (9 : Int32)), (.ref b4), (.ref a68)])) rfl rfl (hb hby at_135) _ ?_
      refine Jvm.RoadKit.acmp (g := (mkF m 136 #[.val (.int p1), .val (.int (9 : Int32)), .val (.ref b4), .val (.ref a68)] [(.ref a68), (.ref a68)])) X220 hx rfl rfl rfl (pc0 := 136) (pc' := 139) (same := true) rfl (hb hby at_136) rfl (decide_eq_true rfl) (by decide) (by decide) ?_
      refine XS.aloadN X220.here hx rfl (hb hby at_139) rfl rfl ?_
      refine st226.trans ?_
      show Steps p.tables e below (T226.setTop (mkF m 143 #[.val (.int p1), .val (.int (9 : Int32)), .val (.ref b4), .val (.ref a68)] [(.int (9 : Int32))])) _
      refine XS.iloadN X226.here hx rfl (hb hby at_143) rfl ?_
      refine XS.icmpNo X226.here hx rfl (hb hby at_144) rfl (teq (by decide +kernel : (9 : Int32) = (9 : Int32))).2 ?_
      refine XS.iconst X226.here hx rfl (hb hby at_147) ?_
      refine XS.goto X226.here hx rfl (pc0 := 148) (pc' := 152) rfl (hb hby at_148) (by decide) (by decide) ?_
      show Steps p.tables e below (T226.setTop (mkF m 152 #[.val (.int p1), .val (.int (9 : Int32)), .val (.ref b4), .val (.ref a68)] [(.int (1 : Int32))])) _
      exact retN X226 hx (t := .boolean) Bd.returns (by simp) (hb hby at_152) hr
    · show Q0 Z _ _ _ _ _ _ _ _ _ _ _ _ _ _ _ _ _ _ _ _ h0 n0 _ T226.heap _
      rw [u229]
      exact ⟨rfl, N226⟩
  · skip
    subst hq125
    obtain ⟨_, _, ⟨T230, L230, k230, n230⟩, -, X230, ⟨Lc230, hQ230, l230, y230, z230⟩, st230⟩ := Jvm.LawKit.callS X123 hx (y := M_0) hown (mvT hZ (hw _ (gw 39 rfl))) (mvT hZ (hw _ (gw 40 rfl))) (mvT hZ (hw _ (gw 4 rfl))) (mvT hZ (hw _ (gw 41 rfl))) (by decide) (backOf (W := 0) (rm1_32 l Z a0 hw [] a126 a5 a12 a19 a26 a33 a40 a47 a54 a61 a68 a75 a82 a89 a96 a103 a110 a117 k128 h123 n0  O123 S_127 V129) hZ (hw _ (gw 41 rfl)) (hw _ (gw 4 rfl)) (by decide) (by decide)) (g := (mkF m 128 #[.val (.int p1), .val (.int (10 : Int32)), .val (.ref b4), .unset] [(.int (10 : Int32))])) rfl (by rw [hml]; rfl) (argsL := [(.int (10 : Int32))]) (rest := []) (lenOf pd_0 rfl) rfl (by show 2 * 0 + _ ≤ _; exact Nat.le_of_eq rfl) (hb hby at_128) (fun _ _ => ⟨rfl, e123, (by decide : 1 + 0 ≤ _), (by decide : 17 + 0 ≤ _)⟩)
    dsimp only [Pt.U, Pt.locs, Pt.cells, Pt.slots] at X230 l230 y230 z230 st230 hQ230
    subst l230 y230 z230
    obtain ⟨rfl, u232, u233⟩ := hQ230
    have N230 := Fr.app N123 u232
    obtain ⟨cl234, Ar234, -, Sz234, -, Hh234, -⟩ := id V123
    have hin234 : ¬ ((10 : Int32) < 0 ∨ cl234.slots.size ≤ ((10 : Int32)).toNatClampNeg) := inb_of Sz234 ⟨by decide +kernel, by decide +kernel⟩
    have hat234 : cl234.slots[((10 : Int32)).toNatClampNeg]? = some (.ref a75) := Has.at Hh234 hin234 rfl
    obtain ⟨cq236, kq236, q236a, q236b, q236c⟩ := isOf hZ u233 (Exa.ext O123.2 E_80)
    obtain ⟨_, _, ⟨T236, L236, k236, n236⟩, -, X236, ⟨Lc236, hQ236, l236, y236, z236⟩, st236⟩ := X230.virtualBack hx (y := M_3) (z := M_3) hown (mvT hZ (hw _ (gw 44 rfl))) (mvT hZ (hw _ (gw 45 rfl))) (notFace_of_selects (args := #[]) (mvT hZ (hw _ (gw 47 rfl)))) (mvT hZ (hw _ (gw 47 rfl))) (mvT hZ (hw _ (gw 46 rfl))) (by decide) (backOf (W := 0) (rm2_33 l Z a0 hw [] a75 h123 n0  O123 E_80 F235) hZ (hw _ (gw 48 rfl)) (hw _ (gw 4 rfl)) (by decide) (by decide)) q236a q236c (g := (mkF m 140 #[.val (.int p1), .val (.int (10 : Int32)), .val (.ref b4), .val (.ref a75)] [(.ref a75)])) rfl (by rw [hml]; rfl) (Steps.refl _) (argsL := []) (rest := []) (lenOf pd_1 rfl) rfl (by show 2 * 0 + _ ≤ _; exact Nat.le_of_eq rfl) (hb hby at_140) (fun _ _ => ⟨rfl, u233, (by decide : 1 + 0 ≤ _), (by decide : 17 + 0 ≤ _)⟩)
    dsimp only [Pt.U, Pt.locs, Pt.cells, Pt.slots] at X236 l236 y236 z236 st236 hQ236
    subst l236 y236 z236
    obtain ⟨rfl, u238, u239⟩ := hQ236
    have N236 := Fr.app N230 u238
    obtain ⟨fs, hr, hrun, hended, hW, hsame⟩ := X236.leave (v := some (.int (1 : Int32))) (fun h => by rw [Bd.returns] at h; cases h)
    refine ⟨_, _, pre124 _ ?_, hrun, hended, _, _, rfl, ?_, ⟨_, rfl⟩, hW, hsame.mono (by decide) (by decide)⟩
    · show Steps p.tables e below (T123.setTop (mkF m 128 #[.val (.int p1), .val (.int (10 : Int32)), .val (.ref b4), .unset] [(.int (10 : Int32))])) _
      refine st230 _ ?_
      refine XS.astoreN X230.here hx rfl (hb hby at_131) rfl rfl (l' := #[.val (.int p1), .val (.int (10 : Int32)), .val (.ref b4), .val (.ref a75)]) rfl ?_
      refine XS.aloadN X230.here hx rfl (hb hby at_132) rfl rfl ?_
      refine XS.aloadN X230.here hx rfl (hb hby at_133) rfl rfl ?_
      refine XS.iloadN X230.here hx rfl (hb hby at_134) rfl ?_
      refine X230.aaload hx (j := (10 : Int32)) (v := (.ref a75)) (by rw [u233]; exact Ar234.1) (State.isArrayOf_alike hZ.alike Ar234.2.1) rfl Ar234.2.2 hin234 hat234 (g := (mkF m 135 #[.val (.int p1), .val (.int (10 : Int32)), .val (.ref b4), .val (.ref a75)] [(.int (10 : Int32)), (.ref b4), (.ref a75)])) rfl rfl (hb hby at_135) _ ?_
      refine Jvm.RoadKit.acmp (g := (mkF m 136 #[.val (.int p1), .val (.int (10 : Int32)), .val (.ref b4), .val (.ref a75)] [(.ref a75), (.ref a75)])) X230 hx rfl rfl rfl (pc0 := 136) (pc' := 139) (same := true) rfl (hb hby at_136) rfl (decide_eq_true rfl) (by decide) (by decide) ?_
      refine XS.aloadN X230.here hx rfl (hb hby at_139) rfl rfl ?_
      refine st236.trans ?_
      show Steps p.tables e below (T236.setTop (mkF m 143 #[.val (.int p1), .val (.int (10 : Int32)), .val (.ref b4), .val (.ref a75)] [(.int (10 : Int32))])) _
      refine XS.iloadN X236.here hx rfl (hb hby at_143) rfl ?_
      refine XS.icmpNo X236.here hx rfl (hb hby at_144) rfl (teq (by decide +kernel : (10 : Int32) = (10 : Int32))).2 ?_
      refine XS.iconst X236.here hx rfl (hb hby at_147) ?_
      refine XS.goto X236.here hx rfl (pc0 := 148) (pc' := 152) rfl (hb hby at_148) (by decide) (by decide) ?_
      show Steps p.tables e below (T236.setTop (mkF m 152 #[.val (.int p1), .val (.int (10 : Int32)), .val (.ref b4), .val (.ref a75)] [(.int (1 : Int32))])) _
      exact retN X236 hx (t := .boolean) Bd.returns (by simp) (hb hby at_152) hr
    · show Q0 Z _ _ _ _ _ _ _ _ _ _ _ _ _ _ _ _ _ _ _ _ h0 n0 _ T236.heap _
      rw [u239]
      exact ⟨rfl, N236⟩
  · skip
    subst hq125
    obtain ⟨_, _, ⟨T240, L240, k240, n240⟩, -, X240, ⟨Lc240, hQ240, l240, y240, z240⟩, st240⟩ := Jvm.LawKit.callS X123 hx (y := M_0) hown (mvT hZ (hw _ (gw 39 rfl))) (mvT hZ (hw _ (gw 40 rfl))) (mvT hZ (hw _ (gw 4 rfl))) (mvT hZ (hw _ (gw 41 rfl))) (by decide) (backOf (W := 0) (rm1_35 l Z a0 hw [] a126 a5 a12 a19 a26 a33 a40 a47 a54 a61 a68 a75 a82 a89 a96 a103 a110 a117 k128 h123 n0  O123 S_127 V129) hZ (hw _ (gw 41 rfl)) (hw _ (gw 4 rfl)) (by decide) (by decide)) (g := (mkF m 128 #[.val (.int p1), .val (.int (11 : Int32)), .val (.ref b4), .unset] [(.int (11 : Int32))])) rfl (by rw [hml]; rfl) (argsL := [(.int (11 : Int32))]) (rest := []) (lenOf pd_0 rfl) rfl (by show 2 * 0 + _ ≤ _; exact Nat.le_of_eq rfl) (hb hby at_128) (fun _ _ => ⟨rfl, e123, (by decide : 1 + 0 ≤ _), (by decide : 17 + 0 ≤ _)⟩)
    dsimp only [Pt.U, Pt.locs, Pt.cells, Pt.slots] at X240 l240 y240 z240 st240 hQ240
    subst l240 y240 z240
    obtain ⟨rfl, u242, u243⟩ := hQ240
    have N240 := Fr.app N123 u242
    obtain ⟨cl244, Ar244, -, Sz244, -, Hh244, -⟩ := id V123
    have hin244 : ¬ ((11 : Int32) < 0 ∨ cl244.slots.size ≤ ((11 : Int32)).toNatClampNeg) := inb_of Sz244 ⟨by decide +kernel, by decide +kernel⟩
    have hat244 : cl244.slots[((11 : Int32)).toNatClampNeg]? = some (.ref a82) := Has.at Hh244 hin244 rfl
    obtain ⟨cq246, kq246, q246a, q246b, q246c⟩ := isOf hZ u243 (Exa.ext O123.2 E_87)
    obtain ⟨_, _, ⟨T246, L246, k246, n246⟩, -, X246, ⟨Lc246, hQ246, l246, y246, z246⟩, st246⟩ := X240.virtualBack hx (y := M_3) (z := M_3) hown (mvT hZ (hw _ (gw 44 rfl))) (mvT hZ (hw _ (gw 45 rfl))) (notFace_of_selects (args := #[]) (mvT hZ (hw _ (gw 47 rfl)))) (mvT hZ (hw _ (gw 47 rfl))) (mvT hZ (hw _ (gw 46 rfl))) (by decide) (backOf (W := 0) (rm2_36 l Z a0 hw [] a82 h123 n0  O123 E_87 F245) hZ (hw _ (gw 48 rfl)) (hw _ (gw 4 rfl)) (by decide) (by decide)) q246a q246c (g := (mkF m 140 #[.val (.int p1), .val (.int (11 : Int32)), .val (.ref b4), .val (.ref a82)] [(.ref a82)])) rfl (by rw [hml]; rfl) (Steps.refl _) (argsL := []) (rest := []) (lenOf pd_1 rfl) rfl (by show 2 * 0 + _ ≤ _; exact Nat.le_of_eq rfl) (hb hby at_140) (fun _ _ => ⟨rfl, u243, (by decide : 1 + 0 ≤ _), (by decide : 17 + 0 ≤ _)⟩)
    dsimp only [Pt.U, Pt.locs, Pt.cells, Pt.slots] at X246 l246 y246 z246 st246 hQ246
    subst l246 y246 z246
    obtain ⟨rfl, u248, u249⟩ := hQ246
    have N246 := Fr.app N240 u248
    obtain ⟨fs, hr, hrun, hended, hW, hsame⟩ := X246.leave (v := some (.int (1 : Int32))) (fun h => by rw [Bd.returns] at h; cases h)
    refine ⟨_, _, pre124 _ ?_, hrun, hended, _, _, rfl, ?_, ⟨_, rfl⟩, hW, hsame.mono (by decide) (by decide)⟩
    · show Steps p.tables e below (T123.setTop (mkF m 128 #[.val (.int p1), .val (.int (11 : Int32)), .val (.ref b4), .unset] [(.int (11 : Int32))])) _
      refine st240 _ ?_
      refine XS.astoreN X240.here hx rfl (hb hby at_131) rfl rfl (l' := #[.val (.int p1), .val (.int (11 : Int32)), .val (.ref b4), .val (.ref a82)]) rfl ?_
      refine XS.aloadN X240.here hx rfl (hb hby at_132) rfl rfl ?_
      refine XS.aloadN X240.here hx rfl (hb hby at_133) rfl rfl ?_
      refine XS.iloadN X240.here hx rfl (hb hby at_134) rfl ?_
      refine X240.aaload hx (j := (11 : Int32)) (v := (.ref a82)) (by rw [u243]; exact Ar244.1) (State.isArrayOf_alike hZ.alike Ar244.2.1) rfl Ar244.2.2 hin244 hat244 (g := (mkF m 135 #[.val (.int p1), .val (.int (11 : Int32)), .val (.ref b4), .val (.ref a82)] [(.int (11 : Int32)), (.ref b4), (.ref a82)])) rfl rfl (hb hby at_135) _ ?_
      refine Jvm.RoadKit.acmp (g := (mkF m 136 #[.val (.int p1), .val (.int (11 : Int32)), .val (.ref b4), .val (.ref a82)] [(.ref a82), (.ref a82)])) X240 hx rfl rfl rfl (pc0 := 136) (pc' := 139) (same := true) rfl (hb hby at_136) rfl (decide_eq_true rfl) (by decide) (by decide) ?_
      refine XS.aloadN X240.here hx rfl (hb hby at_139) rfl rfl ?_
      refine st246.trans ?_
      show Steps p.tables e below (T246.setTop (mkF m 143 #[.val (.int p1), .val (.int (11 : Int32)), .val (.ref b4), .val (.ref a82)] [(.int (11 : Int32))])) _
      refine XS.iloadN X246.here hx rfl (hb hby at_143) rfl ?_
      refine XS.icmpNo X246.here hx rfl (hb hby at_144) rfl (teq (by decide +kernel : (11 : Int32) = (11 : Int32))).2 ?_
      refine XS.iconst X246.here hx rfl (hb hby at_147) ?_
      refine XS.goto X246.here hx rfl (pc0 := 148) (pc' := 152) rfl (hb hby at_148) (by decide) (by decide) ?_
      show Steps p.tables e below (T246.setTop (mkF m 152 #[.val (.int p1), .val (.int (11 : Int32)), .val (.ref b4), .val (.ref a82)] [(.int (1 : Int32))])) _
      exact retN X246 hx (t := .boolean) Bd.returns (by simp) (hb hby at_152) hr
    · show Q0 Z _ _ _ _ _ _ _ _ _ _ _ _ _ _ _ _ _ _ _ _ h0 n0 _ T246.heap _
      rw [u249]
      exact ⟨rfl, N246⟩
  · skip
    subst hq125
    obtain ⟨_, _, ⟨T250, L250, k250, n250⟩, -, X250, ⟨Lc250, hQ250, l250, y250, z250⟩, st250⟩ := Jvm.LawKit.callS X123 hx (y := M_0) hown (mvT hZ (hw _ (gw 39 rfl))) (mvT hZ (hw _ (gw 40 rfl))) (mvT hZ (hw _ (gw 4 rfl))) (mvT hZ (hw _ (gw 41 rfl))) (by decide) (backOf (W := 0) (rm1_38 l Z a0 hw [] a126 a5 a12 a19 a26 a33 a40 a47 a54 a61 a68 a75 a82 a89 a96 a103 a110 a117 k128 h123 n0  O123 S_127 V129) hZ (hw _ (gw 41 rfl)) (hw _ (gw 4 rfl)) (by decide) (by decide)) (g := (mkF m 128 #[.val (.int p1), .val (.int (12 : Int32)), .val (.ref b4), .unset] [(.int (12 : Int32))])) rfl (by rw [hml]; rfl) (argsL := [(.int (12 : Int32))]) (rest := []) (lenOf pd_0 rfl) rfl (by show 2 * 0 + _ ≤ _; exact Nat.le_of_eq rfl) (hb hby at_128) (fun _ _ => ⟨rfl, e123, (by decide : 1 + 0 ≤ _), (by decide : 17 + 0 ≤ _)⟩)
    dsimp only [Pt.U, Pt.locs, Pt.cells, Pt.slots] at X250 l250 y250 z250 st250 hQ250
    subst l250 y250 z250
    obtain ⟨rfl, u252, u253⟩ := hQ250
    have N250 := Fr.app N123 u252
    obtain ⟨cl254, Ar254, -, Sz254, -, Hh254, -⟩ := id V123
    have hin254 : ¬ ((12 : Int32) < 0 ∨ cl254.slots.size ≤ ((12 : Int32)).toNatClampNeg) := inb_of Sz254 ⟨by decide +kernel, by decide +kernel⟩
    have hat254 : cl254.slots[((12 : Int32)).toNatClampNeg]? = some (.ref a89) := Has.at Hh254 hin254 rfl
    obtain ⟨cq256, kq256, q256a, q256b, q256c⟩ := isOf hZ u253 (Exa.ext O123.2 E_94)
    obtain ⟨_, _, ⟨T256, L256, k256, n256⟩, -, X256, ⟨Lc256, hQ256, l256, y256, z256⟩, st256⟩ := X250.virtualBack hx (y := M_3) (z := M_3) hown (mvT hZ (hw _ (gw 44 rfl))) (mvT hZ (hw _ (gw 45 rfl))) (notFace_of_selects (args := #[]) (mvT hZ (hw _ (gw 47 rfl)))) (mvT hZ (hw _ (gw 47 rfl))) (mvT hZ (hw _ (gw 46 rfl))) (by decide) (backOf (W := 0) (rm2_39 l Z a0 hw [] a89 h123 n0  O123 E_94 F255) hZ (hw _ (gw 48 rfl)) (hw _ (gw 4 rfl)) (by decide) (by decide)) q256a q256c (g := (mkF m 140 #[.val (.int p1), .val (.int (12 : Int32)), .val (.ref b4), .val (.ref a89)] [(.ref a89)])) rfl (by rw [hml]; rfl) (Steps.refl _) (argsL := []) (rest := []) (lenOf pd_1 rfl) rfl (by show 2 * 0 + _ ≤ _; exact Nat.le_of_eq rfl) (hb hby at_140) (fun _ _ => ⟨rfl, u253, (by decide : 1 + 0 ≤ _), (by decide : 17 + 0 ≤ _)⟩)
    dsimp only [Pt.U, Pt.locs, Pt.cells, Pt.slots] at X256 l256 y256 z256 st256 hQ256
    subst l256 y256 z256
    obtain ⟨rfl, u258, u259⟩ := hQ256
    have N256 := Fr.app N250 u258
    obtain ⟨fs, hr, hrun, hended, hW, hsame⟩ := X256.leave (v := some (.int (1 : Int32))) (fun h => by rw [Bd.returns] at h; cases h)
    refine ⟨_, _, pre124 _ ?_, hrun, hended, _, _, rfl, ?_, ⟨_, rfl⟩, hW, hsame.mono (by decide) (by decide)⟩
    · show Steps p.tables e below (T123.setTop (mkF m 128 #[.val (.int p1), .val (.int (12 : Int32)), .val (.ref b4), .unset] [(.int (12 : Int32))])) _
      refine st250 _ ?_
      refine XS.astoreN X250.here hx rfl (hb hby at_131) rfl rfl (l' := #[.val (.int p1), .val (.int (12 : Int32)), .val (.ref b4), .val (.ref a89)]) rfl ?_
      refine XS.aloadN X250.here hx rfl (hb hby at_132) rfl rfl ?_
      refine XS.aloadN X250.here hx rfl (hb hby at_133) rfl rfl ?_
      refine XS.iloadN X250.here hx rfl (hb hby at_134) rfl ?_
      refine X250.aaload hx (j := (12 : Int32)) (v := (.ref a89)) (by rw [u253]; exact Ar254.1) (State.isArrayOf_alike hZ.alike Ar254.2.1) rfl Ar254.2.2 hin254 hat254 (g := (mkF m 135 #[.val (.int p1), .val (.int (12 : Int32)), .val (.ref b4), .val (.ref a89)] [(.int (12 : Int32)), (.ref b4), (.ref a89)])) rfl rfl (hb hby at_135) _ ?_
      refine Jvm.RoadKit.acmp (g := (mkF m 136 #[.val (.int p1), .val (.int (12 : Int32)), .val (.ref b4), .val (.ref a89)] [(.ref a89), (.ref a89)])) X250 hx rfl rfl rfl (pc0 := 136) (pc' := 139) (same := true) rfl (hb hby at_136) rfl (decide_eq_true rfl) (by decide) (by decide) ?_
      refine XS.aloadN X250.here hx rfl (hb hby at_139) rfl rfl ?_
      refine st256.trans ?_
      show Steps p.tables e below (T256.setTop (mkF m 143 #[.val (.int p1), .val (.int (12 : Int32)), .val (.ref b4), .val (.ref a89)] [(.int (12 : Int32))])) _
      refine XS.iloadN X256.here hx rfl (hb hby at_143) rfl ?_
      refine XS.icmpNo X256.here hx rfl (hb hby at_144) rfl (teq (by decide +kernel : (12 : Int32) = (12 : Int32))).2 ?_
      refine XS.iconst X256.here hx rfl (hb hby at_147) ?_
      refine XS.goto X256.here hx rfl (pc0 := 148) (pc' := 152) rfl (hb hby at_148) (by decide) (by decide) ?_
      show Steps p.tables e below (T256.setTop (mkF m 152 #[.val (.int p1), .val (.int (12 : Int32)), .val (.ref b4), .val (.ref a89)] [(.int (1 : Int32))])) _
      exact retN X256 hx (t := .boolean) Bd.returns (by simp) (hb hby at_152) hr
    · show Q0 Z _ _ _ _ _ _ _ _ _ _ _ _ _ _ _ _ _ _ _ _ h0 n0 _ T256.heap _
      rw [u259]
      exact ⟨rfl, N256⟩
  · skip
    subst hq125
    obtain ⟨_, _, ⟨T260, L260, k260, n260⟩, -, X260, ⟨Lc260, hQ260, l260, y260, z260⟩, st260⟩ := Jvm.LawKit.callS X123 hx (y := M_0) hown (mvT hZ (hw _ (gw 39 rfl))) (mvT hZ (hw _ (gw 40 rfl))) (mvT hZ (hw _ (gw 4 rfl))) (mvT hZ (hw _ (gw 41 rfl))) (by decide) (backOf (W := 0) (rm1_41 l Z a0 hw [] a126 a5 a12 a19 a26 a33 a40 a47 a54 a61 a68 a75 a82 a89 a96 a103 a110 a117 k128 h123 n0  O123 S_127 V129) hZ (hw _ (gw 41 rfl)) (hw _ (gw 4 rfl)) (by decide) (by decide)) (g := (mkF m 128 #[.val (.int p1), .val (.int (13 : Int32)), .val (.ref b4), .unset] [(.int (13 : Int32))])) rfl (by rw [hml]; rfl) (argsL := [(.int (13 : Int32))]) (rest := []) (lenOf pd_0 rfl) rfl (by show 2 * 0 + _ ≤ _; exact Nat.le_of_eq rfl) (hb hby at_128) (fun _ _ => ⟨rfl, e123, (by decide : 1 + 0 ≤ _), (by decide : 17 + 0 ≤ _)⟩)
    dsimp only [Pt.U, Pt.locs, Pt.cells, Pt.slots] at X260 l260 y260 z260 st260 hQ260
    subst l260 y260 z260
    obtain ⟨rfl, u262, u263⟩ := hQ260
    have N260 := Fr.app N123 u262
    obtain ⟨cl264, Ar264, -, Sz264, -, Hh264, -⟩ := id V123
    have hin264 : ¬ ((13 : Int32) < 0 ∨ cl264.slots.size ≤ ((13 : Int32)).toNatClampNeg) := inb_of Sz264 ⟨by decide +kernel, by decide +kernel⟩
    have hat264 : cl264.slots[((13 : Int32)).toNatClampNeg]? = some (.ref a96) := Has.at Hh264 hin264 rfl
    obtain ⟨cq266, kq266, q266a, q266b, q266c⟩ := isOf hZ u263 (Exa.ext O123.2 E_101)
    obtain ⟨_, _, ⟨T266, L266, k266, n266⟩, -, X266, ⟨Lc266, hQ266, l266, y266, z266⟩, st266⟩ := X260.virtualBack hx (y := M_3) (z := M_3) hown (mvT hZ (hw _ (gw 44 rfl))) (mvT hZ (hw _ (gw 45 rfl))) (notFace_of_selects (args := #[]) (mvT hZ (hw _ (gw 47 rfl)))) (mvT hZ (hw _ (gw 47 rfl))) (mvT hZ (hw _ (gw 46 rfl))) (by decide) (backOf (W := 0) (rm2_42 l Z a0 hw [] a96 h123 n0  O123 E_101 F265) hZ (hw _ (gw 48 rfl)) (hw _ (gw 4 rfl)) (by decide) (by decide)) q266a q266c (g := (mkF m 140 #[.val (.int p1), .val (.int (13 : Int32)), .val (.ref b4), .val (.ref a96)] [(.ref a96)])) rfl (by rw [hml]; rfl) (Steps.refl _) (argsL := []) (rest := []) (lenOf pd_1 rfl) rfl (by show 2 * 0 + _ ≤ _; exact Nat.le_of_eq rfl) (hb hby at_140) (fun _ _ => ⟨rfl, u263, (by decide : 1 + 0 ≤ _), (by decide : 17 + 0 ≤ _)⟩)
    dsimp only [Pt.U, Pt.locs, Pt.cells, Pt.slots] at X266 l266 y266 z266 st266 hQ266
    subst l266 y266 z266
    obtain ⟨rfl, u268, u269⟩ := hQ266
    have N266 := Fr.app N260 u268
    obtain ⟨fs, hr, hrun, hended, hW, hsame⟩ := X266.leave (v := some (.int (1 : Int32))) (fun h => by rw [Bd.returns] at h; cases h)
    refine ⟨_, _, pre124 _ ?_, hrun, hended, _, _, rfl, ?_, ⟨_, rfl⟩, hW, hsame.mono (by decide) (by decide)⟩
    · show Steps p.tables e below (T123.setTop (mkF m 128 #[.val (.int p1), .val (.int (13 : Int32)), .val (.ref b4), .unset] [(.int (13 : Int32))])) _
      refine st260 _ ?_
      refine XS.astoreN X260.here hx rfl (hb hby at_131) rfl rfl (l' := #[.val (.int p1), .val (.int (13 : Int32)), .val (.ref b4), .val (.ref a96)]) rfl ?_
      refine XS.aloadN X260.here hx rfl (hb hby at_132) rfl rfl ?_
      refine XS.aloadN X260.here hx rfl (hb hby at_133) rfl rfl ?_
      refine XS.iloadN X260.here hx rfl (hb hby at_134) rfl ?_
      refine X260.aaload hx (j := (13 : Int32)) (v := (.ref a96)) (by rw [u263]; exact Ar264.1) (State.isArrayOf_alike hZ.alike Ar264.2.1) rfl Ar264.2.2 hin264 hat264 (g := (mkF m 135 #[.val (.int p1), .val (.int (13 : Int32)), .val (.ref b4), .val (.ref a96)] [(.int (13 : Int32)), (.ref b4), (.ref a96)])) rfl rfl (hb hby at_135) _ ?_
      refine Jvm.RoadKit.acmp (g := (mkF m 136 #[.val (.int p1), .val (.int (13 : Int32)), .val (.ref b4), .val (.ref a96)] [(.ref a96), (.ref a96)])) X260 hx rfl rfl rfl (pc0 := 136) (pc' := 139) (same := true) rfl (hb hby at_136) rfl (decide_eq_true rfl) (by decide) (by decide) ?_
      refine XS.aloadN X260.here hx rfl (hb hby at_139) rfl rfl ?_
      refine st266.trans ?_
      show Steps p.tables e below (T266.setTop (mkF m 143 #[.val (.int p1), .val (.int (13 : Int32)), .val (.ref b4), .val (.ref a96)] [(.int (13 : Int32))])) _
      refine XS.iloadN X266.here hx rfl (hb hby at_143) rfl ?_
      refine XS.icmpNo X266.here hx rfl (hb hby at_144) rfl (teq (by decide +kernel : (13 : Int32) = (13 : Int32))).2 ?_
      refine XS.iconst X266.here hx rfl (hb hby at_147) ?_
      refine XS.goto X266.here hx rfl (pc0 := 148) (pc' := 152) rfl (hb hby at_148) (by decide) (by decide) ?_
      show Steps p.tables e below (T266.setTop (mkF m 152 #[.val (.int p1), .val (.int (13 : Int32)), .val (.ref b4), .val (.ref a96)] [(.int (1 : Int32))])) _
      exact retN X266 hx (t := .boolean) Bd.returns (by simp) (hb hby at_152) hr
    · show Q0 Z _ _ _ _ _ _ _ _ _ _ _ _ _ _ _ _ _ _ _ _ h0 n0 _ T266.heap _
      rw [u269]
      exact ⟨rfl, N266⟩
  · skip
    subst hq125
    obtain ⟨_, _, ⟨T270, L270, k270, n270⟩, -, X270, ⟨Lc270, hQ270, l270, y270, z270⟩, st270⟩ := Jvm.LawKit.callS X123 hx (y := M_0) hown (mvT hZ (hw _ (gw 39 rfl))) (mvT hZ (hw _ (gw 40 rfl))) (mvT hZ (hw _ (gw 4 rfl))) (mvT hZ (hw _ (gw 41 rfl))) (by decide) (backOf (W := 0) (rm1_44 l Z a0 hw [] a126 a5 a12 a19 a26 a33 a40 a47 a54 a61 a68 a75 a82 a89 a96 a103 a110 a117 k128 h123 n0  O123 S_127 V129) hZ (hw _ (gw 41 rfl)) (hw _ (gw 4 rfl)) (by decide) (by decide)) (g := (mkF m 128 #[.val (.int p1), .val (.int (14 : Int32)), .val (.ref b4), .unset] [(.int (14 : Int32))])) rfl (by rw [hml]; rfl) (argsL := [(.int (14 : Int32))]) (rest := []) (lenOf pd_0 rfl) rfl (by show 2 * 0 + _ ≤ _; exact Nat.le_of_eq rfl) (hb hby at_128) (fun _ _ => ⟨rfl, e123, (by decide : 1 + 0 ≤ _), (by decide : 17 + 0 ≤ _)⟩)
    dsimp only [Pt.U, Pt.locs, Pt.cells, Pt.slots] at X270 l270 y270 z270 st270 hQ270
    subst l270 y270 z270
    obtain ⟨rfl, u272, u273⟩ := hQ270
    have N270 := Fr.app N123 u272
    obtain ⟨cl274, Ar274, -, Sz274, -, Hh274, -⟩ := id V123
    have hin274 : ¬ ((14 : Int32) < 0 ∨ cl274.slots.size ≤ ((14 : Int32)).toNatClampNeg) := inb_of Sz274 ⟨by decide +kernel, by decide +kernel⟩
    have hat274 : cl274.slots[((14 : Int32)).toNatClampNeg]? = some (.ref a103) := Has.at Hh274 hin274 rfl
    obtain ⟨cq276, kq276, q276a, q276b, q276c⟩ := isOf hZ u273 (Exa.ext O123.2 E_108)
    obtain ⟨_, _, ⟨T276, L276, k276, n276⟩, -, X276, ⟨Lc276, hQ276, l276, y276, z276⟩, st276⟩ := X270.virtualBack hx (y := M_3) (z := M_3) hown (mvT hZ (hw _ (gw 44 rfl))) (mvT hZ (hw _ (gw 45 rfl))) (notFace_of_selects (args := #[]) (mvT hZ (hw _ (gw 47 rfl)))) (mvT hZ (hw _ (gw 47 rfl))) (mvT hZ (hw _ (gw 46 rfl))) (by decide) (backOf (W := 0) (rm2_45 l Z a0 hw [] a103 h123 n0  O123 E_108 F275) hZ (hw _ (gw 48 rfl)) (hw _ (gw 4 rfl)) (by decide) (by decide)) q276a q276c (g := (mkF m 140 #[.val (.int p1), .val (.int (14 : Int32)), .val (.ref b4), .val (.ref a103)] [(.ref a103)])) rfl (by rw [hml]; rfl) (Steps.refl _) (argsL := []) (rest := []) (lenOf pd_1 rfl) rfl (by show 2 * 0 + _ ≤ _; exact Nat.le_of_eq rfl) (hb hby at_140) (fun _ _ => ⟨rfl, u273, (by decide : 1 + 0 ≤ _), (by decide : 17 + 0 ≤ _)⟩)
    dsimp only [Pt.U, Pt.locs, Pt.cells, Pt.slots] at X276 l276 y276 z276 st276 hQ276
    subst l276 y276 z276
    obtain ⟨rfl, u278, u279⟩ := hQ276
    have N276 := Fr.app N270 u278
    obtain ⟨fs, hr, hrun, hended, hW, hsame⟩ := X276.leave (v := some (.int (1 : Int32))) (fun h => by rw [Bd.returns] at h; cases h)
    refine ⟨_, _, pre124 _ ?_, hrun, hended, _, _, rfl, ?_, ⟨_, rfl⟩, hW, hsame.mono (by decide) (by decide)⟩
    · show Steps p.tables e below (T123.setTop (mkF m 128 #[.val (.int p1), .val (.int (14 : Int32)), .val (.ref b4), .unset] [(.int (14 : Int32))])) _
      refine st270 _ ?_
      refine XS.astoreN X270.here hx rfl (hb hby at_131) rfl rfl (l' := #[.val (.int p1), .val (.int (14 : Int32)), .val (.ref b4), .val (.ref a103)]) rfl ?_
      refine XS.aloadN X270.here hx rfl (hb hby at_132) rfl rfl ?_
      refine XS.aloadN X270.here hx rfl (hb hby at_133) rfl rfl ?_
      refine XS.iloadN X270.here hx rfl (hb hby at_134) rfl ?_
      refine X270.aaload hx (j := (14 : Int32)) (v := (.ref a103)) (by rw [u273]; exact Ar274.1) (State.isArrayOf_alike hZ.alike Ar274.2.1) rfl Ar274.2.2 hin274 hat274 (g := (mkF m 135 #[.val (.int p1), .val (.int (14 : Int32)), .val (.ref b4), .val (.ref a103)] [(.int (14 : Int32)), (.ref b4), (.ref a103)])) rfl rfl (hb hby at_135) _ ?_
      refine Jvm.RoadKit.acmp (g := (mkF m 136 #[.val (.int p1), .val (.int (14 : Int32)), .val (.ref b4), .val (.ref a103)] [(.ref a103), (.ref a103)])) X270 hx rfl rfl rfl (pc0 := 136) (pc' := 139) (same := true) rfl (hb hby at_136) rfl (decide_eq_true rfl) (by decide) (by decide) ?_
      refine XS.aloadN X270.here hx rfl (hb hby at_139) rfl rfl ?_
      refine st276.trans ?_
      show Steps p.tables e below (T276.setTop (mkF m 143 #[.val (.int p1), .val (.int (14 : Int32)), .val (.ref b4), .val (.ref a103)] [(.int (14 : Int32))])) _
      refine XS.iloadN X276.here hx rfl (hb hby at_143) rfl ?_
      refine XS.icmpNo X276.here hx rfl (hb hby at_144) rfl (teq (by decide +kernel : (14 : Int32) = (14 : Int32))).2 ?_
      refine XS.iconst X276.here hx rfl (hb hby at_147) ?_
      refine XS.goto X276.here hx rfl (pc0 := 148) (pc' := 152) rfl (hb hby at_148) (by decide) (by decide) ?_
      show Steps p.tables e below (T276.setTop (mkF m 152 #[.val (.int p1), .val (.int (14 : Int32)), .val (.ref b4), .val (.ref a103)] [(.int (1 : Int32))])) _
      exact retN X276 hx (t := .boolean) Bd.returns (by simp) (hb hby at_152) hr
    · show Q0 Z _ _ _ _ _ _ _ _ _ _ _ _ _ _ _ _ _ _ _ _ h0 n0 _ T276.heap _
      rw [u279]
      exact ⟨rfl, N276⟩
  · skip
    subst hq125
    obtain ⟨_, _, ⟨T280, L280, k280, n280⟩, -, X280, ⟨Lc280, hQ280, l280, y280, z280⟩, st280⟩ := Jvm.LawKit.callS X123 hx (y := M_0) hown (mvT hZ (hw _ (gw 39 rfl))) (mvT hZ (hw _ (gw 40 rfl))) (mvT hZ (hw _ (gw 4 rfl))) (mvT hZ (hw _ (gw 41 rfl))) (by decide) (backOf (W := 0) (rm1_47 l Z a0 hw [] a126 a5 a12 a19 a26 a33 a40 a47 a54 a61 a68 a75 a82 a89 a96 a103 a110 a117 k128 h123 n0  O123 S_127 V129) hZ (hw _ (gw 41 rfl)) (hw _ (gw 4 rfl)) (by decide) (by decide)) (g := (mkF m 128 #[.val (.int p1), .val (.int (15 : Int32)), .val (.ref b4), .unset] [(.int (15 : Int32))])) rfl (by rw [hml]; rfl) (argsL := [(.int (15 : Int32))]) (rest := []) (lenOf pd_0 rfl) rfl (by show 2 * 0 + _ ≤ _; exact Nat.le_of_eq rfl) (hb hby at_128) (fun _ _ => ⟨rfl, e123, (by decide : 1 + 0 ≤ _), (by decide : 17 + 0 ≤ _)⟩)
    dsimp only [Pt.U, Pt.locs, Pt.cells, Pt.slots] at X280 l280 y280 z280 st280 hQ280
    subst l280 y280 z280
    obtain ⟨rfl, u282, u283⟩ := hQ280
    have N280 := Fr.app N123 u282
    obtain ⟨cl284, Ar284, -, Sz284, -, Hh284, -⟩ := id V123
    have hin284 : ¬ ((15 : Int32) < 0 ∨ cl284.slots.size ≤ ((15 : Int32)).toNatClampNeg) := inb_of Sz284 ⟨by decide +kernel, by decide +kernel⟩
    have hat284 : cl284.slots[((15 : Int32)).toNatClampNeg]? = some (.ref a110) := Has.at Hh284 hin284 rfl
    obtain ⟨cq286, kq286, q286a, q286b, q286c⟩ := isOf hZ u283 (Exa.ext O123.2 E_115)
    obtain ⟨_, _, ⟨T286, L286, k286, n286⟩, -, X286, ⟨Lc286, hQ286, l286, y286, z286⟩, st286⟩ := X280.virtualBack hx (y := M_3) (z := M_3) hown (mvT hZ (hw _ (gw 44 rfl))) (mvT hZ (hw _ (gw 45 rfl))) (notFace_of_selects (args := #[]) (mvT hZ (hw _ (gw 47 rfl)))) (mvT hZ (hw _ (gw 47 rfl))) (mvT hZ (hw _ (gw 46 rfl))) (by decide) (backOf (W := 0) (rm2_48 l Z a0 hw [] a110 h123 n0  O123 E_115 F285) hZ (hw _ (gw 48 rfl)) (hw _ (gw 4 rfl)) (by decide) (by decide)) q286a q286c (g := (mkF m 140 #[.val (.int p1), .val (.int (15 : Int32)), .val (.ref b4), .val (.ref a110)] [(.ref a110)])) rfl (by rw [hml]; rfl) (Steps.refl _) (argsL := []) (rest := []) (lenOf pd_1 rfl) rfl (by show 2 * 0 + _ ≤ _; exact Nat.le_of_eq rfl) (hb hby at_140) (fun _ _ => ⟨rfl, u283, (by decide : 1 + 0 ≤ _), (by decide : 17 + 0 ≤ _)⟩)
    dsimp only [Pt.U, Pt.locs, Pt.cells, Pt.slots] at X286 l286 y286 z286 st286 hQ286
    subst l286 y286 z286
    obtain ⟨rfl, u288, u289⟩ := hQ286
    have N286 := Fr.app N280 u288
    obtain ⟨fs, hr, hrun, hended, hW, hsame⟩ := X286.leave (v := some (.int (1 : Int32))) (fun h => by rw [Bd.returns] at h; cases h)
    refine ⟨_, _, pre124 _ ?_, hrun, hended, _, _, rfl, ?_, ⟨_, rfl⟩, hW, hsame.mono (by decide) (by decide)⟩
    · show Steps p.tables e below (T123.setTop (mkF m 128 #[.val (.int p1), .val (.int (15 : Int32)), .val (.ref b4), .unset] [(.int (15 : Int32))])) _
      refine st280 _ ?_
      refine XS.astoreN X280.here hx rfl (hb hby at_131) rfl rfl (l' := #[.val (.int p1), .val (.int (15 : Int32)), .val (.ref b4), .val (.ref a110)]) rfl ?_
      refine XS.aloadN X280.here hx rfl (hb hby at_132) rfl rfl ?_
      refine XS.aloadN X280.here hx rfl (hb hby at_133) rfl rfl ?_
      refine XS.iloadN X280.here hx rfl (hb hby at_134) rfl ?_
      refine X280.aaload hx (j := (15 : Int32)) (v := (.ref a110)) (by rw [u283]; exact Ar284.1) (State.isArrayOf_alike hZ.alike Ar284.2.1) rfl Ar284.2.2 hin284 hat284 (g := (mkF m 135 #[.val (.int p1), .val (.int (15 : Int32)), .val (.ref b4), .val (.ref a110)] [(.int (15 : Int32)), (.ref b4), (.ref a110)])) rfl rfl (hb hby at_135) _ ?_
      refine Jvm.RoadKit.acmp (g := (mkF m 136 #[.val (.int p1), .val (.int (15 : Int32)), .val (.ref b4), .val (.ref a110)] [(.ref a110), (.ref a110)])) X280 hx rfl rfl rfl (pc0 := 136) (pc' := 139) (same := true) rfl (hb hby at_136) rfl (decide_eq_true rfl) (by decide) (by decide) ?_
      refine XS.aloadN X280.here hx rfl (hb hby at_139) rfl rfl ?_
      refine st286.trans ?_
      show Steps p.tables e below (T286.setTop (mkF m 143 #[.val (.int p1), .val (.int (15 : Int32)), .val (.ref b4), .val (.ref a110)] [(.int (15 : Int32))])) _
      refine XS.iloadN X286.here hx rfl (hb hby at_143) rfl ?_
      refine XS.icmpNo X286.here hx rfl (hb hby at_144) rfl (teq (by decide +kernel : (15 : Int32) = (15 : Int32))).2 ?_
      refine XS.iconst X286.here hx rfl (hb hby at_147) ?_
      refine XS.goto X286.here hx rfl (pc0 := 148) (pc' := 152) rfl (hb hby at_148) (by decide) (by decide) ?_
      show Steps p.tables e below (T286.setTop (mkF m 152 #[.val (.int p1), .val (.int (15 : Int32)), .val (.ref b4), .val (.ref a110)] [(.int (1 : Int32))])) _
      exact retN X286 hx (t := .boolean) Bd.returns (by simp) (hb hby at_152) hr
    · show Q0 Z _ _ _ _ _ _ _ _ _ _ _ _ _ _ _ _ _ _ _ _ h0 n0 _ T286.heap _
      rw [u289]
      exact ⟨rfl, N286⟩
  · skip
    subst hq125
    obtain ⟨_, _, ⟨T290, L290, k290, n290⟩, -, X290, ⟨Lc290, hQ290, l290, y290, z290⟩, st290⟩ := Jvm.LawKit.callS X123 hx (y := M_0) hown (mvT hZ (hw _ (gw 39 rfl))) (mvT hZ (hw _ (gw 40 rfl))) (mvT hZ (hw _ (gw 4 rfl))) (mvT hZ (hw _ (gw 41 rfl))) (by decide) (backOf (W := 0) (rm1_50 l Z a0 hw [] a126 a5 a12 a19 a26 a33 a40 a47 a54 a61 a68 a75 a82 a89 a96 a103 a110 a117 k128 h123 n0  O123 S_127 V129) hZ (hw _ (gw 41 rfl)) (hw _ (gw 4 rfl)) (by decide) (by decide)) (g := (mkF m 128 #[.val (.int p1), .val (.int (16 : Int32)), .val (.ref b4), .unset] [(.int (16 : Int32))])) rfl (by rw [hml]; rfl) (argsL := [(.int (16 : Int32))]) (rest := []) (lenOf pd_0 rfl) rfl (by show 2 * 0 + _ ≤ _; exact Nat.le_of_eq rfl) (hb hby at_128) (fun _ _ => ⟨rfl, e123, (by decide : 1 + 0 ≤ _), (by decide : 17 + 0 ≤ _)⟩)
    dsimp only [Pt.U, Pt.locs, Pt.cells, Pt.slots] at X290 l290 y290 z290 st290 hQ290
    subst l290 y290 z290
    obtain ⟨rfl, u292, u293⟩ := hQ290
    have N290 := Fr.app N123 u292
    obtain ⟨cl294, Ar294, -, Sz294, -, Hh294, -⟩ := id V123
    have hin294 : ¬ ((16 : Int32) < 0 ∨ cl294.slots.size ≤ ((16 : Int32)).toNatClampNeg) := inb_of Sz294 ⟨by decide +kernel, by decide +kernel⟩
    have hat294 : cl294.slots[((16 : Int32)).toNatClampNeg]? = some (.ref a117) := Has.at Hh294 hin294 rfl
    obtain ⟨cq296, kq296, q296a, q296b, q296c⟩ := isOf hZ u293 (Exa.ext O123.2 E_122)
    obtain ⟨_, _, ⟨T296, L296, k296, n296⟩, -, X296, ⟨Lc296, hQ296, l296, y296, z296⟩, st296⟩ := X290.virtualBack hx (y := M_3) (z := M_3) hown (mvT hZ (hw _ (gw 44 rfl))) (mvT hZ (hw _ (gw 45 rfl))) (notFace_of_selects (args := #[]) (mvT hZ (hw _ (gw 47 rfl)))) (mvT hZ (hw _ (gw 47 rfl))) (mvT hZ (hw _ (gw 46 rfl))) (by decide) (backOf (W := 0) (rm2_51 l Z a0 hw [] a117 h123 n0  O123 E_122 F295) hZ (hw _ (gw 48 rfl)) (hw _ (gw 4 rfl)) (by decide) (by decide)) q296a q296c (g := (mkF m 140 #[.val (.int p1), .val (.int (16 : Int32)), .val (.ref b4), .val (.ref a117)] [(.ref a117)])) rfl (by rw [hml]; rfl) (Steps.refl _) (argsL := []) (rest := []) (lenOf pd_1 rfl) rfl (by show 2 * 0 + _ ≤ _; exact Nat.le_of_eq rfl) (hb hby at_140) (fun _ _ => ⟨rfl, u293, (by decide : 1 + 0 ≤ _), (by decide : 17 + 0 ≤ _)⟩)
    dsimp only [Pt.U, Pt.locs, Pt.cells, Pt.slots] at X296 l296 y296 z296 st296 hQ296
    subst l296 y296 z296
    obtain ⟨rfl, u298, u299⟩ := hQ296
    have N296 := Fr.app N290 u298
    obtain ⟨fs, hr, hrun, hended, hW, hsame⟩ := X296.leave (v := some (.int (1 : Int32))) (fun h => by rw [Bd.returns] at h; cases h)
    refine ⟨_, _, pre124 _ ?_, hrun, hended, _, _, rfl, ?_, ⟨_, rfl⟩, hW, hsame.mono (by decide) (by decide)⟩
    · show Steps p.tables e below (T123.setTop (mkF m 128 #[.val (.int p1), .val (.int (16 : Int32)), .val (.ref b4), .unset] [(.int (16 : Int32))])) _
      refine st290 _ ?_
      refine XS.astoreN X290.here hx rfl (hb hby at_131) rfl rfl (l' := #[.val (.int p1), .val (.int (16 : Int32)), .val (.ref b4), .val (.ref a117)]) rfl ?_
      refine XS.aloadN X290.here hx rfl (hb hby at_132) rfl rfl ?_
      refine XS.aloadN X290.here hx rfl (hb hby at_133) rfl rfl ?_
      refine XS.iloadN X290.here hx rfl (hb hby at_134) rfl ?_
      refine X290.aaload hx (j := (16 : Int32)) (v := (.ref a117)) (by rw [u293]; exact Ar294.1) (State.isArrayOf_alike hZ.alike Ar294.2.1) rfl Ar294.2.2 hin294 hat294 (g := (mkF m 135 #[.val (.int p1), .val (.int (16 : Int32)), .val (.ref b4), .val (.ref a117)] [(.int (16 : Int32)), (.ref b4), (.ref a117)])) rfl rfl (hb hby at_135) _ ?_
      refine Jvm.RoadKit.acmp (g := (mkF m 136 #[.val (.int p1), .val (.int (16 : Int32)), .val (.ref b4), .val (.ref a117)] [(.ref a117), (.ref a117)])) X290 hx rfl rfl rfl (pc0 := 136) (pc' := 139) (same := true) rfl (hb hby at_136) rfl (decide_eq_true rfl) (by decide) (by decide) ?_
      refine XS.aloadN X290.here hx rfl (hb hby at_139) rfl rfl ?_
      refine st296.trans ?_
      show Steps p.tables e below (T296.setTop (mkF m 143 #[.val (.int p1), .val (.int (16 : Int32)), .val (.ref b4), .val (.ref a117)] [(.int (16 : Int32))])) _
      refine XS.iloadN X296.here hx rfl (hb hby at_143) rfl ?_
      refine XS.icmpNo X296.here hx rfl (hb hby at_144) rfl (teq (by decide +kernel : (16 : Int32) = (16 : Int32))).2 ?_
      refine XS.iconst X296.here hx rfl (hb hby at_147) ?_
      refine XS.goto X296.here hx rfl (pc0 := 148) (pc' := 152) rfl (hb hby at_148) (by decide) (by decide) ?_
      show Steps p.tables e below (T296.setTop (mkF m 152 #[.val (.int p1), .val (.int (16 : Int32)), .val (.ref b4), .val (.ref a117)] [(.int (1 : Int32))])) _
      exact retN X296 hx (t := .boolean) Bd.returns (by simp) (hb hby at_152) hr
    · show Q0 Z _ _ _ _ _ _ _ _ _ _ _ _ _ _ _ _ _ _ _ _ h0 n0 _ T296.heap _
      rw [u299]
      exact ⟨rfl, N296⟩
set_option maxRecDepth 65536 in
set_option maxHeartbeats 40000000 in
theorem comes_1 {Post : Tables → Env → Array Value → State → Outcome → State → Prop} (hpost : ∀ tb e args s v u, (limb_1_1.after args s (.returned v) u = true ∧ limb_1_2.after args s (.returned v) u = true ∧ True) → FrameEnd s (.returned v) u (Jvm.fieldLocs frame_1_writes args s ++ Jvm.arrayLocs frame_1_arrays args s ++ Jvm.staticLocs frame_1_statics s) 16 128 → Post tb e args s (.returned v) u) :
    ArmFor flags0 classFile x code maxLocals ret World_1 tables_1 room_1 Calls_1 rest_1 Pre_1 Post := by
  intro l hfl _ _ p e ha hc hk s m args below hf hA hF happ hP
  obtain ⟨hcalls, hrest, hpre⟩ := hP
  obtain ⟨-, -, -, hnamed, -, -, -, hat⟩ := (Spec.applies_iff hf).mp happ
  obtain ⟨hg, hn⟩ := and_e (Cond.before_iff.mp (show (Jvm.Cond.and given_1 narrow_1).before args s = true from hpre))
  obtain ⟨h1, hr0⟩ := and_e hg
  obtain ⟨w0, rfl⟩ : ∃ w0 : Value, args = #[w0] := by
    have hs : args.size = 1 := by simpa [Cond.value, given_1] using h1
    obtain ⟨L⟩ := args
    match L, hs with
    | [w0], _ => exact ⟨w0, rfl⟩
  have hwt := fun d (hd : d ∈ tables_1) => atoms_spec (ws := Jvm.Cond.code x code maxLocals ret :: tables_1) hat d (List.mem_cons_of_mem _ hd)
  have hw : ∀ d ∈ own_ws, d.before _ s = true := hwt
  have hfit : Fit s := fun {y c} hc i hi => by
    obtain ⟨ha, rfl⟩ := Array.getElem?_eq_some_iff.mp hc
    have q := List.all_eq_true.mp ((Array.all_eq_true_iff_forall_mem.mp hF) _ (Array.getElem_mem ha)) i (List.mem_range.mpr hi)
    simpa [Array.getElem?_eq_getElem hi] using q
  obtain ⟨i0, ei0⟩ := is_v hr0
  obtain rfl : w0 = (.int i0) := Option.some.inj ei0
  obtain ⟨c1, c2⟩ := and_e hn
  obtain ⟨c3, c4⟩ := and_e c2
  obtain ⟨c5, c6⟩ := and_e c4
  obtain ⟨c7, c8⟩ := and_e c6
  obtain ⟨c9, c10⟩ := and_e c8
  obtain ⟨c11, c12⟩ := and_e c10
  obtain ⟨c13, c14⟩ := and_e c12
  obtain ⟨c15, c16⟩ := and_e c14
  obtain ⟨c17, c18⟩ := and_e c16
  obtain ⟨c19, c20⟩ := and_e c18
  obtain ⟨c21, c22⟩ := and_e c20
  obtain ⟨c23, c24⟩ := and_e c22
  obtain ⟨c25, c26⟩ := and_e c24
  obtain ⟨c27, c28⟩ := and_e c26
  obtain ⟨c29, c30⟩ := and_e c28
  obtain ⟨c31, c32⟩ := and_e c30
  obtain ⟨c33, c34⟩ := and_e c32
  obtain ⟨c35, c36⟩ := and_e c34
  obtain ⟨c37, c38⟩ := and_e c36
  obtain ⟨c39, c40⟩ := and_e c38
  obtain ⟨c41, c42⟩ := and_e c40
  obtain ⟨c43, c44⟩ := and_e c42
  obtain ⟨c45, c46⟩ := and_e c44
  obtain ⟨c47, c48⟩ := and_e c46
  obtain ⟨c49, c50⟩ := and_e c48
  obtain ⟨c51, c52⟩ := and_e c50
  obtain ⟨c53, c54⟩ := and_e c52
  obtain ⟨c55, c56⟩ := and_e c54
  obtain ⟨c57, c58⟩ := and_e c56
  obtain ⟨c59, c60⟩ := and_e c58
  obtain ⟨c61, c62⟩ := and_e c60
  obtain ⟨c63, c64⟩ := and_e c62
  obtain ⟨c65, c66⟩ := and_e c64
  obtain ⟨c67, c68⟩ := and_e c66
  obtain ⟨c69, c70⟩ := and_e c68
  obtain ⟨c71, c72⟩ := and_e c70
  obtain ⟨c73, c74⟩ := and_e c72
  obtain ⟨c75, c76⟩ := and_e c74
  obtain ⟨c77, c78⟩ := and_e c76
  obtain ⟨c79, c80⟩ := and_e c78
  obtain ⟨c81, c82⟩ := and_e c80
  obtain ⟨c83, c84⟩ := and_e c82
  obtain ⟨c85, c86⟩ := and_e c84
  obtain ⟨c87, c88⟩ := and_e c86
  obtain ⟨c89, c90⟩ := and_e c88
  obtain ⟨c91, c92⟩ := and_e c90
  obtain ⟨c93, c94⟩ := and_e c92
  obtain ⟨c95, c96⟩ := and_e c94
  obtain ⟨c97, c98⟩ := and_e c96
  obtain ⟨c99, c100⟩ := and_e c98
  obtain ⟨c101, c102⟩ := and_e c100
  obtain ⟨c103, c104⟩ := and_e c102
  obtain ⟨o1, ev_o1⟩ := exa_v c1
  have S_o1 : Sta s s.heap "com/example/ringstead/ringstead/node/Wire$Call" "IDENTIFY" "Lcom/example/ringstead/ringstead/node/Wire$Call;" (.ref o1) := Sta.start ev_o1 (Or.inr ⟨(hw _ (gw 4 rfl)), (hw _ (gw 5 rfl))⟩)
  have E_o1 : Exa s s.heap o1 "com/example/ringstead/ringstead/node/Wire$Call" := Exa.start ev_o1 c1
  obtain ⟨o2, ev_o2⟩ := exa_v c3
  have S_o2 : Sta s s.heap "com/example/ringstead/ringstead/node/Wire$Call" "SUCCESSORS" "Lcom/example/ringstead/ringstead/node/Wire$Call;" (.ref o2) := Sta.start ev_o2 (Or.inr ⟨(hw _ (gw 4 rfl)), (hw _ (gw 8 rfl))⟩)
  have E_o2 : Exa s s.heap o2 "com/example/ringstead/ringstead/node/Wire$Call" := Exa.start ev_o2 c3
  obtain ⟨o3, ev_o3⟩ := exa_v c5
  have S_o3 : Sta s s.heap "com/example/ringstead/ringstead/node/Wire$Call" "NEIGHBOURS" "Lcom/example/ringstead/ringstead/node/Wire$Call;" (.ref o3) := Sta.start ev_o3 (Or.inr ⟨(hw _ (gw 4 rfl)), (hw _ (gw 10 rfl))⟩)
  have E_o3 : Exa s s.heap o3 "com/example/ringstead/ringstead/node/Wire$Call" := Exa.start ev_o3 c5
  obtain ⟨o4, ev_o4⟩ := exa_v c7
  have S_o4 : Sta s s.heap "com/example/ringstead/ringstead/node/Wire$Call" "CLOSEST_PRECEDING_FINGER" "Lcom/example/ringstead/ringstead/node/Wire$Call;" (.ref o4) := Sta.start ev_o4 (Or.inr ⟨(hw _ (gw 4 rfl)), (hw _ (gw 12 rfl))⟩)
  have E_o4 : Exa s s.heap o4 "com/example/ringstead/ringstead/node/Wire$Call" := Exa.start ev_o4 c7
  obtain ⟨o5, ev_o5⟩ := exa_v c9
  have S_o5 : Sta s s.heap "com/example/ringstead/ringstead/node/Wire$Call" "NOTIFY_PREDECESSOR" "Lcom/example/ringstead/ringstead/node/Wire$Call;" (.ref o5) := Sta.start ev_o5 (Or.inr ⟨(hw _ (gw 4 rfl)), (hw _ (gw 14 rfl))⟩)
  have E_o5 : Exa s s.heap o5 "com/example/ringstead/ringstead/node/Wire$Call" := Exa.start ev_o5 c9
  obtain ⟨o6, ev_o6⟩ := exa_v c11
  have S_o6 : Sta s s.heap "com/example/ringstead/ringstead/node/Wire$Call" "CLOSE_RING" "Lcom/example/ringstead/ringstead/node/Wire$Call;" (.ref o6) := Sta.start ev_o6 (Or.inr ⟨(hw _ (gw 4 rfl)), (hw _ (gw 16 rfl))⟩)
  have E_o6 : Exa s s.heap o6 "com/example/ringstead/ringstead/node/Wire$Call" := Exa.start ev_o6 c11
  obtain ⟨o7, ev_o7⟩ := exa_v c13
  have S_o7 : Sta s s.heap "com/example/ringstead/ringstead/node/Wire$Call" "WRITE" "Lcom/example/ringstead/ringstead/node/Wire$Call;" (.ref o7) := Sta.start ev_o7 (Or.inr ⟨(hw _ (gw 4 rfl)), (hw _ (gw 18 rfl))⟩)
  have E_o7 : Exa s s.heap o7 "com/example/ringstead/ringstead/node/Wire$Call" := Exa.start ev_o7 c13
  obtain ⟨o8, ev_o8⟩ := exa_v c15
  have S_o8 : Sta s s.heap "com/example/ringstead/ringstead/node/Wire$Call" "GET" "Lcom/example/ringstead/ringstead/node/Wire$Call;" (.ref o8) := Sta.start ev_o8 (Or.inr ⟨(hw _ (gw 4 rfl)), (hw _ (gw 20 rfl))⟩)
  have E_o8 : Exa s s.heap o8 "com/example/ringstead/ringstead/node/Wire$Call" := Exa.start ev_o8 c15
  obtain ⟨o9, ev_o9⟩ := exa_v c17
  have S_o9 : Sta s s.heap "com/example/ringstead/ringstead/node/Wire$Call" "HAND_OVER" "Lcom/example/ringstead/ringstead/node/Wire$Call;" (.ref o9) := Sta.start ev_o9 (Or.inr ⟨(hw _ (gw 4 rfl)), (hw _ (gw 22 rfl))⟩)
  have E_o9 : Exa s s.heap o9 "com/example/ringstead/ringstead/node/Wire$Call" := Exa.start ev_o9 c17
  obtain ⟨o10, ev_o10⟩ := exa_v c19
  have S_o10 : Sta s s.heap "com/example/ringstead/ringstead/node/Wire$Call" "TAKE_OVER" "Lcom/example/ringstead/ringstead/node/Wire$Call;" (.ref o10) := Sta.start ev_o10 (Or.inr ⟨(hw _ (gw 4 rfl)), (hw _ (gw 24 rfl))⟩)
  have E_o10 : Exa s s.heap o10 "com/example/ringstead/ringstead/node/Wire$Call" := Exa.start ev_o10 c19
  obtain ⟨o11, ev_o11⟩ := exa_v c21
  have S_o11 : Sta s s.heap "com/example/ringstead/ringstead/node/Wire$Call" "COPY" "Lcom/example/ringstead/ringstead/node/Wire$Call;" (.ref o11) := Sta.start ev_o11 (Or.inr ⟨(hw _ (gw 4 rfl)), (hw _ (gw 26 rfl))⟩)
  have E_o11 : Exa s s.heap o11 "com/example/ringstead/ringstead/node/Wire$Call" := Exa.start ev_o11 c21
  obtain ⟨o12, ev_o12⟩ := exa_v c23
  have S_o12 : Sta s s.heap "com/example/ringstead/ringstead/node/Wire$Call" "COPY_RANGE" "Lcom/example/ringstead/ringstead/node/Wire$Call;" (.ref o12) := Sta.start ev_o12 (Or.inr ⟨(hw _ (gw 4 rfl)), (hw _ (gw 28 rfl))⟩)
  have E_o12 : Exa s s.heap o12 "com/example/ringstead/ringstead/node/Wire$Call" := Exa.start ev_o12 c23
  obtain ⟨o13, ev_o13⟩ := exa_v c25
  have S_o13 : Sta s s.heap "com/example/ringstead/ringstead/node/Wire$Call" "DROP_COPIES" "Lcom/example/ringstead/ringstead/node/Wire$Call;" (.ref o13) := Sta.start ev_o13 (Or.inr ⟨(hw _ (gw 4 rfl)), (hw _ (gw 30 rfl))⟩)
  have E_o13 : Exa s s.heap o13 "com/example/ringstead/ringstead/node/Wire$Call" := Exa.start ev_o13 c25
  obtain ⟨o14, ev_o14⟩ := exa_v c27
  have S_o14 : Sta s s.heap "com/example/ringstead/ringstead/node/Wire$Call" "SIZE" "Lcom/example/ringstead/ringstead/node/Wire$Call;" (.ref o14) := Sta.start ev_o14 (Or.inr ⟨(hw _ (gw 4 rfl)), (hw _ (gw 32 rfl))⟩)
  have E_o14 : Exa s s.heap o14 "com/example/ringstead/ringstead/node/Wire$Call" := Exa.start ev_o14 c27
  obtain ⟨o15, ev_o15⟩ := exa_v c29
  have S_o15 : Sta s s.heap "com/example/ringstead/ringstead/node/Wire$Call" "GRANT_LEASE" "Lcom/example/ringstead/ringstead/node/Wire$Call;" (.ref o15) := Sta.start ev_o15 (Or.inr ⟨(hw _ (gw 4 rfl)), (hw _ (gw 34 rfl))⟩)
  have E_o15 : Exa s s.heap o15 "com/example/ringstead/ringstead/node/Wire$Call" := Exa.start ev_o15 c29
  obtain ⟨o16, ev_o16⟩ := exa_v c31
  have S_o16 : Sta s s.heap "com/example/ringstead/ringstead/node/Wire$Call" "COPY_HANDED_ON" "Lcom/example/ringstead/ringstead/node/Wire$Call;" (.ref o16) := Sta.start ev_o16 (Or.inr ⟨(hw _ (gw 4 rfl)), (hw _ (gw 36 rfl))⟩)
  have E_o16 : Exa s s.heap o16 "com/example/ringstead/ringstead/node/Wire$Call" := Exa.start ev_o16 c31
  obtain ⟨o17, ev_o17⟩ := exa_v c33
  have S_o17 : Sta s s.heap "com/example/ringstead/ringstead/node/Wire$Call" "STABILIZED_BY" "Lcom/example/ringstead/ringstead/node/Wire$Call;" (.ref o17) := Sta.start ev_o17 (Or.inr ⟨(hw _ (gw 4 rfl)), (hw _ (gw 38 rfl))⟩)
  have E_o17 : Exa s s.heap o17 "com/example/ringstead/ringstead/node/Wire$Call" := Exa.start ev_o17 c33
  obtain ⟨o18, ev_o18⟩ := arr_v c35
  have S_o18 : Sta s s.heap "com/example/ringstead/ringstead/node/Wire$Call" "BY_CODE" "[Lcom/example/ringstead/ringstead/node/Wire$Call;" (.ref o18) := Sta.start ev_o18 (Or.inr ⟨(hw _ (gw 4 rfl)), (hw _ (gw 43 rfl))⟩)
  obtain ⟨cl_o18, Ar_o18⟩ := Arr.start ev_o18 c35
  have ev105 := own_eqI c37
  have ev106 := own_eqR ev_o1 c39
  have F107 : Fld s s.heap o1 "java/lang/Enum" "ordinal" "I" (.int (0 : Int32)) := Fld.start ((fld_at ev_o1).symm.trans (own_eqI c41))
  have ev108 := own_eqR ev_o4 c43
  have F109 : Fld s s.heap o4 "java/lang/Enum" "ordinal" "I" (.int (3 : Int32)) := Fld.start ((fld_at ev_o4).symm.trans (own_eqI c45))
  have ev110 := own_eqR ev_o9 c47
  have F111 : Fld s s.heap o9 "java/lang/Enum" "ordinal" "I" (.int (8 : Int32)) := Fld.start ((fld_at ev_o9).symm.trans (own_eqI c49))
  have ev112 := own_eqR ev_o10 c51
  have F113 : Fld s s.heap o10 "java/lang/Enum" "ordinal" "I" (.int (9 : Int32)) := Fld.start ((fld_at ev_o10).symm.trans (own_eqI c53))
  have ev114 := own_eqR ev_o7 c55
  have F115 : Fld s s.heap o7 "java/lang/Enum" "ordinal" "I" (.int (6 : Int32)) := Fld.start ((fld_at ev_o7).symm.trans (own_eqI c57))
  have ev116 := own_eqR ev_o8 c59
  have F117 : Fld s s.heap o8 "java/lang/Enum" "ordinal" "I" (.int (7 : Int32)) := Fld.start ((fld_at ev_o8).symm.trans (own_eqI c61))
  have ev118 := own_eqR ev_o3 c63
  have F119 : Fld s s.heap o3 "java/lang/Enum" "ordinal" "I" (.int (2 : Int32)) := Fld.start ((fld_at ev_o3).symm.trans (own_eqI c65))
  have ev120 := own_eqR ev_o12 c67
  have F121 : Fld s s.heap o12 "java/lang/Enum" "ordinal" "I" (.int (11 : Int32)) := Fld.start ((fld_at ev_o12).symm.trans (own_eqI c69))
  have ev122 := own_eqR ev_o2 c71
  have F123 : Fld s s.heap o2 "java/lang/Enum" "ordinal" "I" (.int (1 : Int32)) := Fld.start ((fld_at ev_o2).symm.trans (own_eqI c73))
  have ev124 := own_eqR ev_o14 c75
  have F125 : Fld s s.heap o14 "java/lang/Enum" "ordinal" "I" (.int (13 : Int32)) := Fld.start ((fld_at ev_o14).symm.trans (own_eqI c77))
  have ev126 := own_eqR ev_o5 c79
  have F127 : Fld s s.heap o5 "java/lang/Enum" "ordinal" "I" (.int (4 : Int32)) := Fld.start ((fld_at ev_o5).symm.trans (own_eqI c81))
  have ev128 := own_eqR ev_o11 c83
  have F129 : Fld s s.heap o11 "java/lang/Enum" "ordinal" "I" (.int (10 : Int32)) := Fld.start ((fld_at ev_o11).symm.trans (own_eqI c85))
  have ev130 := own_eqR ev_o17 c87
  have F131 : Fld s s.heap o17 "java/lang/Enum" "ordinal" "I" (.int (16 : Int32)) := Fld.start ((fld_at ev_o17).symm.trans (own_eqI c89))
  have ev132 := own_eqR ev_o16 c91
  have F133 : Fld s s.heap o16 "java/lang/Enum" "ordinal" "I" (.int (15 : Int32)) := Fld.start ((fld_at ev_o16).symm.trans (own_eqI c93))
  have ev134 := own_eqR ev_o6 c95
  have F135 : Fld s s.heap o6 "java/lang/Enum" "ordinal" "I" (.int (5 : Int32)) := Fld.start ((fld_at ev_o6).symm.trans (own_eqI c97))
  have ev136 := own_eqR ev_o15 c99
  have F137 : Fld s s.heap o15 "java/lang/Enum" "ordinal" "I" (.int (14 : Int32)) := Fld.start ((fld_at ev_o15).symm.trans (own_eqI c101))
  have ev138 := own_eqR ev_o13 c103
  have F139 : Fld s s.heap o13 "java/lang/Enum" "ordinal" "I" (.int (12 : Int32)) := Fld.start ((fld_at ev_o13).symm.trans (own_eqI c104))
  obtain ⟨sm_o18, sz_o18⟩ := own_len ev_o18 Ar_o18 ev105
  have V_o18 : Arv s s.heap o18 cl_o18.cls (.object "com/example/ringstead/ringstead/node/Wire$Call") (17 : Int32) [(.ref o1), (.ref o2), (.ref o3), (.ref o4), (.ref o5), (.ref o6), (.ref o7), (.ref o8), (.ref o9), (.ref o10), (.ref o11), (.ref o12), (.ref o13), (.ref o14), (.ref o15), (.ref o16), (.ref o17)] .null := Arv.start hfit Ar_o18 sm_o18 sz_o18 (by decide +kernel) rfl ⟨own_elem ev_o18 Ar_o18 ev106 rfl, ⟨own_elem ev_o18 Ar_o18 ev122 rfl, ⟨own_elem ev_o18 Ar_o18 ev118 rfl, ⟨own_elem ev_o18 Ar_o18 ev108 rfl, ⟨own_elem ev_o18 Ar_o18 ev126 rfl, ⟨own_elem ev_o18 Ar_o18 ev134 rfl, ⟨own_elem ev_o18 Ar_o18 ev114 rfl, ⟨own_elem ev_o18 Ar_o18 ev116 rfl, ⟨own_elem ev_o18 Ar_o18 ev110 rfl, ⟨own_elem ev_o18 Ar_o18 ev112 rfl, ⟨own_elem ev_o18 Ar_o18 ev128 rfl, ⟨own_elem ev_o18 Ar_o18 ev120 rfl, ⟨own_elem ev_o18 Ar_o18 ev138 rfl, ⟨own_elem ev_o18 Ar_o18 ev124 rfl, ⟨own_elem ev_o18 Ar_o18 ev136 rfl, ⟨own_elem ev_o18 Ar_o18 ev132 rfl, ⟨own_elem ev_o18 Ar_o18 ev130 rfl, trivial⟩⟩⟩⟩⟩⟩⟩⟩⟩⟩⟩⟩⟩⟩⟩⟩⟩
  obtain ⟨n, o, h1, h2, h3, _, L, rfl, ⟨rfl, N⟩, hq⟩ := rm0 l s _ hw tables_1 i0 o1 o2 o3 o4 o5 o6 o7 o8 o9 o10 o11 o12 o13 o14 o15 o16 o17 o18 cl_o18.cls s.heap s.heap.size (Old.start s) S_o1 E_o1 S_o2 E_o2 S_o3 E_o3 S_o4 E_o4 S_o5 E_o5 S_o6 E_o6 S_o7 E_o7 S_o8 E_o8 S_o9 E_o9 S_o10 E_o10 S_o11 E_o11 S_o12 E_o12 S_o13 E_o13 S_o14 E_o14 S_o15 E_o15 S_o16 E_o16 S_o17 E_o17 S_o18 V_o18 F107 F123 F119 F109 F127 F135 F115 F117 F111 F113 F129 F121 F139 F125 F137 F133 F131 p e ha hc hk s m _ below hf ((Spec.applies_iff_loose hf).mp happ).1 ⟨rfl, State.Warmed39.refl s, rfl⟩ trivial
  refine ⟨n, _, h1, h2, h3, hpost _ _ _ _ _ _ ⟨Cond.after_iff.mpr rfl, Cond.after_iff.mpr (eq_i res_at (Term.int_eval (1)) rfl), trivial⟩ ⟨hq.1, hq.2.1, (hq.2.2.sift fun y hy => Or.inr (N y hy)).mono (by decide) (by decide)⟩⟩
theorem main_1_1 : Claimed_1_1 := comes_1 fun _ _ _ _ _ _ h hF => ⟨h.1, hF⟩
theorem main_1_2 : Claimed_1_2 := comes_1 fun _ _ _ _ _ _ h hF => ⟨h.2.1, hF⟩
end Jvm.Pilot.@@N@@
namespace Jvm.Pilot.@@N@@
open Jvm Jvm.ClassFile Sem Op Lib Jvm.Free Jvm.Stand Jvm.Pilot.@@N@@.Jvm.D
/-! MADE BY PROGRAM (witnessworld.py) out of the Statement's table words and the real class files: 13 classes; the members and pool entries that the words name. The judged class is class 1, her method 1. -/
namespace start1
open Jvm.ClassFile
def u (s : String) : CpInfo := .utf8 (stringToUtf16 s)
/-- a pool by its gaps: so many unusable entries, then the entry; so many at the end -/
def gap : Nat → List CpInfo → List CpInfo
  | 0, r => r
  | n + 1, r => .unusable :: gap n r
def poolList (es : List (Nat × CpInfo)) (last : Nat) : List CpInfo := es.foldr (fun e r => gap e.1 (e.2 :: r)) (gap last [])
def pool (es : List (Nat × CpInfo)) (last : Nat) : Array CpInfo := ⟨poolList es last⟩
def fileOf (pool : Array CpInfo) (this : Nat) (attrs : Array Attribute := #[]) (ms : Array MethodInfo := #[]) (fl : Nat := 33) (sup : Nat := 0) (ifs : Array Nat := #[]) (fds : Array FieldInfo := #[]) : ClassFile where
  minorVersion := 0
  majorVersion := 65
  constantPool := pool
  accessFlags := fl
  thisClass := this
  superClass := sup
  interfaces := ifs
  fields := fds
  methods := ms
  attributes := attrs
def plain (name : String) (sup : Option ClassId) : Class where
  name := name
  kind := .ordinary
  loader := none
  accessFlags := 33
  super := sup
  interfaces := #[]
  cf := none
  fields := #[]
  methods := #[]
  instanceTypes := #[]
  staticTypes := #[]
  resolved := #[]
  callSites := []
  init := .initialized
  statics := none
  mirror := none

def pool0 : Array CpInfo := pool [(5, u "<init>"), (0, u "()V"), (1, .class_ 10), (1, u "java/lang/Object")] 113

def k0m0 : Method := { name := "<init>", desc := "()V", sig := { parameters := [], returnType := none }, accessFlags := 1, code := none }
/-- java/lang/Object -/
def k0 : Class := { plain "java/lang/Object" none with
  accessFlags := 33
  interfaces := #[]
  cf := some (fileOf pool0 8 #[] #[{ accessFlags := 1, nameIndex := 5, descriptorIndex := 6, attributes := #[] }] 33 0 #[] #[])
  fields := #[]
  methods := #[k0m0]
  instanceTypes := #[]
  staticTypes := #[]
  resolved := Array.replicate 124 none
  statics := none }

def pool1 : Array CpInfo := pool [(2, .class_ 4), (1, u "java/lang/Object"), (0, u "<init>"), (0, u "()V"), (0, .integer 2147483647), (0, .class_ 9), (0, u "com/example/ringstead/ringstead/node/Wire$Call"), (0, .fieldref 8 11), (0, .nameAndType 12 13), (0, u "IDENTIFY"), (0, u "Lcom/example/ringstead/ringstead/node/Wire$Call;"), (0, .fieldref 8 15), (0, .nameAndType 16 13), (0, u "SUCCESSORS"), (0, .fieldref 8 18), (0, .nameAndType 19 13), (0, u "NEIGHBOURS"), (0, .fieldref 8 21), (0, .nameAndType 22 13), (0, u "CLOSEST_PRECEDING_FINGER"), (0, .fieldref 8 24), (0, .nameAndType 25 13), (0, u "NOTIFY_PREDECESSOR"), (0, .fieldref 8 27), (0, .nameAndType 28 13), (0, u "CLOSE_RING"), (0, .fieldref 8 30), (0, .nameAndType 31 13), (0, u "WRITE"), (0, .fieldref 8 33), (0, .nameAndType 34 13), (0, u "GET"), (0, .fieldref 8 36), (0, .nameAndType 37 13), (0, u "HAND_OVER"), (0, .fieldref 8 39), (0, .nameAndType 40 13), (0, u "TAKE_OVER"), (0, .fieldref 8 42), (0, .nameAndType 43 13), (0, u "COPY"), (0, .fieldref 8 45), (0, .nameAndType 46 13), (0, u "COPY_RANGE"), (0, .fieldref 8 48), (0, .nameAndType 49 13), (0, u "DROP_COPIES"), (0, .fieldref 8 51), (0, .nameAndType 52 13), (0, u "SIZE"), (0, .fieldref 8 54), (0, .nameAndType 55 13), (0, u "GRANT_LEASE"), (0, .fieldref 8 57), (0, .nameAndType 58 13), (0, u "COPY_HANDED_ON"), (0, .fieldref 8 60), (0, .nameAndType 61 13), (0, u "STABILIZED_BY"), (0, .methodref 8 63), (0, .nameAndType 64 65), (0, u "of"), (0, u "(I)Lcom/example/ringstead/ringstead/node/Wire$Call;"), (0, .methodref 8 67), (0, .nameAndType 68 69), (0, u "code"), (0, u "()I"), (0, .class_ 71), (0, u "com/example/ringstead/ringstead/node/CallOfPinLaw"), (2, u "law"), (0, u "(I)Z")] 12

def k1m0 : Method := { name := "<init>", desc := "()V", sig := { parameters := [], returnType := none }, accessFlags := 2, code := none }
def k1c1 : Code := { maxStack := 4, maxLocals := 4, code := code, exceptionTable := #[], attributes := #[] }
def k1m1 : Method := { name := "law", desc := "(I)Z", sig := { parameters := [.int], returnType := some .boolean }, accessFlags := 9, code := some k1c1 }
/-- com/example/ringstead/ringstead/node/CallOfPinLaw -/
def k1 : Class := { plain "com/example/ringstead/ringstead/node/CallOfPinLaw" (some 0) with
  accessFlags := 49
  interfaces := #[]
  cf := some (fileOf pool1 70 #[] #[{ accessFlags := 2, nameIndex := 5, descriptorIndex := 6, attributes := #[] }, { accessFlags := 9, nameIndex := 74, descriptorIndex := 75, attributes := #[] }] 49 2 #[] #[])
  fields := #[]
  methods := #[k1m0, k1m1]
  instanceTypes := #[]
  staticTypes := #[]
  resolved := Array.replicate 88 none
  statics := none }

def pool2 : Array CpInfo := pool [(1, .class_ 2), (0, u "java/lang/constant/Constable"), (0, .class_ 4), (0, u "java/lang/Object")] 6

/-- java/lang/constant/Constable -/
def k2 : Class := { plain "java/lang/constant/Constable" (some 0) with
  accessFlags := 1537
  interfaces := #[]
  cf := some (fileOf pool2 1 #[] #[] 1537 3 #[] #[])
  fields := #[]
  methods := #[]
  instanceTypes := #[]
  staticTypes := #[]
  resolved := Array.replicate 11 none
  statics := none }

def pool3 : Array CpInfo := pool [(1, .class_ 2), (0, u "java/lang/Comparable"), (0, .class_ 4), (0, u "java/lang/Object")] 7

/-- java/lang/Comparable -/
def k3 : Class := { plain "java/lang/Comparable" (some 0) with
  accessFlags := 1537
  interfaces := #[]
  cf := some (fileOf pool3 1 #[] #[] 1537 3 #[] #[])
  fields := #[]
  methods := #[]
  instanceTypes := #[]
  staticTypes := #[]
  resolved := Array.replicate 12 none
  statics := none }

def pool4 : Array CpInfo := pool [(1, .class_ 2), (0, u "java/io/Serializable"), (0, .class_ 4), (0, u "java/lang/Object")] 2

/-- java/io/Serializable -/
def k4 : Class := { plain "java/io/Serializable" (some 0) with
  accessFlags := 1537
  interfaces := #[]
  cf := some (fileOf pool4 1 #[] #[] 1537 3 #[] #[])
  fields := #[]
  methods := #[]
  instanceTypes := #[]
  staticTypes := #[]
  resolved := Array.replicate 7 none
  statics := none }

def pool5 : Array CpInfo := pool [(2, .class_ 4), (1, u "java/lang/Enum"), (0, u "name"), (0, u "Ljava/lang/String;"), (0, .fieldref 2 8), (0, .nameAndType 9 10), (0, u "ordinal"), (0, u "I"), (1, .class_ 14), (1, u "java/lang/Object"), (4, u "hash"), (86, .class_ 108), (1, u "java/lang/Enum$EnumDesc"), (2, .class_ 112), (0, u "java/lang/constant/Constable"), (0, .class_ 114), (0, u "java/lang/Comparable"), (0, .class_ 116), (0, u "java/io/Serializable"), (9, u "()I")] 77

def k5c0 : Code := { maxStack := 1, maxLocals := 1, code := jdk_37_method_2_code, exceptionTable := #[], attributes := #[] }
def k5m0 : Method := { name := "ordinal", desc := "()I", sig := { parameters := [], returnType := some .int }, accessFlags := 17, code := some k5c0 }
/-- java/lang/Enum -/
def k5 : Class := { plain "java/lang/Enum" (some 0) with
  accessFlags := 1057
  interfaces := #[2, 3, 4]
  cf := some (fileOf pool5 2 #[.nestMembers #[106]] #[{ accessFlags := 17, nameIndex := 9, descriptorIndex := 126, attributes := #[] }] 1057 12 #[111, 113, 115] #[{ accessFlags := 18, nameIndex := 5, descriptorIndex := 6, attributes := #[] }, { accessFlags := 18, nameIndex := 9, descriptorIndex := 10, attributes := #[] }, { accessFlags := 2, nameIndex := 19, descriptorIndex := 10, attributes := #[] }])
  fields := #[{ name := "name", type := (.object "java/lang/String"), accessFlags := 18, slot := 0, constantValue := 0 }, { name := "ordinal", type := .int, accessFlags := 18, slot := 1, constantValue := 0 }, { name := "hash", type := .int, accessFlags := 2, slot := 2, constantValue := 0 }]
  methods := #[k5m0]
  instanceTypes := #[(.object "java/lang/String"), .int, .int]
  staticTypes := #[]
  resolved := Array.replicate 204 none
  statics := none }

def pool6 : Array CpInfo := pool [(1, .class_ 2), (0, u "com/example/ringstead/ringstead/node/Wire$Call"), (2, u "IDENTIFY"), (0, u "Lcom/example/ringstead/ringstead/node/Wire$Call;"), (2, u "SUCCESSORS"), (2, u "NEIGHBOURS"), (2, u "CLOSEST_PRECEDING_FINGER"), (2, u "NOTIFY_PREDECESSOR"), (2, u "CLOSE_RING"), (2, u "WRITE"), (2, u "GET"), (2, u "HAND_OVER"), (2, u "TAKE_OVER"), (2, u "COPY"), (2, u "COPY_RANGE"), (2, u "DROP_COPIES"), (2, u "SIZE"), (2, u "GRANT_LEASE"), (2, u "COPY_HANDED_ON"), (2, u "STABILIZED_BY"), (2, u "$VALUES"), (0, u "[Lcom/example/ringstead/ringstead/node/Wire$Call;"), (6, .class_ 67), (1, u "java/lang/Enum"), (6, .methodref 1 75), (0, .nameAndType 76 77), (0, u "ordinal"), (0, u "()I"), (0, .fieldref 1 79), (0, .nameAndType 80 58), (0, u "BY_CODE"), (40, u "code"), (0, u "of"), (0, u "(I)Lcom/example/ringstead/ringstead/node/Wire$Call;"), (7, .class_ 132), (0, u "com/example/ringstead/ringstead/node/Wire")] 16

def k6c0 : Code := { maxStack := 1, maxLocals := 1, code := prog_70_method_4_code, exceptionTable := #[], attributes := #[] }
def k6m0 : Method := { name := "code", desc := "()I", sig := { parameters := [], returnType := some .int }, accessFlags := 0, code := some k6c0 }
def k6c1 : Code := { maxStack := 3, maxLocals := 1, code := prog_70_method_5_code, exceptionTable := #[], attributes := #[] }
def k6m1 : Method := { name := "of", desc := "(I)Lcom/example/ringstead/ringstead/node/Wire$Call;", sig := { parameters := [.int], returnType := some (.object "com/example/ringstead/ringstead/node/Wire$Call") }, accessFlags := 8, code := some k6c1 }
/-- com/example/ringstead/ringstead/node/Wire$Call -/
def k6 : Class := { plain "com/example/ringstead/ringstead/node/Wire$Call" (some 5) with
  accessFlags := 16432
  interfaces := #[]
  cf := some (fileOf pool6 1 #[.nestHost 131] #[{ accessFlags := 0, nameIndex := 121, descriptorIndex := 77, attributes := #[] }, { accessFlags := 8, nameIndex := 122, descriptorIndex := 123, attributes := #[] }] 16432 65 #[] #[{ accessFlags := 16409, nameIndex := 5, descriptorIndex := 6, attributes := #[] }, { accessFlags := 16409, nameIndex := 9, descriptorIndex := 6, attributes := #[] }, { accessFlags := 16409, nameIndex := 12, descriptorIndex := 6, attributes := #[] }, { accessFlags := 16409, nameIndex := 15, descriptorIndex := 6, attributes := #[] }, { accessFlags := 16409, nameIndex := 18, descriptorIndex := 6, attributes := #[] }, { accessFlags := 16409, nameIndex := 21, descriptorIndex := 6, attributes := #[] }, { accessFlags := 16409, nameIndex := 24, descriptorIndex := 6, attributes := #[] }, { accessFlags := 16409, nameIndex := 27, descriptorIndex := 6, attributes := #[] }, { accessFlags := 16409, nameIndex := 30, descriptorIndex := 6, attributes := #[] }, { accessFlags := 16409, nameIndex := 33, descriptorIndex := 6, attributes := #[] }, { accessFlags := 16409, nameIndex := 36, descriptorIndex := 6, attributes := #[] }, { accessFlags := 16409, nameIndex := 39, descriptorIndex := 6, attributes := #[] }, { accessFlags := 16409, nameIndex := 42, descriptorIndex := 6, attributes := #[] }, { accessFlags := 16409, nameIndex := 45, descriptorIndex := 6, attributes := #[] }, { accessFlags := 16409, nameIndex := 48, descriptorIndex := 6, attributes := #[] }, { accessFlags := 16409, nameIndex := 51, descriptorIndex := 6, attributes := #[] }, { accessFlags := 16409, nameIndex := 54, descriptorIndex := 6, attributes := #[] }, { accessFlags := 26, nameIndex := 80, descriptorIndex := 58, attributes := #[] }, { accessFlags := 4122, nameIndex := 57, descriptorIndex := 58, attributes := #[] }])
  fields := #[{ name := "IDENTIFY", type := (.object "com/example/ringstead/ringstead/node/Wire$Call"), accessFlags := 16409, slot := 0, constantValue := 0 }, { name := "SUCCESSORS", type := (.object "com/example/ringstead/ringstead/node/Wire$Call"), accessFlags := 16409, slot := 1, constantValue := 0 }, { name := "NEIGHBOURS", type := (.object "com/example/ringstead/ringstead/node/Wire$Call"), accessFlags := 16409, slot := 2, constantValue := 0 }, { name := "CLOSEST_PRECEDING_FINGER", type := (.object "com/example/ringstead/ringstead/node/Wire$Call"), accessFlags := 16409, slot := 3, constantValue := 0 }, { name := "NOTIFY_PREDECESSOR", type := (.object "com/example/ringstead/ringstead/node/Wire$Call"), accessFlags := 16409, slot := 4, constantValue := 0 }, { name := "CLOSE_RING", type := (.object "com/example/ringstead/ringstead/node/Wire$Call"), accessFlags := 16409, slot := 5, constantValue := 0 }, { name := "WRITE", type := (.object "com/example/ringstead/ringstead/node/Wire$Call"), accessFlags := 16409, slot := 6, constantValue := 0 }, { name := "GET", type := (.object "com/example/ringstead/ringstead/node/Wire$Call"), accessFlags := 16409, slot := 7, constantValue := 0 }, { name := "HAND_OVER", type := (.object "com/example/ringstead/ringstead/node/Wire$Call"), accessFlags := 16409, slot := 8, constantValue := 0 }, { name := "TAKE_OVER", type := (.object "com/example/ringstead/ringstead/node/Wire$Call"), accessFlags := 16409, slot := 9, constantValue := 0 }, { name := "COPY", type := (.object "com/example/ringstead/ringstead/node/Wire$Call"), accessFlags := 16409, slot := 10, constantValue := 0 }, { name := "COPY_RANGE", type := (.object "com/example/ringstead/ringstead/node/Wire$Call"), accessFlags := 16409, slot := 11, constantValue := 0 }, { name := "DROP_COPIES", type := (.object "com/example/ringstead/ringstead/node/Wire$Call"), accessFlags := 16409, slot := 12, constantValue := 0 }, { name := "SIZE", type := (.object "com/example/ringstead/ringstead/node/Wire$Call"), accessFlags := 16409, slot := 13, constantValue := 0 }, { name := "GRANT_LEASE", type := (.object "com/example/ringstead/ringstead/node/Wire$Call"), accessFlags := 16409, slot := 14, constantValue := 0 }, { name := "COPY_HANDED_ON", type := (.object "com/example/ringstead/ringstead/node/Wire$Call"), accessFlags := 16409, slot := 15, constantValue := 0 }, { name := "STABILIZED_BY", type := (.object "com/example/ringstead/ringstead/node/Wire$Call"), accessFlags := 16409, slot := 16, constantValue := 0 }, { name := "BY_CODE", type := (.array (.object "com/example/ringstead/ringstead/node/Wire$Call")), accessFlags := 26, slot := 17, constantValue := 0 }, { name := "$VALUES", type := (.array (.object "com/example/ringstead/ringstead/node/Wire$Call")), accessFlags := 4122, slot := 18, constantValue := 0 }]
  methods := #[k6m0, k6m1]
  instanceTypes := #[(.object "java/lang/String"), .int, .int]
  staticTypes := #[(.object "com/example/ringstead/ringstead/node/Wire$Call"), (.object "com/example/ringstead/ringstead/node/Wire$Call"), (.object "com/example/ringstead/ringstead/node/Wire$Call"), (.object "com/example/ringstead/ringstead/node/Wire$Call"), (.object "com/example/ringstead/ringstead/node/Wire$Call"), (.object "com/example/ringstead/ringstead/node/Wire$Call"), (.object "com/example/ringstead/ringstead/node/Wire$Call"), (.object "com/example/ringstead/ringstead/node/Wire$Call"), (.object "com/example/ringstead/ringstead/node/Wire$Call"), (.object "com/example/ringstead/ringstead/node/Wire$Call"), (.object "com/example/ringstead/ringstead/node/Wire$Call"), (.object "com/example/ringstead/ringstead/node/Wire$Call"), (.object "com/example/ringstead/ringstead/node/Wire$Call"), (.object "com/example/ringstead/ringstead/node/Wire$Call"), (.object "com/example/ringstead/ringstead/node/Wire$Call"), (.object "com/example/ringstead/ringstead/node/Wire$Call"), (.object "com/example/ringstead/ringstead/node/Wire$Call"), (.array (.object "com/example/ringstead/ringstead/node/Wire$Call")), (.array (.object "com/example/ringstead/ringstead/node/Wire$Call"))]
  resolved := Array.replicate 149 none
  statics := some 0 }

def pool7 : Array CpInfo := pool [(1, u "java/lang/Cloneable"), (0, .class_ 1), (0, u "java/lang/Object"), (0, .class_ 3)] 3

/-- java/lang/Cloneable -/
def k7 : Class := { plain "java/lang/Cloneable" (some 0) with
  accessFlags := 1537
  interfaces := #[]
  cf := some (fileOf pool7 2 #[] #[] 1537 4 #[] #[])
  fields := #[]
  methods := #[]
  instanceTypes := #[]
  staticTypes := #[]
  resolved := Array.replicate 8 none
  statics := none }

/-- the primitive byte -/
def k8 : Class := { plain "byte" none with kind := .primitive 'B', accessFlags := 0x411 }
/-- [B -/
def k9 : Class := { plain "[B" (some 0) with kind := .array 8 .byte, interfaces := #[7, 4], accessFlags := 1041 }

/-- the primitive int -/
def k10 : Class := { plain "int" none with kind := .primitive 'I', accessFlags := 0x411 }
/-- [I -/
def k11 : Class := { plain "[I" (some 0) with kind := .array 10 .int, interfaces := #[7, 4], accessFlags := 1041 }

/-- [Lcom/example/ringstead/ringstead/node/Wire$Call; -/
def k12 : Class := { plain "[Lcom/example/ringstead/ringstead/node/Wire$Call;" (some 0) with kind := .array 6 (.object "com/example/ringstead/ringstead/node/Wire$Call"), interfaces := #[7, 4], accessFlags := 1041 }

def heap : Heap := #[{ cls := 6, slots := #[.ref 2, .ref 3, .ref 4, .ref 5, .ref 6, .ref 7, .ref 8, .ref 9, .ref 10, .ref 11, .ref 12, .ref 13, .ref 14, .ref 15, .ref 16, .ref 17, .ref 18, .ref 1, .null], vm := .statics 6 },
  { cls := 12, slots := #[.ref 2, .ref 3, .ref 4, .ref 5, .ref 6, .ref 7, .ref 8, .ref 9, .ref 10, .ref 11, .ref 12, .ref 13, .ref 14, .ref 15, .ref 16, .ref 17, .ref 18], vm := .none },
  { cls := 6, slots := #[.null, .int 0, .int 0], vm := .none },
  { cls := 6, slots := #[.null, .int 1, .int 0], vm := .none },
  { cls := 6, slots := #[.null, .int 2, .int 0], vm := .none },
  { cls := 6, slots := #[.null, .int 3, .int 0], vm := .none },
  { cls := 6, slots := #[.null, .int 4, .int 0], vm := .none },
  { cls := 6, slots := #[.null, .int 5, .int 0], vm := .none },
  { cls := 6, slots := #[.null, .int 6, .int 0], vm := .none },
  { cls := 6, slots := #[.null, .int 7, .int 0], vm := .none },
  { cls := 6, slots := #[.null, .int 8, .int 0], vm := .none },
  { cls := 6, slots := #[.null, .int 9, .int 0], vm := .none },
  { cls := 6, slots := #[.null, .int 10, .int 0], vm := .none },
  { cls := 6, slots := #[.null, .int 11, .int 0], vm := .none },
  { cls := 6, slots := #[.null, .int 12, .int 0], vm := .none },
  { cls := 6, slots := #[.null, .int 13, .int 0], vm := .none },
  { cls := 6, slots := #[.null, .int 14, .int 0], vm := .none },
  { cls := 6, slots := #[.null, .int 15, .int 0], vm := .none },
  { cls := 6, slots := #[.null, .int 16, .int 0], vm := .none }]
def classes : Array Class := #[k0, k1, k2, k3, k4, k5, k6, k7, k8, k9, k10, k11, k12]
def interned : List (Array UInt16 × Addr) := []
def slotsUsed : Nat := 87
def theMethod : MethodId := ⟨1, 1⟩
def args0 : Array Value := #[.int 3]
def aboutOver (below : List Frame) : State where
  vm := { classes := classes, interned := interned.toArray }
  heap := heap
  slotsUsed := slotsUsed
  threads := #[{ frames := .invoking theMethod args0 :: below }]
def below0 : List Frame := [.native { method := ⟨0, 0⟩, args := #[] }]
def about1 : State := aboutOver below0
def p0 : Program := .bare "" "" ""
def e0 : Env := launch0.env 0 0 0
theorem w_frames : about1.frames = Frame.invoking theMethod args0 :: below0 := rfl
set_option maxRecDepth 65536 in
theorem w_args : argsFit about1.vm theMethod args0 = true := by decide +kernel
set_option maxRecDepth 65536 in
theorem w_heap : heapFits about1 = true := by decide +kernel
set_option maxRecDepth 65536 in
theorem w_runnable : about1.curStatus? = some .runnable := by decide +kernel
set_option maxRecDepth 65536 in
theorem w_alone : about1.alone = true := by decide +kernel
set_option maxRecDepth 65536 in
theorem w_named : about1.methodNamed? x = some theMethod := by decide +kernel
set_option maxRecDepth 65536 in
theorem w_hears : about1.hears theMethod below0 = true := by decide +kernel
set_option maxRecDepth 65536 in
theorem w_ripe : about1.ripe theMethod args0 below0 = true := by decide +kernel
theorem w_running : about1.status = .running := rfl
set_option maxRecDepth 65536 in
theorem w_room : about1.hasRoom e0.platform room_1 = true :=
  launch0.hasRoom_least _ room_1 (by decide +kernel) (by decide +kernel) (by decide +kernel) (by decide +kernel) (by decide +kernel) (by decide +kernel)
theorem allAtoms_all (ts : List Jvm.Cond) (a : Array Jvm.Value) (st : Jvm.State) : (allAtoms ts).before a st = ts.all (fun c => c.before a st) := by
  induction ts with
  | nil => rfl
  | cons c t ih =>
    show (Jvm.Cond.and c (allAtoms t)).before a st = _
    rw [Jvm.Cond.before_and, ih, List.all_cons]
def words1 : List Jvm.Cond := Jvm.Cond.code x code maxLocals ret :: tables_1
/-- a 'code' word, met by the world's own term for the bytes: nothing is compared byte by byte -/
theorem code_word {y : MethodName} {bytes : ByteArray} {mx : Nat} {rt : Option FieldType} {a : Array Value} {s : State} {m : MethodId} {meth : Method} {c : Code} (h1 : s.methodNamed? y = some m) (h2 : s.vm.method? m = some meth) (h3 : meth.code = some c) (h4 : c.code = bytes)
    (h5 : (c.maxLocals == mx && c.exceptionTable.isEmpty && decide (c.maxStack ≤ mostOperands) && decide (meth.sig.returnType = rt) && !meth.locks && decide (parseMethodDescriptor y.desc = some meth.sig)) = true) : (Jvm.Cond.code y bytes mx rt).before a s = true := by
  simp only [Bool.and_eq_true, beq_iff_eq, Bool.not_eq_true', decide_eq_true_eq] at h5
  obtain ⟨⟨⟨⟨⟨g1, g2⟩, g3⟩, g4⟩, g5⟩, g6⟩ := h5
  simp [Cond.before, Cond.holds, Cond.value, h1, h2, h3, h4, g1, g2, g3, g4, g5, g6]
def isCode : Jvm.Cond → Bool
  | .code _ _ _ _ => true
  | _ => false
theorem all_split {L : List Jvm.Cond} {P : Jvm.Cond → Bool} (h1 : L.all (fun c => isCode c || P c) = true) (h2 : ∀ c ∈ L.filter isCode, P c = true) : L.all P = true := by
  refine List.all_eq_true.mpr fun c hc => ?_
  have h := List.all_eq_true.mp h1 c hc
  rcases Bool.eq_false_or_eq_true (isCode c) with hi | hi
  · exact h2 c (List.mem_filter.mpr ⟨hc, hi⟩)
  · simpa [hi] using h
set_option maxRecDepth 65536 in
theorem w_c0 : (Jvm.Cond.code x code maxLocals ret).before args0 about1 = true := code_word (m := ⟨1, 1⟩) (meth := k1m1) (c := k1c1) (by decide +kernel) rfl rfl rfl (by decide +kernel)
set_option maxRecDepth 65536 in
theorem w_c1 : (Jvm.Cond.code ({ cls := "com/example/ringstead/ringstead/node/Wire$Call", name := "of", desc := "(I)Lcom/example/ringstead/ringstead/node/Wire$Call;" } : Jvm.MethodName) prog_70_method_5_code (1 : Nat) (Option.some (Jvm.ClassFile.FieldType.object "com/example/ringstead/ringstead/node/Wire$Call"))).before args0 about1 = true := code_word (m := ⟨6, 1⟩) (meth := k6m1) (c := k6c1) (by decide +kernel) rfl rfl rfl (by decide +kernel)
set_option maxRecDepth 65536 in
theorem w_c2 : (Jvm.Cond.code ({ cls := "com/example/ringstead/ringstead/node/Wire$Call", name := "code", desc := "()I" } : Jvm.MethodName) prog_70_method_4_code (1 : Nat) (Option.some Jvm.ClassFile.FieldType.int)).before args0 about1 = true := code_word (m := ⟨6, 0⟩) (meth := k6m0) (c := k6c0) (by decide +kernel) rfl rfl rfl (by decide +kernel)
set_option maxRecDepth 65536 in
theorem w_c3 : (Jvm.Cond.code ({ cls := "java/lang/Enum", name := "ordinal", desc := "()I" } : Jvm.MethodName) jdk_37_method_2_code (1 : Nat) (Option.some Jvm.ClassFile.FieldType.int)).before args0 about1 = true := code_word (m := ⟨5, 0⟩) (meth := k5m0) (c := k5c0) (by decide +kernel) rfl rfl rfl (by decide +kernel)
def codes1 : List Jvm.Cond := [Jvm.Cond.code x code maxLocals ret, Jvm.Cond.code ({ cls := "com/example/ringstead/ringstead/node/Wire$Call", name := "of", desc := "(I)Lcom/example/ringstead/ringstead/node/Wire$Call;" } : Jvm.MethodName) prog_70_method_5_code (1 : Nat) (Option.some (Jvm.ClassFile.FieldType.object "com/example/ringstead/ringstead/node/Wire$Call")), Jvm.Cond.code ({ cls := "com/example/ringstead/ringstead/node/Wire$Call", name := "code", desc := "()I" } : Jvm.MethodName) prog_70_method_4_code (1 : Nat) (Option.some Jvm.ClassFile.FieldType.int), Jvm.Cond.code ({ cls := "java/lang/Enum", name := "ordinal", desc := "()I" } : Jvm.MethodName) jdk_37_method_2_code (1 : Nat) (Option.some Jvm.ClassFile.FieldType.int)]
set_option maxRecDepth 65536 in
theorem codes_eq : words1.filter isCode = codes1 := rfl
theorem w_codes : ∀ c ∈ words1.filter isCode, c.before args0 about1 = true := by
  rw [codes_eq]
  intro c hc
  simp only [codes1, List.mem_cons, List.not_mem_nil, or_false] at hc
  rcases hc with rfl | rfl | rfl | rfl
  · exact w_c0
  · exact w_c1
  · exact w_c2
  · exact w_c3
set_option maxRecDepth 65536 in
theorem w_t1 : (words1.take 24).all (fun c => isCode c || c.before args0 about1) = true := by decide +kernel
set_option maxRecDepth 65536 in
theorem w_t2 : ((words1.drop 24).take 24).all (fun c => isCode c || c.before args0 about1) = true := by decide +kernel
set_option maxRecDepth 65536 in
theorem w_t3 : ((words1.drop 24).drop 24).all (fun c => isCode c || c.before args0 about1) = true := by decide +kernel
theorem w_tables : (allAtoms (Jvm.Cond.code x code maxLocals ret :: tables_1)).before args0 about1 = true := by
  rw [allAtoms_all]
  show words1.all (fun c => c.before args0 about1) = true
  refine all_split ?_ w_codes
  rw [← List.take_append_drop 24 words1, List.all_append, w_t1, ← List.take_append_drop 24 (words1.drop 24), List.all_append, w_t2, w_t3]
  rfl
set_option maxRecDepth 65536 in
theorem w_case : (Jvm.Cond.and given_1 narrow_1).before args0 about1 = true := by decide +kernel
theorem w_applies : (headSpec (Jvm.Cond.code x code maxLocals ret :: tables_1) room_1).applies x e0.platform about1 = true :=
  (Spec.applies_iff w_frames).mpr ⟨w_running, w_runnable, w_alone, w_named, w_hears, w_ripe, w_room, w_tables⟩
theorem atStart : AtStart classFile x code maxLocals ret World_1 tables_1 room_1 Calls_1 rest_1 Pre_1 launch0 p0 e0 about1 theMethod args0 below0 :=
  ⟨lists_1, trivial, launch0.admits_env _ _ _, launch0.least_env, fairChoices_fair.cas, fairChoices_fair.clock, w_frames, w_args, w_heap, w_applies, trivial, trivial, w_case⟩
end start1
theorem witness_1 : WitnessClaimed_1 := ⟨start1.p0, start1.e0, start1.about1, start1.theMethod, start1.args0, start1.below0, start1.atStart⟩
end Jvm.Pilot.@@N@@
