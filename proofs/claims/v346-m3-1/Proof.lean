import JvmDerived
import JvmDerived.Pilot.@@N@@Statement
import JvmDerived.Pilot.@@N@@Code
set_option linter.unusedVariables false
set_option linter.unusedSimpArgs false
@@BLOCK:NumsL.lean.txt@@
namespace Jvm.RoadKit
open Sem ClassFile Op Lib Jvm.Stand Jvm.Free Jvm.LawKit
section New
variable {p : Program} {l : Launch} {e : Env} {R : Room} {s : State} {m : MethodId} {args : Array Value} {below : List Frame} {meth : Method} {c : Code} {T : State} {locs : List Loc} {cells slots : Nat}
theorem retI (X : Stand p l e R s m args below meth c T locs cells slots) (hx : p.tables.exec = Jvm.exec) {pc : Nat} {Ls : Array Slot} {z : Int32} {rest : List Value} (hret : meth.sig.returnType = some .int) (hd : decode c.code pc = .ok (.ireturn, 1)) {fs : List Frame}
    (hl : ∀ (f : JFrame) (acts : List Action), f.method = m → f.locked = none → f.entered = [] → (doReturn e (T.setTop f) acts (some (.int z))).1 = T.setFrames fs) : Steps p.tables e below (T.setTop (mkF m pc Ls (.int z :: rest))) (T.setFrames fs) := by
  have hm' : T.vm.method? m = some meth := X.method'
  have hn : narrow .int (.int z) = .int z := rfl
  show Steps p.tables e below (T.setTop { method := m, pc := pc, locals := Ls, stack := _ :: rest, locked := none }) _
  jvm_step X.here [X.here.top, hx, hd, hm', hret, hn]
  first | (intro acts; rw [hl _ acts rfl rfl rfl]) | rw [hl _ _ rfl rfl rfl]
  exact Steps.refl _
end New
end Jvm.RoadKit
namespace Jvm.Pilot.@@N@@
open Jvm Jvm.ClassFile Sem Op Lib Jvm.Free Jvm.Stand Jvm.LawKit Jvm.RoadKit Bundle Jvm.Pilot.@@N@@.Jvm.D
theorem own_eqI {args : Array Value} {s : State} {a : Term} {k : Int32} (h : (Cond.eq a (.int k)).value args s none s [] = some true) : a.eval args s none [] s = some (.int k) := by
  obtain ⟨x, y, hx, hy, k1, k2⟩ := cmp_v (Or.inl h)
  obtain rfl : Value.int k = y := Option.some.inj ((Term.int_eval k).symm.trans hy)
  obtain ⟨z, rfl⟩ : ∃ z, x = .int z := k2
  have hz : z = k := gotT (Cond.eq_ints hx hy) h
  rw [hz] at hx; exact hx
theorem own_eqR {args : Array Value} {s : State} {a b : Term} {y : Addr} (hb : b.eval args s none [] s = some (.ref y)) (h : (Cond.eq a b).value args s none s [] = some true) : a.eval args s none [] s = some (.ref y) := by
  obtain ⟨x, y', hx, hy, k1, k2⟩ := cmp_v (Or.inl h)
  obtain rfl : Value.ref y = y' := Option.some.inj (hb.symm.trans hy)
  have hr : x.isRef = true := k2.2
  have hz : x = .ref y := gotT (eq_R hx hy hr rfl) h
  rw [hz] at hx; exact hx
theorem own_z {Z : State} {n0 : Nat} {h : Heap} (O : Old Z n0 h) : n0 ≤ h.size := O.1 ▸ O.2.1
theorem own_len {args : Array Value} {s : State} {t : Term} {x : Addr} {cl : Cell} {ty : FieldType} {n : Int32} (ev : t.eval args s none [] s = some (.ref x)) (A : Arr s s.heap x cl ty) (h : (Term.length t).eval args s none [] s = some (.int n)) : cl.slots.size < 2 ^ 31 ∧ cl.slots.size.toInt32 = n := by
  have ha : s.arrayAt? x = some cl := IntBox.arrayAt_of A.1 A.2.1 A.2.2
  simpa [Term.eval, ev, ha] using h
theorem own_elem {args : Array Value} {s : State} {t : Term} {x : Addr} {cl : Cell} {ty : FieldType} {j : Int32} {v : Value} {i : Nat} (ev : t.eval args s none [] s = some (.ref x)) (A : Arr s s.heap x cl ty) (h : (Term.elem t (.int j)).eval args s none [] s = some v) (hi : j.toNatClampNeg = i) : cl.slots[i]? = some v := by
  have q := (elem_in h ev (Term.int_eval j) A.1).2
  rw [hi] at q; exact q
def own_ws : List Jvm.Cond := tables_1
theorem gw (i : Nat) {d : Jvm.Cond} (h : own_ws[i]? = some d) : d ∈ own_ws := List.mem_of_getElem? h
theorem own_mod9 {y x : Int32} (h : y = x &&& 2147483647) : y % 9 = 0 ∨ y % 9 = 1 ∨ y % 9 = 2 ∨ y % 9 = 3 ∨ y % 9 = 4 ∨ y % 9 = 5 ∨ y % 9 = 6 ∨ y % 9 = 7 ∨ y % 9 = 8 := by
  subst h
  have h := Jvm.Kit.i32_mask x 2147483647 (k := 31) (by decide) (by decide +kernel)
  have hn : (9 : Int32).toInt = 9 := by decide +kernel
  have h2 : ((x &&& 2147483647) % 9).toInt = (x &&& 2147483647).toInt % 9 := by rw [Jvm.Kit.i32_rem_nonneg (by omega), hn]
  have e0 : (0 : Int32).toInt = 0 := by decide +kernel
  have e1 : (1 : Int32).toInt = 1 := by decide +kernel
  have e2 : (2 : Int32).toInt = 2 := by decide +kernel
  have e3 : (3 : Int32).toInt = 3 := by decide +kernel
  have e4 : (4 : Int32).toInt = 4 := by decide +kernel
  have e5 : (5 : Int32).toInt = 5 := by decide +kernel
  have e6 : (6 : Int32).toInt = 6 := by decide +kernel
  have e7 : (7 : Int32).toInt = 7 := by decide +kernel
  have e8 : (8 : Int32).toInt = 8 := by decide +kernel
  simp only [← Int32.toInt_inj, e0, e1, e2, e3, e4, e5, e6, e7, e8]
  omega
theorem d1_0 : decode method_2_code 0 = .ok (.iload_n 0, 1) := by decide +kernel
theorem d1_1 : decode method_2_code 1 = .ok (.ifCond .ne 7, 3) := by decide +kernel
theorem d1_4 : decode method_2_code 4 = .ok (.getstatic 7, 3) := by decide +kernel
theorem d1_7 : decode method_2_code 7 = .ok (.areturn, 1) := by decide +kernel
abbrev M_0 : MethodName := ⟨"com/example/railspan/railspan/game/CardIsLocomotivePinLaw", "pick", "(I)Lcom/example/railspan/railspan/game/Card;"⟩
theorem pn_0 : plainName "com/example/railspan/railspan/game/CardIsLocomotivePinLaw" = true := by first | (simp [plainName, overriddenIn]; done) | decide +kernel
theorem pd_0 : parseMethodDescriptor "(I)Lcom/example/railspan/railspan/game/Card;" = some ⟨[.int], some (.object "com/example/railspan/railspan/game/Card")⟩ := by decide +kernel
theorem d2_0 : decode prog_19_method_5_code 0 = .ok (.aload_n 0, 1) := by decide +kernel
theorem d2_1 : decode prog_19_method_5_code 1 = .ok (.getfield 50, 3) := by decide +kernel
theorem d2_4 : decode prog_19_method_5_code 4 = .ok (.ifnonnull 7, 3) := by decide +kernel
theorem d2_11 : decode prog_19_method_5_code 11 = .ok (.iconst 0, 1) := by decide +kernel
theorem d2_12 : decode prog_19_method_5_code 12 = .ok (.ireturn, 1) := by decide +kernel
abbrev M_1 : MethodName := ⟨"com/example/railspan/railspan/game/Card", "isLocomotive", "()Z"⟩
theorem pn_1 : plainName "com/example/railspan/railspan/game/Card" = true := by first | (simp [plainName, overriddenIn]; done) | decide +kernel
theorem pd_1 : parseMethodDescriptor "()Z" = some ⟨[], some .boolean⟩ := by decide +kernel
theorem d3_0 : decode prog_19_method_4_code 0 = .ok (.aload_n 0, 1) := by decide +kernel
theorem d3_1 : decode prog_19_method_4_code 1 = .ok (.getfield 50, 3) := by decide +kernel
theorem d3_4 : decode prog_19_method_4_code 4 = .ok (.areturn, 1) := by decide +kernel
abbrev M_2 : MethodName := ⟨"com/example/railspan/railspan/game/Card", "colour", "()Lcom/example/railspan/railspan/board/Colour;"⟩
theorem pd_2 : parseMethodDescriptor "()Lcom/example/railspan/railspan/board/Colour;" = some ⟨[], some (.object "com/example/railspan/railspan/board/Colour")⟩ := by decide +kernel
theorem d1_8 : decode method_2_code 8 = .ok (.iload_n 0, 1) := by decide +kernel
theorem d1_9 : decode method_2_code 9 = .ok (.iconst 1, 1) := by decide +kernel
theorem d1_10 : decode method_2_code 10 = .ok (.if_icmp .ne 7, 3) := by decide +kernel
theorem d1_13 : decode method_2_code 13 = .ok (.getstatic 13, 3) := by decide +kernel
theorem d1_16 : decode method_2_code 16 = .ok (.areturn, 1) := by decide +kernel
theorem d1_17 : decode method_2_code 17 = .ok (.iload_n 0, 1) := by decide +kernel
theorem d1_18 : decode method_2_code 18 = .ok (.iconst 2, 1) := by decide +kernel
theorem d1_19 : decode method_2_code 19 = .ok (.if_icmp .ne 7, 3) := by decide +kernel
theorem d1_22 : decode method_2_code 22 = .ok (.getstatic 16, 3) := by decide +kernel
theorem d1_25 : decode method_2_code 25 = .ok (.areturn, 1) := by decide +kernel
theorem d1_26 : decode method_2_code 26 = .ok (.iload_n 0, 1) := by decide +kernel
theorem d1_27 : decode method_2_code 27 = .ok (.iconst 3, 1) := by decide +kernel
theorem d1_28 : decode method_2_code 28 = .ok (.if_icmp .ne 7, 3) := by decide +kernel
theorem d1_31 : decode method_2_code 31 = .ok (.getstatic 19, 3) := by decide +kernel
theorem d1_34 : decode method_2_code 34 = .ok (.areturn, 1) := by decide +kernel
theorem d2_7 : decode prog_19_method_5_code 7 = .ok (.iconst 1, 1) := by decide +kernel
theorem d2_8 : decode prog_19_method_5_code 8 = .ok (.goto 4, 3) := by decide +kernel
theorem d1_35 : decode method_2_code 35 = .ok (.iload_n 0, 1) := by decide +kernel
theorem d1_36 : decode method_2_code 36 = .ok (.iconst 4, 1) := by decide +kernel
theorem d1_37 : decode method_2_code 37 = .ok (.if_icmp .ne 7, 3) := by decide +kernel
theorem d1_40 : decode method_2_code 40 = .ok (.getstatic 22, 3) := by decide +kernel
theorem d1_43 : decode method_2_code 43 = .ok (.areturn, 1) := by decide +kernel
theorem d1_44 : decode method_2_code 44 = .ok (.iload_n 0, 1) := by decide +kernel
theorem d1_45 : decode method_2_code 45 = .ok (.iconst 5, 1) := by decide +kernel
theorem d1_46 : decode method_2_code 46 = .ok (.if_icmp .ne 7, 3) := by decide +kernel
theorem d1_49 : decode method_2_code 49 = .ok (.getstatic 25, 3) := by decide +kernel
theorem d1_52 : decode method_2_code 52 = .ok (.areturn, 1) := by decide +kernel
theorem d1_53 : decode method_2_code 53 = .ok (.iload_n 0, 1) := by decide +kernel
theorem d1_54 : decode method_2_code 54 = .ok (.bipush 6, 2) := by decide +kernel
theorem d1_56 : decode method_2_code 56 = .ok (.if_icmp .ne 7, 3) := by decide +kernel
theorem d1_59 : decode method_2_code 59 = .ok (.getstatic 28, 3) := by decide +kernel
theorem d1_62 : decode method_2_code 62 = .ok (.areturn, 1) := by decide +kernel
theorem d1_63 : decode method_2_code 63 = .ok (.iload_n 0, 1) := by decide +kernel
theorem d1_64 : decode method_2_code 64 = .ok (.bipush 7, 2) := by decide +kernel
theorem d1_66 : decode method_2_code 66 = .ok (.if_icmp .ne 7, 3) := by decide +kernel
theorem d1_69 : decode method_2_code 69 = .ok (.getstatic 31, 3) := by decide +kernel
theorem d1_72 : decode method_2_code 72 = .ok (.areturn, 1) := by decide +kernel
theorem d1_73 : decode method_2_code 73 = .ok (.getstatic 34, 3) := by decide +kernel
theorem d1_76 : decode method_2_code 76 = .ok (.areturn, 1) := by decide +kernel
theorem ef_rm1_2 (m : MethodId)  : entryFrame m #[(.int (0 : Int32))] 1 = mkF m 0 #[.val (.int (0 : Int32))] [] := by first | (simp [entryFrame, mkF, argsToLocals, Value.category]; done) | rfl
def Q1_2 (Z : State) (a1 : Addr) (h0 : Heap) (n0 : Nat) (v : Option Value) (h : Heap) (L : List Loc) : Prop := (v = some (.ref a1) ∧ Fr n0 L ∧ h = h0)
set_option maxRecDepth 65536 in
set_option maxHeartbeats 40000000 in
theorem rm1_2 (l : Launch) (Z : State) (a0 : Array Value) (hw : ∀ d ∈ own_ws, d.before a0 Z = true) (ws : List Jvm.Cond) (a1 : Addr) (h0 : Heap) (n0 : Nat) (O0 : Old Z n0 h0) (S_2 : Sta Z Z.heap "com/example/railspan/railspan/game/Card" "BLUE" "Lcom/example/railspan/railspan/game/Card;" (.ref a1)) :
    MetFree l M_0 (head1 (Jvm.Cond.code M_0 method_2_code 1 (some (.object "com/example/railspan/railspan/game/Card")) :: ws) ({ frames := 0, cells := 0, slots := 0, locals := 0 } : Room)) (fun a U => a = #[(.int (0 : Int32))] ∧ Z.Warmed39 U.vm ∧ U.heap = h0) (fun _ _ _ _ _ => True) (fun _ U o U' => ∃ v L, o = .returned v ∧ Q1_2 Z a1 h0 n0 v U'.heap L ∧ FrameEnd U o U' L ({ frames := 0, cells := 0, slots := 0, locals := 0 } : Room).cells ({ frames := 0, cells := 0, slots := 0, locals := 0 } : Room).slots) := by
  refine MetFree.of_bodySF (plainFor_of_name pn_0) hisR ?_
  intro p e s m args below meth c s₁ Bd hml0 hP hK
  obtain ⟨rfl, hZ, hh⟩ := hP
  have hx := Bd.exec
  have hby := Bd.bytes
  have hml : c.maxLocals = 1 := hml0
  have hown : s.vm.findClass "com/example/railspan/railspan/game/CardIsLocomotivePinLaw" = some m.cls := findClass_of_methodNamed Bd.named
  have hnm := (name_of_methodNamed Bd.named Bd.method).1
  have X0 : Stand p l e ({ frames := 0, cells := 0, slots := 0, locals := 0 } : Room) s m #[(.int (0 : Int32))] below meth c s₁ [] 0 0 := Stand.of_body Bd
  have e0 : s₁.heap = h0 := by rw [← hh, Bd.state]; rfl
  have N0 := Fr.nil n0
  have pre0 : ∀ t, Steps p.tables e below (s₁.setTop (mkF m 0 #[.val (.int (0 : Int32))] [])) t → Steps p.tables e below (s₁.setTop (entryFrame m #[(.int (0 : Int32))] 1)) t := fun t k => castTop (ef_rm1_2 m ) k
  obtain ⟨T3, X3, e3, st3⟩ := getS2 X0 hx hZ hown (host := "") (Or.inl (hw _ (gw 5 rfl))) Via.refl e0 (Sta.ext O0.2 S_2) (g := (mkF m 4 #[.val (.int (0 : Int32))] [])) rfl (hb hby d1_4)
  obtain ⟨fs, hr, hrun, hended, hW, hsame⟩ := X3.leave (v := some (.ref a1)) (fun h => by rw [Bd.returns] at h; cases h)
  refine ⟨_, _, pre0 _ ?_, hrun, hended, _, _, rfl, ?_, ⟨_, rfl⟩, hW, hsame.mono (by decide) (by decide)⟩
  · show Steps p.tables e below (s₁.setTop (mkF m 0 #[.val (.int (0 : Int32))] [])) _
    refine XS.iloadN X0.here hx rfl (hb hby d1_0) rfl ?_
    show Steps p.tables e below (s₁.setTop (mkF m 1 #[.val (.int (0 : Int32))] [(.int (0 : Int32))])) _
    refine XS.ifNo X0.here hx rfl (hb hby d1_1) rfl ((if0 _ _).trans (teq (by decide +kernel : (0 : Int32) = (0 : Int32))).2) ?_
    show Steps p.tables e below (s₁.setTop (mkF m 4 #[.val (.int (0 : Int32))] [])) _
    refine st3 _ ?_
    show Steps p.tables e below (T3.setTop (mkF m 7 #[.val (.int (0 : Int32))] [(.ref a1)])) _
    jvm_step X3.here [X3.here.top, hx, (hb hby d1_7), X3.method', Bd.returns, Value.isRef, FieldType.isReference]
    first | (intro acts; rw [hr _ acts rfl rfl rfl]) | rw [hr _ _ rfl rfl rfl]
    exact Steps.refl _
  · show Q1_2 Z _ h0 n0 _ T3.heap _
    rw [e3]
    exact ⟨rfl, N0, rfl⟩
theorem ef_rm2_3 (m : MethodId) (x0 : Addr) : entryFrame m #[(.ref x0)] 1 = mkF m 0 #[.val (.ref x0)] [] := by first | (simp [entryFrame, mkF, argsToLocals, Value.category]; done) | rfl
def Q2_3 (Z : State) (a1 : Addr) (a2 : Addr) (h0 : Heap) (n0 : Nat) (v : Option Value) (h : Heap) (L : List Loc) : Prop := (v = some (.int (0 : Int32)) ∧ Fr n0 L ∧ h = h0)
set_option maxRecDepth 65536 in
set_option maxHeartbeats 40000000 in
theorem rm2_3 (l : Launch) (Z : State) (a0 : Array Value) (hw : ∀ d ∈ own_ws, d.before a0 Z = true) (ws : List Jvm.Cond) (a1 : Addr) (a2 : Addr) (h0 : Heap) (n0 : Nat) (O0 : Old Z n0 h0) (F3 : Fld Z Z.heap a1 "com/example/railspan/railspan/game/Card" "colour" "Lcom/example/railspan/railspan/board/Colour;" (.ref a2)) :
    MetFree l M_1 (head1 (Jvm.Cond.code M_1 prog_19_method_5_code 1 (some .boolean) :: ws) ({ frames := 0, cells := 0, slots := 0, locals := 0 } : Room)) (fun a U => a = #[(.ref a1)] ∧ Z.Warmed39 U.vm ∧ U.heap = h0) (fun _ _ _ _ _ => True) (fun _ U o U' => ∃ v L, o = .returned v ∧ Q2_3 Z a1 a2 h0 n0 v U'.heap L ∧ FrameEnd U o U' L ({ frames := 0, cells := 0, slots := 0, locals := 0 } : Room).cells ({ frames := 0, cells := 0, slots := 0, locals := 0 } : Room).slots) := by
  refine MetFree.of_bodySF (plainFor_of_name pn_1) hisR ?_
  intro p e s m args below meth c s₁ Bd hml0 hP hK
  obtain ⟨rfl, hZ, hh⟩ := hP
  have hx := Bd.exec
  have hby := Bd.bytes
  have hml : c.maxLocals = 1 := hml0
  have hown : s.vm.findClass "com/example/railspan/railspan/game/Card" = some m.cls := findClass_of_methodNamed Bd.named
  have hnm := (name_of_methodNamed Bd.named Bd.method).1
  have X0 : Stand p l e ({ frames := 0, cells := 0, slots := 0, locals := 0 } : Room) s m #[(.ref a1)] below meth c s₁ [] 0 0 := Stand.of_body Bd
  have e0 : s₁.heap = h0 := by rw [← hh, Bd.state]; rfl
  have N0 := Fr.nil n0
  have pre0 : ∀ t, Steps p.tables e below (s₁.setTop (mkF m 0 #[.val (.ref a1)] [])) t → Steps p.tables e below (s₁.setTop (entryFrame m #[(.ref a1)] 1)) t := fun t k => castTop (ef_rm2_3 m a1) k
  obtain ⟨T4, X4, e4, st4⟩ := getF X0 hx hZ hown (host := "") (Or.inl (hw _ (gw 13 rfl))) Via.refl e0 (Fld.ext O0.2 F3) (g := (mkF m 1 #[.val (.ref a1)] [(.ref a1)])) rfl rfl (hb hby d2_1)
  obtain ⟨fs, hr, hrun, hended, hW, hsame⟩ := X4.leave (v := some (.int (0 : Int32))) (fun h => by rw [Bd.returns] at h; cases h)
  refine ⟨_, _, pre0 _ ?_, hrun, hended, _, _, rfl, ?_, ⟨_, rfl⟩, hW, hsame.mono (by decide) (by decide)⟩
  · show Steps p.tables e below (s₁.setTop (mkF m 0 #[.val (.ref a1)] [])) _
    refine XS.aloadN X0.here hx rfl (hb hby d2_0) rfl rfl ?_
    show Steps p.tables e below (s₁.setTop (mkF m 1 #[.val (.ref a1)] [(.ref a1)])) _
    refine st4 _ ?_
    show Steps p.tables e below (T4.setTop (mkF m 4 #[.val (.ref a1)] [(.ref a2)])) _
    refine XS.ifnonnullYes X4.here hx rfl (pc0 := 4) (pc' := 11) rfl (hb hby d2_4) rfl (by decide) (by decide) ?_
    show Steps p.tables e below (T4.setTop (mkF m 11 #[.val (.ref a1)] [])) _
    refine XS.iconst X4.here hx rfl (hb hby d2_11) ?_
    show Steps p.tables e below (T4.setTop (mkF m 12 #[.val (.ref a1)] [(.int (0 : Int32))])) _
    exact retN X4 hx (t := .boolean) Bd.returns (by simp) (hb hby d2_12) hr
  · show Q2_3 Z _ _ h0 n0 _ T4.heap _
    rw [e4]
    exact ⟨rfl, N0, rfl⟩
theorem ef_rm3_4 (m : MethodId) (x0 : Addr) : entryFrame m #[(.ref x0)] 1 = mkF m 0 #[.val (.ref x0)] [] := by first | (simp [entryFrame, mkF, argsToLocals, Value.category]; done) | rfl
def Q3_4 (Z : State) (a1 : Addr) (a2 : Addr) (h0 : Heap) (n0 : Nat) (v : Option Value) (h : Heap) (L : List Loc) : Prop := (v = some (.ref a2) ∧ Fr n0 L ∧ h = h0)
set_option maxRecDepth 65536 in
set_option maxHeartbeats 40000000 in
theorem rm3_4 (l : Launch) (Z : State) (a0 : Array Value) (hw : ∀ d ∈ own_ws, d.before a0 Z = true) (ws : List Jvm.Cond) (a1 : Addr) (a2 : Addr) (h0 : Heap) (n0 : Nat) (O0 : Old Z n0 h0) (F3 : Fld Z Z.heap a1 "com/example/railspan/railspan/game/Card" "colour" "Lcom/example/railspan/railspan/board/Colour;" (.ref a2)) :
    MetFree l M_2 (head1 (Jvm.Cond.code M_2 prog_19_method_4_code 1 (some (.object "com/example/railspan/railspan/board/Colour")) :: ws) ({ frames := 0, cells := 0, slots := 0, locals := 0 } : Room)) (fun a U => a = #[(.ref a1)] ∧ Z.Warmed39 U.vm ∧ U.heap = h0) (fun _ _ _ _ _ => True) (fun _ U o U' => ∃ v L, o = .returned v ∧ Q3_4 Z a1 a2 h0 n0 v U'.heap L ∧ FrameEnd U o U' L ({ frames := 0, cells := 0, slots := 0, locals := 0 } : Room).cells ({ frames := 0, cells := 0, slots := 0, locals := 0 } : Room).slots) := by
  refine MetFree.of_bodySF (plainFor_of_name pn_1) hisR ?_
  intro p e s m args below meth c s₁ Bd hml0 hP hK
  obtain ⟨rfl, hZ, hh⟩ := hP
  have hx := Bd.exec
  have hby := Bd.bytes
  have hml : c.maxLocals = 1 := hml0
  have hown : s.vm.findClass "com/example/railspan/railspan/game/Card" = some m.cls := findClass_of_methodNamed Bd.named
  have hnm := (name_of_methodNamed Bd.named Bd.method).1
  have X0 : Stand p l e ({ frames := 0, cells := 0, slots := 0, locals := 0 } : Room) s m #[(.ref a1)] below meth c s₁ [] 0 0 := Stand.of_body Bd
  have e0 : s₁.heap = h0 := by rw [← hh, Bd.state]; rfl
  have N0 := Fr.nil n0
  have pre0 : ∀ t, Steps p.tables e below (s₁.setTop (mkF m 0 #[.val (.ref a1)] [])) t → Steps p.tables e below (s₁.setTop (entryFrame m #[(.ref a1)] 1)) t := fun t k => castTop (ef_rm3_4 m a1) k
  obtain ⟨T4, X4, e4, st4⟩ := getF X0 hx hZ hown (host := "") (Or.inl (hw _ (gw 13 rfl))) Via.refl e0 (Fld.ext O0.2 F3) (g := (mkF m 1 #[.val (.ref a1)] [(.ref a1)])) rfl rfl (hb hby d3_1)
  obtain ⟨fs, hr, hrun, hended, hW, hsame⟩ := X4.leave (v := some (.ref a2)) (fun h => by rw [Bd.returns] at h; cases h)
  refine ⟨_, _, pre0 _ ?_, hrun, hended, _, _, rfl, ?_, ⟨_, rfl⟩, hW, hsame.mono (by decide) (by decide)⟩
  · show Steps p.tables e below (s₁.setTop (mkF m 0 #[.val (.ref a1)] [])) _
    refine XS.aloadN X0.here hx rfl (hb hby d3_0) rfl rfl ?_
    show Steps p.tables e below (s₁.setTop (mkF m 1 #[.val (.ref a1)] [(.ref a1)])) _
    refine st4 _ ?_
    show Steps p.tables e below (T4.setTop (mkF m 4 #[.val (.ref a1)] [(.ref a2)])) _
    jvm_step X4.here [X4.here.top, hx, (hb hby d3_4), X4.method', Bd.returns, Value.isRef, FieldType.isReference]
    first | (intro acts; rw [hr _ acts rfl rfl rfl]) | rw [hr _ _ rfl rfl rfl]
    exact Steps.refl _
  · show Q3_4 Z _ _ h0 n0 _ T4.heap _
    rw [e4]
    exact ⟨rfl, N0, rfl⟩
theorem ef_rm1_5 (m : MethodId)  : entryFrame m #[(.int (1 : Int32))] 1 = mkF m 0 #[.val (.int (1 : Int32))] [] := by first | (simp [entryFrame, mkF, argsToLocals, Value.category]; done) | rfl
def Q1_5 (Z : State) (a1 : Addr) (h0 : Heap) (n0 : Nat) (v : Option Value) (h : Heap) (L : List Loc) : Prop := (v = some (.ref a1) ∧ Fr n0 L ∧ h = h0)
set_option maxRecDepth 65536 in
set_option maxHeartbeats 40000000 in
theorem rm1_5 (l : Launch) (Z : State) (a0 : Array Value) (hw : ∀ d ∈ own_ws, d.before a0 Z = true) (ws : List Jvm.Cond) (a1 : Addr) (h0 : Heap) (n0 : Nat) (O0 : Old Z n0 h0) (S_2 : Sta Z Z.heap "com/example/railspan/railspan/game/Card" "GREEN" "Lcom/example/railspan/railspan/game/Card;" (.ref a1)) :
    MetFree l M_0 (head1 (Jvm.Cond.code M_0 method_2_code 1 (some (.object "com/example/railspan/railspan/game/Card")) :: ws) ({ frames := 0, cells := 0, slots := 0, locals := 0 } : Room)) (fun a U => a = #[(.int (1 : Int32))] ∧ Z.Warmed39 U.vm ∧ U.heap = h0) (fun _ _ _ _ _ => True) (fun _ U o U' => ∃ v L, o = .returned v ∧ Q1_5 Z a1 h0 n0 v U'.heap L ∧ FrameEnd U o U' L ({ frames := 0, cells := 0, slots := 0, locals := 0 } : Room).cells ({ frames := 0, cells := 0, slots := 0, locals := 0 } : Room).slots) := by
  refine MetFree.of_bodySF (plainFor_of_name pn_0) hisR ?_
  intro p e s m args below meth c s₁ Bd hml0 hP hK
  obtain ⟨rfl, hZ, hh⟩ := hP
  have hx := Bd.exec
  have hby := Bd.bytes
  have hml : c.maxLocals = 1 := hml0
  have hown : s.vm.findClass "com/example/railspan/railspan/game/CardIsLocomotivePinLaw" = some m.cls := findClass_of_methodNamed Bd.named
  have hnm := (name_of_methodNamed Bd.named Bd.method).1
  have X0 : Stand p l e ({ frames := 0, cells := 0, slots := 0, locals := 0 } : Room) s m #[(.int (1 : Int32))] below meth c s₁ [] 0 0 := Stand.of_body Bd
  have e0 : s₁.heap = h0 := by rw [← hh, Bd.state]; rfl
  have N0 := Fr.nil n0
  have pre0 : ∀ t, Steps p.tables e below (s₁.setTop (mkF m 0 #[.val (.int (1 : Int32))] [])) t → Steps p.tables e below (s₁.setTop (entryFrame m #[(.int (1 : Int32))] 1)) t := fun t k => castTop (ef_rm1_5 m ) k
  obtain ⟨T3, X3, e3, st3⟩ := getS2 X0 hx hZ hown (host := "") (Or.inl (hw _ (gw 27 rfl))) Via.refl e0 (Sta.ext O0.2 S_2) (g := (mkF m 13 #[.val (.int (1 : Int32))] [])) rfl (hb hby d1_13)
  obtain ⟨fs, hr, hrun, hended, hW, hsame⟩ := X3.leave (v := some (.ref a1)) (fun h => by rw [Bd.returns] at h; cases h)
  refine ⟨_, _, pre0 _ ?_, hrun, hended, _, _, rfl, ?_, ⟨_, rfl⟩, hW, hsame.mono (by decide) (by decide)⟩
  · show Steps p.tables e below (s₁.setTop (mkF m 0 #[.val (.int (1 : Int32))] [])) _
    refine XS.iloadN X0.here hx rfl (hb hby d1_0) rfl ?_
    show Steps p.tables e below (s₁.setTop (mkF m 1 #[.val (.int (1 : Int32))] [(.int (1 : Int32))])) _
    refine XS.ifYes X0.here hx rfl (pc0 := 1) (pc' := 8) rfl (hb hby d1_1) rfl ((if0 _ _).trans (feq (by decide +kernel : ¬ ((1 : Int32) = (0 : Int32)))).2) (by decide) (by decide) ?_
    show Steps p.tables e below (s₁.setTop (mkF m 8 #[.val (.int (1 : Int32))] [])) _
    refine XS.iloadN X0.here hx rfl (hb hby d1_8) rfl ?_
    show Steps p.tables e below (s₁.setTop (mkF m 9 #[.val (.int (1 : Int32))] [(.int (1 : Int32))])) _
    refine XS.iconst X0.here hx rfl (hb hby d1_9) ?_
    show Steps p.tables e below (s₁.setTop (mkF m 10 #[.val (.int (1 : Int32))] [(.int (1 : Int32)), (.int (1 : Int32))])) _
    refine XS.icmpNo X0.here hx rfl (hb hby d1_10) rfl (teq (by decide +kernel : (1 : Int32) = (1 : Int32))).2 ?_
    show Steps p.tables e below (s₁.setTop (mkF m 13 #[.val (.int (1 : Int32))] [])) _
    refine st3 _ ?_
    show Steps p.tables e below (T3.setTop (mkF m 16 #[.val (.int (1 : Int32))] [(.ref a1)])) _
    jvm_step X3.here [X3.here.top, hx, (hb hby d1_16), X3.method', Bd.returns, Value.isRef, FieldType.isReference]
    first | (intro acts; rw [hr _ acts rfl rfl rfl]) | rw [hr _ _ rfl rfl rfl]
    exact Steps.refl _
  · show Q1_5 Z _ h0 n0 _ T3.heap _
    rw [e3]
    exact ⟨rfl, N0, rfl⟩
theorem ef_rm1_6 (m : MethodId)  : entryFrame m #[(.int (2 : Int32))] 1 = mkF m 0 #[.val (.int (2 : Int32))] [] := by first | (simp [entryFrame, mkF, argsToLocals, Value.category]; done) | rfl
def Q1_6 (Z : State) (a1 : Addr) (h0 : Heap) (n0 : Nat) (v : Option Value) (h : Heap) (L : List Loc) : Prop := (v = some (.ref a1) ∧ Fr n0 L ∧ h = h0)
set_option maxRecDepth 65536 in
set_option maxHeartbeats 40000000 in
theorem rm1_6 (l : Launch) (Z : State) (a0 : Array Value) (hw : ∀ d ∈ own_ws, d.before a0 Z = true) (ws : List Jvm.Cond) (a1 : Addr) (h0 : Heap) (n0 : Nat) (O0 : Old Z n0 h0) (S_2 : Sta Z Z.heap "com/example/railspan/railspan/game/Card" "BLACK" "Lcom/example/railspan/railspan/game/Card;" (.ref a1)) :
    MetFree l M_0 (head1 (Jvm.Cond.code M_0 method_2_code 1 (some (.object "com/example/railspan/railspan/game/Card")) :: ws) ({ frames := 0, cells := 0, slots := 0, locals := 0 } : Room)) (fun a U => a = #[(.int (2 : Int32))] ∧ Z.Warmed39 U.vm ∧ U.heap = h0) (fun _ _ _ _ _ => True) (fun _ U o U' => ∃ v L, o = .returned v ∧ Q1_6 Z a1 h0 n0 v U'.heap L ∧ FrameEnd U o U' L ({ frames := 0, cells := 0, slots := 0, locals := 0 } : Room).cells ({ frames := 0, cells := 0, slots := 0, locals := 0 } : Room).slots) := by
  refine MetFree.of_bodySF (plainFor_of_name pn_0) hisR ?_
  intro p e s m args below meth c s₁ Bd hml0 hP hK
  obtain ⟨rfl, hZ, hh⟩ := hP
  have hx := Bd.exec
  have hby := Bd.bytes
  have hml : c.maxLocals = 1 := hml0
  have hown : s.vm.findClass "com/example/railspan/railspan/game/CardIsLocomotivePinLaw" = some m.cls := findClass_of_methodNamed Bd.named
  have hnm := (name_of_methodNamed Bd.named Bd.method).1
  have X0 : Stand p l e ({ frames := 0, cells := 0, slots := 0, locals := 0 } : Room) s m #[(.int (2 : Int32))] below meth c s₁ [] 0 0 := Stand.of_body Bd
  have e0 : s₁.heap = h0 := by rw [← hh, Bd.state]; rfl
  have N0 := Fr.nil n0
  have pre0 : ∀ t, Steps p.tables e below (s₁.setTop (mkF m 0 #[.val (.int (2 : Int32))] [])) t → Steps p.tables e below (s₁.setTop (entryFrame m #[(.int (2 : Int32))] 1)) t := fun t k => castTop (ef_rm1_6 m ) k
  obtain ⟨T3, X3, e3, st3⟩ := getS2 X0 hx hZ hown (host := "") (Or.inl (hw _ (gw 24 rfl))) Via.refl e0 (Sta.ext O0.2 S_2) (g := (mkF m 22 #[.val (.int (2 : Int32))] [])) rfl (hb hby d1_22)
  obtain ⟨fs, hr, hrun, hended, hW, hsame⟩ := X3.leave (v := some (.ref a1)) (fun h => by rw [Bd.returns] at h; cases h)
  refine ⟨_, _, pre0 _ ?_, hrun, hended, _, _, rfl, ?_, ⟨_, rfl⟩, hW, hsame.mono (by decide) (by decide)⟩
  · show Steps p.tables e below (s₁.setTop (mkF m 0 #[.val (.int (2 : Int32))] [])) _
    refine XS.iloadN X0.here hx rfl (hb hby d1_0) rfl ?_
    show Steps p.tables e below (s₁.setTop (mkF m 1 #[.val (.int (2 : Int32))] [(.int (2 : Int32))])) _
    refine XS.ifYes X0.here hx rfl (pc0 := 1) (pc' := 8) rfl (hb hby d1_1) rfl ((if0 _ _).trans (feq (by decide +kernel : ¬ ((2 : Int32) = (0 : Int32)))).2) (by decide) (by decide) ?_
    show Steps p.tables e below (s₁.setTop (mkF m 8 #[.val (.int (2 : Int32))] [])) _
    refine XS.iloadN X0.here hx rfl (hb hby d1_8) rfl ?_
    show Steps p.tables e below (s₁.setTop (mkF m 9 #[.val (.int (2 : Int32))] [(.int (2 : Int32))])) _
    refine XS.iconst X0.here hx rfl (hb hby d1_9) ?_
    show Steps p.tables e below (s₁.setTop (mkF m 10 #[.val (.int (2 : Int32))] [(.int (1 : Int32)), (.int (2 : Int32))])) _
    refine XS.icmpYes X0.here hx rfl (pc0 := 10) (pc' := 17) rfl (hb hby d1_10) rfl (feq (by decide +kernel : ¬ ((2 : Int32) = (1 : Int32)))).2 (by decide) (by decide) ?_
    show Steps p.tables e below (s₁.setTop (mkF m 17 #[.val (.int (2 : Int32))] [])) _
    refine XS.iloadN X0.here hx rfl (hb hby d1_17) rfl ?_
    show Steps p.tables e below (s₁.setTop (mkF m 18 #[.val (.int (2 : Int32))] [(.int (2 : Int32))])) _
    refine XS.iconst X0.here hx rfl (hb hby d1_18) ?_
    show Steps p.tables e below (s₁.setTop (mkF m 19 #[.val (.int (2 : Int32))] [(.int (2 : Int32)), (.int (2 : Int32))])) _
    refine XS.icmpNo X0.here hx rfl (hb hby d1_19) rfl (teq (by decide +kernel : (2 : Int32) = (2 : Int32))).2 ?_
    show Steps p.tables e below (s₁.setTop (mkF m 22 #[.val (.int (2 : Int32))] [])) _
    refine st3 _ ?_
    show Steps p.tables e below (T3.setTop (mkF m 25 #[.val (.int (2 : Int32))] [(.ref a1)])) _
    jvm_step X3.here [X3.here.top, hx, (hb hby d1_25), X3.method', Bd.returns, Value.isRef, FieldType.isReference]
    first | (intro acts; rw [hr _ acts rfl rfl rfl]) | rw [hr _ _ rfl rfl rfl]
    exact Steps.refl _
  · show Q1_6 Z _ h0 n0 _ T3.heap _
    rw [e3]
    exact ⟨rfl, N0, rfl⟩
theorem ef_rm1_7 (m : MethodId)  : entryFrame m #[(.int (3 : Int32))] 1 = mkF m 0 #[.val (.int (3 : Int32))] [] := by first | (simp [entryFrame, mkF, argsToLocals, Value.category]; done) | rfl
def Q1_7 (Z : State) (a1 : Addr) (h0 : Heap) (n0 : Nat) (v : Option Value) (h : Heap) (L : List Loc) : Prop := (v = some (.ref a1) ∧ Fr n0 L ∧ h = h0)
set_option maxRecDepth 65536 in
set_option maxHeartbeats 40000000 in
theorem rm1_7 (l : Launch) (Z : State) (a0 : Array Value) (hw : ∀ d ∈ own_ws, d.before a0 Z = true) (ws : List Jvm.Cond) (a1 : Addr) (h0 : Heap) (n0 : Nat) (O0 : Old Z n0 h0) (S_2 : Sta Z Z.heap "com/example/railspan/railspan/game/Card" "LOCOMOTIVE" "Lcom/example/railspan/railspan/game/Card;" (.ref a1)) :
    MetFree l M_0 (head1 (Jvm.Cond.code M_0 method_2_code 1 (some (.object "com/example/railspan/railspan/game/Card")) :: ws) ({ frames := 0, cells := 0, slots := 0, locals := 0 } : Room)) (fun a U => a = #[(.int (3 : Int32))] ∧ Z.Warmed39 U.vm ∧ U.heap = h0) (fun _ _ _ _ _ => True) (fun _ U o U' => ∃ v L, o = .returned v ∧ Q1_7 Z a1 h0 n0 v U'.heap L ∧ FrameEnd U o U' L ({ frames := 0, cells := 0, slots := 0, locals := 0 } : Room).cells ({ frames := 0, cells := 0, slots := 0, locals := 0 } : Room).slots) := by
  refine MetFree.of_bodySF (plainFor_of_name pn_0) hisR ?_
  intro p e s m args below meth c s₁ Bd hml0 hP hK
  obtain ⟨rfl, hZ, hh⟩ := hP
  have hx := Bd.exec
  have hby := Bd.bytes
  have hml : c.maxLocals = 1 := hml0
  have hown : s.vm.findClass "com/example/railspan/railspan/game/CardIsLocomotivePinLaw" = some m.cls := findClass_of_methodNamed Bd.named
  have hnm := (name_of_methodNamed Bd.named Bd.method).1
  have X0 : Stand p l e ({ frames := 0, cells := 0, slots := 0, locals := 0 } : Room) s m #[(.int (3 : Int32))] below meth c s₁ [] 0 0 := Stand.of_body Bd
  have e0 : s₁.heap = h0 := by rw [← hh, Bd.state]; rfl
  have N0 := Fr.nil n0
  have pre0 : ∀ t, Steps p.tables e below (s₁.setTop (mkF m 0 #[.val (.int (3 : Int32))] [])) t → Steps p.tables e below (s₁.setTop (entryFrame m #[(.int (3 : Int32))] 1)) t := fun t k => castTop (ef_rm1_7 m ) k
  obtain ⟨T3, X3, e3, st3⟩ := getS2 X0 hx hZ hown (host := "") (Or.inl (hw _ (gw 17 rfl))) Via.refl e0 (Sta.ext O0.2 S_2) (g := (mkF m 31 #[.val (.int (3 : Int32))] [])) rfl (hb hby d1_31)
  obtain ⟨fs, hr, hrun, hended, hW, hsame⟩ := X3.leave (v := some (.ref a1)) (fun h => by rw [Bd.returns] at h; cases h)
  refine ⟨_, _, pre0 _ ?_, hrun, hended, _, _, rfl, ?_, ⟨_, rfl⟩, hW, hsame.mono (by decide) (by decide)⟩
  · show Steps p.tables e below (s₁.setTop (mkF m 0 #[.val (.int (3 : Int32))] [])) _
    refine XS.iloadN X0.here hx rfl (hb hby d1_0) rfl ?_
    show Steps p.tables e below (s₁.setTop (mkF m 1 #[.val (.int (3 : Int32))] [(.int (3 : Int32))])) _
    refine XS.ifYes X0.here hx rfl (pc0 := 1) (pc' := 8) rfl (hb hby d1_1) rfl ((if0 _ _).trans (feq (by decide +kernel : ¬ ((3 : Int32) = (0 : Int32)))).2) (by decide) (by decide) ?_
    show Steps p.tables e below (s₁.setTop (mkF m 8 #[.val (.int (3 : Int32))] [])) _
    refine XS.iloadN X0.here hx rfl (hb hby d1_8) rfl ?_
    show Steps p.tables e below (s₁.setTop (mkF m 9 #[.val (.int (3 : Int32))] [(.int (3 : Int32))])) _
    refine XS.iconst X0.here hx rfl (hb hby d1_9) ?_
    show Steps p.tables e below (s₁.setTop (mkF m 10 #[.val (.int (3 : Int32))] [(.int (1 : Int32)), (.int (3 : Int32))])) _
    refine XS.icmpYes X0.here hx rfl (pc0 := 10) (pc' := 17) rfl (hb hby d1_10) rfl (feq (by decide +kernel : ¬ ((3 : Int32) = (1 : Int32)))).2 (by decide) (by decide) ?_
    show Steps p.tables e below (s₁.setTop (mkF m 17 #[.val (.int (3 : Int32))] [])) _
    refine XS.iloadN X0.here hx rfl (hb hby d1_17) rfl ?_
    show Steps p.tables e below (s₁.setTop (mkF m 18 #[.val (.int (3 : Int32))] [(.int (3 : Int32))])) _
    refine XS.iconst X0.here hx rfl (hb hby d1_18) ?_
    show Steps p.tables e below (s₁.setTop (mkF m 19 #[.val (.int (3 : Int32))] [(.int (2 : Int32)), (.int (3 : Int32))])) _
    refine XS.icmpYes X0.here hx rfl (pc0 := 19) (pc' := 26) rfl (hb hby d1_19) rfl (feq (by decide +kernel : ¬ ((3 : Int32) = (2 : Int32)))).2 (by decide) (by decide) ?_
    show Steps p.tables e below (s₁.setTop (mkF m 26 #[.val (.int (3 : Int32))] [])) _
    refine XS.iloadN X0.here hx rfl (hb hby d1_26) rfl ?_
    show Steps p.tables e below (s₁.setTop (mkF m 27 #[.val (.int (3 : Int32))] [(.int (3 : Int32))])) _
    refine XS.iconst X0.here hx rfl (hb hby d1_27) ?_
    show Steps p.tables e below (s₁.setTop (mkF m 28 #[.val (.int (3 : Int32))] [(.int (3 : Int32)), (.int (3 : Int32))])) _
    refine XS.icmpNo X0.here hx rfl (hb hby d1_28) rfl (teq (by decide +kernel : (3 : Int32) = (3 : Int32))).2 ?_
    show Steps p.tables e below (s₁.setTop (mkF m 31 #[.val (.int (3 : Int32))] [])) _
    refine st3 _ ?_
    show Steps p.tables e below (T3.setTop (mkF m 34 #[.val (.int (3 : Int32))] [(.ref a1)])) _
    jvm_step X3.here [X3.here.top, hx, (hb hby d1_34), X3.method', Bd.returns, Value.isRef, FieldType.isReference]
    first | (intro acts; rw [hr _ acts rfl rfl rfl]) | rw [hr _ _ rfl rfl rfl]
    exact Steps.refl _
  · show Q1_7 Z _ h0 n0 _ T3.heap _
    rw [e3]
    exact ⟨rfl, N0, rfl⟩
theorem ef_rm2_8 (m : MethodId) (x0 : Addr) : entryFrame m #[(.ref x0)] 1 = mkF m 0 #[.val (.ref x0)] [] := by first | (simp [entryFrame, mkF, argsToLocals, Value.category]; done) | rfl
def Q2_8 (Z : State) (a1 : Addr) (h0 : Heap) (n0 : Nat) (v : Option Value) (h : Heap) (L : List Loc) : Prop := (v = some (.int (1 : Int32)) ∧ Fr n0 L ∧ h = h0)
set_option maxRecDepth 65536 in
set_option maxHeartbeats 40000000 in
theorem rm2_8 (l : Launch) (Z : State) (a0 : Array Value) (hw : ∀ d ∈ own_ws, d.before a0 Z = true) (ws : List Jvm.Cond) (a1 : Addr) (h0 : Heap) (n0 : Nat) (O0 : Old Z n0 h0) (F2 : Fld Z Z.heap a1 "com/example/railspan/railspan/game/Card" "colour" "Lcom/example/railspan/railspan/board/Colour;" .null) :
    MetFree l M_1 (head1 (Jvm.Cond.code M_1 prog_19_method_5_code 1 (some .boolean) :: ws) ({ frames := 0, cells := 0, slots := 0, locals := 0 } : Room)) (fun a U => a = #[(.ref a1)] ∧ Z.Warmed39 U.vm ∧ U.heap = h0) (fun _ _ _ _ _ => True) (fun _ U o U' => ∃ v L, o = .returned v ∧ Q2_8 Z a1 h0 n0 v U'.heap L ∧ FrameEnd U o U' L ({ frames := 0, cells := 0, slots := 0, locals := 0 } : Room).cells ({ frames := 0, cells := 0, slots := 0, locals := 0 } : Room).slots) := by
  refine MetFree.of_bodySF (plainFor_of_name pn_1) hisR ?_
  intro p e s m args below meth c s₁ Bd hml0 hP hK
  obtain ⟨rfl, hZ, hh⟩ := hP
  have hx := Bd.exec
  have hby := Bd.bytes
  have hml : c.maxLocals = 1 := hml0
  have hown : s.vm.findClass "com/example/railspan/railspan/game/Card" = some m.cls := findClass_of_methodNamed Bd.named
  have hnm := (name_of_methodNamed Bd.named Bd.method).1
  have X0 : Stand p l e ({ frames := 0, cells := 0, slots := 0, locals := 0 } : Room) s m #[(.ref a1)] below meth c s₁ [] 0 0 := Stand.of_body Bd
  have e0 : s₁.heap = h0 := by rw [← hh, Bd.state]; rfl
  have N0 := Fr.nil n0
  have pre0 : ∀ t, Steps p.tables e below (s₁.setTop (mkF m 0 #[.val (.ref a1)] [])) t → Steps p.tables e below (s₁.setTop (entryFrame m #[(.ref a1)] 1)) t := fun t k => castTop (ef_rm2_8 m a1) k
  obtain ⟨T3, X3, e3, st3⟩ := getF X0 hx hZ hown (host := "") (Or.inl (hw _ (gw 13 rfl))) Via.refl e0 (Fld.ext O0.2 F2) (g := (mkF m 1 #[.val (.ref a1)] [(.ref a1)])) rfl rfl (hb hby d2_1)
  obtain ⟨fs, hr, hrun, hended, hW, hsame⟩ := X3.leave (v := some (.int (1 : Int32))) (fun h => by rw [Bd.returns] at h; cases h)
  refine ⟨_, _, pre0 _ ?_, hrun, hended, _, _, rfl, ?_, ⟨_, rfl⟩, hW, hsame.mono (by decide) (by decide)⟩
  · show Steps p.tables e below (s₁.setTop (mkF m 0 #[.val (.ref a1)] [])) _
    refine XS.aloadN X0.here hx rfl (hb hby d2_0) rfl rfl ?_
    show Steps p.tables e below (s₁.setTop (mkF m 1 #[.val (.ref a1)] [(.ref a1)])) _
    refine st3 _ ?_
    show Steps p.tables e below (T3.setTop (mkF m 4 #[.val (.ref a1)] [.null])) _
    refine XS.ifnonnullNo X3.here hx rfl (hb hby d2_4) rfl ?_
    show Steps p.tables e below (T3.setTop (mkF m 7 #[.val (.ref a1)] [])) _
    refine XS.iconst X3.here hx rfl (hb hby d2_7) ?_
    show Steps p.tables e below (T3.setTop (mkF m 8 #[.val (.ref a1)] [(.int (1 : Int32))])) _
    refine XS.goto X3.here hx rfl (pc0 := 8) (pc' := 12) rfl (hb hby d2_8) (by decide) (by decide) ?_
    show Steps p.tables e below (T3.setTop (mkF m 12 #[.val (.ref a1)] [(.int (1 : Int32))])) _
    exact retN X3 hx (t := .boolean) Bd.returns (by simp) (hb hby d2_12) hr
  · show Q2_8 Z _ h0 n0 _ T3.heap _
    rw [e3]
    exact ⟨rfl, N0, rfl⟩
theorem ef_rm3_9 (m : MethodId) (x0 : Addr) : entryFrame m #[(.ref x0)] 1 = mkF m 0 #[.val (.ref x0)] [] := by first | (simp [entryFrame, mkF, argsToLocals, Value.category]; done) | rfl
def Q3_9 (Z : State) (a1 : Addr) (h0 : Heap) (n0 : Nat) (v : Option Value) (h : Heap) (L : List Loc) : Prop := (v = some .null ∧ Fr n0 L ∧ h = h0)
set_option maxRecDepth 65536 in
set_option maxHeartbeats 40000000 in
theorem rm3_9 (l : Launch) (Z : State) (a0 : Array Value) (hw : ∀ d ∈ own_ws, d.before a0 Z = true) (ws : List Jvm.Cond) (a1 : Addr) (h0 : Heap) (n0 : Nat) (O0 : Old Z n0 h0) (F2 : Fld Z Z.heap a1 "com/example/railspan/railspan/game/Card" "colour" "Lcom/example/railspan/railspan/board/Colour;" .null) :
    MetFree l M_2 (head1 (Jvm.Cond.code M_2 prog_19_method_4_code 1 (some (.object "com/example/railspan/railspan/board/Colour")) :: ws) ({ frames := 0, cells := 0, slots := 0, locals := 0 } : Room)) (fun a U => a = #[(.ref a1)] ∧ Z.Warmed39 U.vm ∧ U.heap = h0) (fun _ _ _ _ _ => True) (fun _ U o U' => ∃ v L, o = .returned v ∧ Q3_9 Z a1 h0 n0 v U'.heap L ∧ FrameEnd U o U' L ({ frames := 0, cells := 0, slots := 0, locals := 0 } : Room).cells ({ frames := 0, cells := 0, slots := 0, locals := 0 } : Room).slots) := by
  refine MetFree.of_bodySF (plainFor_of_name pn_1) hisR ?_
  intro p e s m args below meth c s₁ Bd hml0 hP hK
  obtain ⟨rfl, hZ, hh⟩ := hP
  have hx := Bd.exec
  have hby := Bd.bytes
  have hml : c.maxLocals = 1 := hml0
  have hown : s.vm.findClass "com/example/railspan/railspan/game/Card" = some m.cls := findClass_of_methodNamed Bd.named
  have hnm := (name_of_methodNamed Bd.named Bd.method).1
  have X0 : Stand p l e ({ frames := 0, cells := 0, slots := 0, locals := 0 } : Room) s m #[(.ref a1)] below meth c s₁ [] 0 0 := Stand.of_body Bd
  have e0 : s₁.heap = h0 := by rw [← hh, Bd.state]; rfl
  have N0 := Fr.nil n0
  have pre0 : ∀ t, Steps p.tables e below (s₁.setTop (mkF m 0 #[.val (.ref a1)] [])) t → Steps p.tables e below (s₁.setTop (entryFrame m #[(.ref a1)] 1)) t := fun t k => castTop (ef_rm3_9 m a1) k
  obtain ⟨T3, X3, e3, st3⟩ := getF X0 hx hZ hown (host := "") (Or.inl (hw _ (gw 13 rfl))) Via.refl e0 (Fld.ext O0.2 F2) (g := (mkF m 1 #[.val (.ref a1)] [(.ref a1)])) rfl rfl (hb hby d3_1)
  obtain ⟨fs, hr, hrun, hended, hW, hsame⟩ := X3.leave (v := some .null) (fun h => by rw [Bd.returns] at h; cases h)
  refine ⟨_, _, pre0 _ ?_, hrun, hended, _, _, rfl, ?_, ⟨_, rfl⟩, hW, hsame.mono (by decide) (by decide)⟩
  · show Steps p.tables e below (s₁.setTop (mkF m 0 #[.val (.ref a1)] [])) _
    refine XS.aloadN X0.here hx rfl (hb hby d3_0) rfl rfl ?_
    show Steps p.tables e below (s₁.setTop (mkF m 1 #[.val (.ref a1)] [(.ref a1)])) _
    refine st3 _ ?_
    show Steps p.tables e below (T3.setTop (mkF m 4 #[.val (.ref a1)] [.null])) _
    jvm_step X3.here [X3.here.top, hx, (hb hby d3_4), X3.method', Bd.returns, Value.isRef, FieldType.isReference]
    first | (intro acts; rw [hr _ acts rfl rfl rfl]) | rw [hr _ _ rfl rfl rfl]
    exact Steps.refl _
  · show Q3_9 Z _ h0 n0 _ T3.heap _
    rw [e3]
    exact ⟨rfl, N0, rfl⟩
theorem ef_rm1_10 (m : MethodId)  : entryFrame m #[(.int (4 : Int32))] 1 = mkF m 0 #[.val (.int (4 : Int32))] [] := by first | (simp [entryFrame, mkF, argsToLocals, Value.category]; done) | rfl
def Q1_10 (Z : State) (a1 : Addr) (h0 : Heap) (n0 : Nat) (v : Option Value) (h : Heap) (L : List Loc) : Prop := (v = some (.ref a1) ∧ Fr n0 L ∧ h = h0)
set_option maxRecDepth 65536 in
set_option maxHeartbeats 40000000 in
theorem rm1_10 (l : Launch) (Z : State) (a0 : Array Value) (hw : ∀ d ∈ own_ws, d.before a0 Z = true) (ws : List Jvm.Cond) (a1 : Addr) (h0 : Heap) (n0 : Nat) (O0 : Old Z n0 h0) (S_2 : Sta Z Z.heap "com/example/railspan/railspan/game/Card" "ORANGE" "Lcom/example/railspan/railspan/game/Card;" (.ref a1)) :
    MetFree l M_0 (head1 (Jvm.Cond.code M_0 method_2_code 1 (some (.object "com/example/railspan/railspan/game/Card")) :: ws) ({ frames := 0, cells := 0, slots := 0, locals := 0 } : Room)) (fun a U => a = #[(.int (4 : Int32))] ∧ Z.Warmed39 U.vm ∧ U.heap = h0) (fun _ _ _ _ _ => True) (fun _ U o U' => ∃ v L, o = .returned v ∧ Q1_10 Z a1 h0 n0 v U'.heap L ∧ FrameEnd U o U' L ({ frames := 0, cells := 0, slots := 0, locals := 0 } : Room).cells ({ frames := 0, cells := 0, slots := 0, locals := 0 } : Room).slots) := by
  refine MetFree.of_bodySF (plainFor_of_name pn_0) hisR ?_
  intro p e s m args below meth c s₁ Bd hml0 hP hK
  obtain ⟨rfl, hZ, hh⟩ := hP
  have hx := Bd.exec
  have hby := Bd.bytes
  have hml : c.maxLocals = 1 := hml0
  have hown : s.vm.findClass "com/example/railspan/railspan/game/CardIsLocomotivePinLaw" = some m.cls := findClass_of_methodNamed Bd.named
  have hnm := (name_of_methodNamed Bd.named Bd.method).1
  have X0 : Stand p l e ({ frames := 0, cells := 0, slots := 0, locals := 0 } : Room) s m #[(.int (4 : Int32))] below meth c s₁ [] 0 0 := Stand.of_body Bd
  have e0 : s₁.heap = h0 := by rw [← hh, Bd.state]; rfl
  have N0 := Fr.nil n0
  have pre0 : ∀ t, Steps p.tables e below (s₁.setTop (mkF m 0 #[.val (.int (4 : Int32))] [])) t → Steps p.tables e below (s₁.setTop (entryFrame m #[(.int (4 : Int32))] 1)) t := fun t k => castTop (ef_rm1_10 m ) k
  obtain ⟨T3, X3, e3, st3⟩ := getS2 X0 hx hZ hown (host := "") (Or.inl (hw _ (gw 33 rfl))) Via.refl e0 (Sta.ext O0.2 S_2) (g := (mkF m 40 #[.val (.int (4 : Int32))] [])) rfl (hb hby d1_40)
  obtain ⟨fs, hr, hrun, hended, hW, hsame⟩ := X3.leave (v := some (.ref a1)) (fun h => by rw [Bd.returns] at h; cases h)
  refine ⟨_, _, pre0 _ ?_, hrun, hended, _, _, rfl, ?_, ⟨_, rfl⟩, hW, hsame.mono (by decide) (by decide)⟩
  · show Steps p.tables e below (s₁.setTop (mkF m 0 #[.val (.int (4 : Int32))] [])) _
    refine XS.iloadN X0.here hx rfl (hb hby d1_0) rfl ?_
    show Steps p.tables e below (s₁.setTop (mkF m 1 #[.val (.int (4 : Int32))] [(.int (4 : Int32))])) _
    refine XS.ifYes X0.here hx rfl (pc0 := 1) (pc' := 8) rfl (hb hby d1_1) rfl ((if0 _ _).trans (feq (by decide +kernel : ¬ ((4 : Int32) = (0 : Int32)))).2) (by decide) (by decide) ?_
    show Steps p.tables e below (s₁.setTop (mkF m 8 #[.val (.int (4 : Int32))] [])) _
    refine XS.iloadN X0.here hx rfl (hb hby d1_8) rfl ?_
    show Steps p.tables e below (s₁.setTop (mkF m 9 #[.val (.int (4 : Int32))] [(.int (4 : Int32))])) _
    refine XS.iconst X0.here hx rfl (hb hby d1_9) ?_
    show Steps p.tables e below (s₁.setTop (mkF m 10 #[.val (.int (4 : Int32))] [(.int (1 : Int32)), (.int (4 : Int32))])) _
    refine XS.icmpYes X0.here hx rfl (pc0 := 10) (pc' := 17) rfl (hb hby d1_10) rfl (feq (by decide +kernel : ¬ ((4 : Int32) = (1 : Int32)))).2 (by decide) (by decide) ?_
    show Steps p.tables e below (s₁.setTop (mkF m 17 #[.val (.int (4 : Int32))] [])) _
    refine XS.iloadN X0.here hx rfl (hb hby d1_17) rfl ?_
    show Steps p.tables e below (s₁.setTop (mkF m 18 #[.val (.int (4 : Int32))] [(.int (4 : Int32))])) _
    refine XS.iconst X0.here hx rfl (hb hby d1_18) ?_
    show Steps p.tables e below (s₁.setTop (mkF m 19 #[.val (.int (4 : Int32))] [(.int (2 : Int32)), (.int (4 : Int32))])) _
    refine XS.icmpYes X0.here hx rfl (pc0 := 19) (pc' := 26) rfl (hb hby d1_19) rfl (feq (by decide +kernel : ¬ ((4 : Int32) = (2 : Int32)))).2 (by decide) (by decide) ?_
    show Steps p.tables e below (s₁.setTop (mkF m 26 #[.val (.int (4 : Int32))] [])) _
    refine XS.iloadN X0.here hx rfl (hb hby d1_26) rfl ?_
    show Steps p.tables e below (s₁.setTop (mkF m 27 #[.val (.int (4 : Int32))] [(.int (4 : Int32))])) _
    refine XS.iconst X0.here hx rfl (hb hby d1_27) ?_
    show Steps p.tables e below (s₁.setTop (mkF m 28 #[.val (.int (4 : Int32))] [(.int (3 : Int32)), (.int (4 : Int32))])) _
    refine XS.icmpYes X0.here hx rfl (pc0 := 28) (pc' := 35) rfl (hb hby d1_28) rfl (feq (by decide +kernel : ¬ ((4 : Int32) = (3 : Int32)))).2 (by decide) (by decide) ?_
    show Steps p.tables e below (s₁.setTop (mkF m 35 #[.val (.int (4 : Int32))] [])) _
    refine XS.iloadN X0.here hx rfl (hb hby d1_35) rfl ?_
    show Steps p.tables e below (s₁.setTop (mkF m 36 #[.val (.int (4 : Int32))] [(.int (4 : Int32))])) _
    refine XS.iconst X0.here hx rfl (hb hby d1_36) ?_
    show Steps p.tables e below (s₁.setTop (mkF m 37 #[.val (.int (4 : Int32))] [(.int (4 : Int32)), (.int (4 : Int32))])) _
    refine XS.icmpNo X0.here hx rfl (hb hby d1_37) rfl (teq (by decide +kernel : (4 : Int32) = (4 : Int32))).2 ?_
    show Steps p.tables e below (s₁.setTop (mkF m 40 #[.val (.int (4 : Int32))] [])) _
    refine st3 _ ?_
    show Steps p.tables e below (T3.setTop (mkF m 43 #[.val (.int (4 : Int32))] [(.ref a1)])) _
    jvm_step X3.here [X3.here.top, hx, (hb hby d1_43), X3.method', Bd.returns, Value.isRef, FieldType.isReference]
    first | (intro acts; rw [hr _ acts rfl rfl rfl]) | rw [hr _ _ rfl rfl rfl]
    exact Steps.refl _
  · show Q1_10 Z _ h0 n0 _ T3.heap _
    rw [e3]
    exact ⟨rfl, N0, rfl⟩
theorem ef_rm1_11 (m : MethodId)  : entryFrame m #[(.int (5 : Int32))] 1 = mkF m 0 #[.val (.int (5 : Int32))] [] := by first | (simp [entryFrame, mkF, argsToLocals, Value.category]; done) | rfl
def Q1_11 (Z : State) (a1 : Addr) (h0 : Heap) (n0 : Nat) (v : Option Value) (h : Heap) (L : List Loc) : Prop := (v = some (.ref a1) ∧ Fr n0 L ∧ h = h0)
set_option maxRecDepth 65536 in
set_option maxHeartbeats 40000000 in
theorem rm1_11 (l : Launch) (Z : State) (a0 : Array Value) (hw : ∀ d ∈ own_ws, d.before a0 Z = true) (ws : List Jvm.Cond) (a1 : Addr) (h0 : Heap) (n0 : Nat) (O0 : Old Z n0 h0) (S_2 : Sta Z Z.heap "com/example/railspan/railspan/game/Card" "PURPLE" "Lcom/example/railspan/railspan/game/Card;" (.ref a1)) :
    MetFree l M_0 (head1 (Jvm.Cond.code M_0 method_2_code 1 (some (.object "com/example/railspan/railspan/game/Card")) :: ws) ({ frames := 0, cells := 0, slots := 0, locals := 0 } : Room)) (fun a U => a = #[(.int (5 : Int32))] ∧ Z.Warmed39 U.vm ∧ U.heap = h0) (fun _ _ _ _ _ => True) (fun _ U o U' => ∃ v L, o = .returned v ∧ Q1_11 Z a1 h0 n0 v U'.heap L ∧ FrameEnd U o U' L ({ frames := 0, cells := 0, slots := 0, locals := 0 } : Room).cells ({ frames := 0, cells := 0, slots := 0, locals := 0 } : Room).slots) := by
  refine MetFree.of_bodySF (plainFor_of_name pn_0) hisR ?_
  intro p e s m args below meth c s₁ Bd hml0 hP hK
  obtain ⟨rfl, hZ, hh⟩ := hP
  have hx := Bd.exec
  have hby := Bd.bytes
  have hml : c.maxLocals = 1 := hml0
  have hown : s.vm.findClass "com/example/railspan/railspan/game/CardIsLocomotivePinLaw" = some m.cls := findClass_of_methodNamed Bd.named
  have hnm := (name_of_methodNamed Bd.named Bd.method).1
  have X0 : Stand p l e ({ frames := 0, cells := 0, slots := 0, locals := 0 } : Room) s m #[(.int (5 : Int32))] below meth c s₁ [] 0 0 := Stand.of_body Bd
  have e0 : s₁.heap = h0 := by rw [← hh, Bd.state]; rfl
  have N0 := Fr.nil n0
  have pre0 : ∀ t, Steps p.tables e below (s₁.setTop (mkF m 0 #[.val (.int (5 : Int32))] [])) t → Steps p.tables e below (s₁.setTop (entryFrame m #[(.int (5 : Int32))] 1)) t := fun t k => castTop (ef_rm1_11 m ) k
  obtain ⟨T3, X3, e3, st3⟩ := getS2 X0 hx hZ hown (host := "") (Or.inl (hw _ (gw 42 rfl))) Via.refl e0 (Sta.ext O0.2 S_2) (g := (mkF m 49 #[.val (.int (5 : Int32))] [])) rfl (hb hby d1_49)
  obtain ⟨fs, hr, hrun, hended, hW, hsame⟩ := X3.leave (v := some (.ref a1)) (fun h => by rw [Bd.returns] at h; cases h)
  refine ⟨_, _, pre0 _ ?_, hrun, hended, _, _, rfl, ?_, ⟨_, rfl⟩, hW, hsame.mono (by decide) (by decide)⟩
  · show Steps p.tables e below (s₁.setTop (mkF m 0 #[.val (.int (5 : Int32))] [])) _
    refine XS.iloadN X0.here hx rfl (hb hby d1_0) rfl ?_
    show Steps p.tables e below (s₁.setTop (mkF m 1 #[.val (.int (5 : Int32))] [(.int (5 : Int32))])) _
    refine XS.ifYes X0.here hx rfl (pc0 := 1) (pc' := 8) rfl (hb hby d1_1) rfl ((if0 _ _).trans (feq (by decide +kernel : ¬ ((5 : Int32) = (0 : Int32)))).2) (by decide) (by decide) ?_
    show Steps p.tables e below (s₁.setTop (mkF m 8 #[.val (.int (5 : Int32))] [])) _
    refine XS.iloadN X0.here hx rfl (hb hby d1_8) rfl ?_
    show Steps p.tables e below (s₁.setTop (mkF m 9 #[.val (.int (5 : Int32))] [(.int (5 : Int32))])) _
    refine XS.iconst X0.here hx rfl (hb hby d1_9) ?_
    show Steps p.tables e below (s₁.setTop (mkF m 10 #[.val (.int (5 : Int32))] [(.int (1 : Int32)), (.int (5 : Int32))])) _
    refine XS.icmpYes X0.here hx rfl (pc0 := 10) (pc' := 17) rfl (hb hby d1_10) rfl (feq (by decide +kernel : ¬ ((5 : Int32) = (1 : Int32)))).2 (by decide) (by decide) ?_
    show Steps p.tables e below (s₁.setTop (mkF m 17 #[.val (.int (5 : Int32))] [])) _
    refine XS.iloadN X0.here hx rfl (hb hby d1_17) rfl ?_
    show Steps p.tables e below (s₁.setTop (mkF m 18 #[.val (.int (5 : Int32))] [(.int (5 : Int32))])) _
    refine XS.iconst X0.here hx rfl (hb hby d1_18) ?_
    show Steps p.tables e below (s₁.setTop (mkF m 19 #[.val (.int (5 : Int32))] [(.int (2 : Int32)), (.int (5 : Int32))])) _
    refine XS.icmpYes X0.here hx rfl (pc0 := 19) (pc' := 26) rfl (hb hby d1_19) rfl (feq (by decide +kernel : ¬ ((5 : Int32) = (2 : Int32)))).2 (by decide) (by decide) ?_
    show Steps p.tables e below (s₁.setTop (mkF m 26 #[.val (.int (5 : Int32))] [])) _
    refine XS.iloadN X0.here hx rfl (hb hby d1_26) rfl ?_
    show Steps p.tables e below (s₁.setTop (mkF m 27 #[.val (.int (5 : Int32))] [(.int (5 : Int32))])) _
    refine XS.iconst X0.here hx rfl (hb hby d1_27) ?_
    show Steps p.tables e below (s₁.setTop (mkF m 28 #[.val (.int (5 : Int32))] [(.int (3 : Int32)), (.int (5 : Int32))])) _
    refine XS.icmpYes X0.here hx rfl (pc0 := 28) (pc' := 35) rfl (hb hby d1_28) rfl (feq (by decide +kernel : ¬ ((5 : Int32) = (3 : Int32)))).2 (by decide) (by decide) ?_
    show Steps p.tables e below (s₁.setTop (mkF m 35 #[.val (.int (5 : Int32))] [])) _
    refine XS.iloadN X0.here hx rfl (hb hby d1_35) rfl ?_
    show Steps p.tables e below (s₁.setTop (mkF m 36 #[.val (.int (5 : Int32))] [(.int (5 : Int32))])) _
    refine XS.iconst X0.here hx rfl (hb hby d1_36) ?_
    show Steps p.tables e below (s₁.setTop (mkF m 37 #[.val (.int (5 : Int32))] [(.int (4 : Int32)), (.int (5 : Int32))])) _
    refine XS.icmpYes X0.here hx rfl (pc0 := 37) (pc' := 44) rfl (hb hby d1_37) rfl (feq (by decide +kernel : ¬ ((5 : Int32) = (4 : Int32)))).2 (by decide) (by decide) ?_
    show Steps p.tables e below (s₁.setTop (mkF m 44 #[.val (.int (5 : Int32))] [])) _
    refine XS.iloadN X0.here hx rfl (hb hby d1_44) rfl ?_
    show Steps p.tables e below (s₁.setTop (mkF m 45 #[.val (.int (5 : Int32))] [(.int (5 : Int32))])) _
    refine XS.iconst X0.here hx rfl (hb hby d1_45) ?_
    show Steps p.tables e below (s₁.setTop (mkF m 46 #[.val (.int (5 : Int32))] [(.int (5 : Int32)), (.int (5 : Int32))])) _
    refine XS.icmpNo X0.here hx rfl (hb hby d1_46) rfl (teq (by decide +kernel : (5 : Int32) = (5 : Int32))).2 ?_
    show Steps p.tables e below (s₁.setTop (mkF m 49 #[.val (.int (5 : Int32))] [])) _
    refine st3 _ ?_
    show Steps p.tables e below (T3.setTop (mkF m 52 #[.val (.int (5 : Int32))] [(.ref a1)])) _
    jvm_step X3.here [X3.here.top, hx, (hb hby d1_52), X3.method', Bd.returns, Value.isRef, FieldType.isReference]
    first | (intro acts; rw [hr _ acts rfl rfl rfl]) | rw [hr _ _ rfl rfl rfl]
    exact Steps.refl _
  · show Q1_11 Z _ h0 n0 _ T3.heap _
    rw [e3]
    exact ⟨rfl, N0, rfl⟩
theorem ef_rm1_12 (m : MethodId)  : entryFrame m #[(.int (6 : Int32))] 1 = mkF m 0 #[.val (.int (6 : Int32))] [] := by first | (simp [entryFrame, mkF, argsToLocals, Value.category]; done) | rfl
def Q1_12 (Z : State) (a1 : Addr) (h0 : Heap) (n0 : Nat) (v : Option Value) (h : Heap) (L : List Loc) : Prop := (v = some (.ref a1) ∧ Fr n0 L ∧ h = h0)
set_option maxRecDepth 65536 in
set_option maxHeartbeats 40000000 in
theorem rm1_12 (l : Launch) (Z : State) (a0 : Array Value) (hw : ∀ d ∈ own_ws, d.before a0 Z = true) (ws : List Jvm.Cond) (a1 : Addr) (h0 : Heap) (n0 : Nat) (O0 : Old Z n0 h0) (S_2 : Sta Z Z.heap "com/example/railspan/railspan/game/Card" "RED" "Lcom/example/railspan/railspan/game/Card;" (.ref a1)) :
    MetFree l M_0 (head1 (Jvm.Cond.code M_0 method_2_code 1 (some (.object "com/example/railspan/railspan/game/Card")) :: ws) ({ frames := 0, cells := 0, slots := 0, locals := 0 } : Room)) (fun a U => a = #[(.int (6 : Int32))] ∧ Z.Warmed39 U.vm ∧ U.heap = h0) (fun _ _ _ _ _ => True) (fun _ U o U' => ∃ v L, o = .returned v ∧ Q1_12 Z a1 h0 n0 v U'.heap L ∧ FrameEnd U o U' L ({ frames := 0, cells := 0, slots := 0, locals := 0 } : Room).cells ({ frames := 0, cells := 0, slots := 0, locals := 0 } : Room).slots) := by
  refine MetFree.of_bodySF (plainFor_of_name pn_0) hisR ?_
  intro p e s m args below meth c s₁ Bd hml0 hP hK
  obtain ⟨rfl, hZ, hh⟩ := hP
  have hx := Bd.exec
  have hby := Bd.bytes
  have hml : c.maxLocals = 1 := hml0
  have hown : s.vm.findClass "com/example/railspan/railspan/game/CardIsLocomotivePinLaw" = some m.cls := findClass_of_methodNamed Bd.named
  have hnm := (name_of_methodNamed Bd.named Bd.method).1
  have X0 : Stand p l e ({ frames := 0, cells := 0, slots := 0, locals := 0 } : Room) s m #[(.int (6 : Int32))] below meth c s₁ [] 0 0 := Stand.of_body Bd
  have e0 : s₁.heap = h0 := by rw [← hh, Bd.state]; rfl
  have N0 := Fr.nil n0
  have pre0 : ∀ t, Steps p.tables e below (s₁.setTop (mkF m 0 #[.val (.int (6 : Int32))] [])) t → Steps p.tables e below (s₁.setTop (entryFrame m #[(.int (6 : Int32))] 1)) t := fun t k => castTop (ef_rm1_12 m ) k
  obtain ⟨T3, X3, e3, st3⟩ := getS2 X0 hx hZ hown (host := "") (Or.inl (hw _ (gw 39 rfl))) Via.refl e0 (Sta.ext O0.2 S_2) (g := (mkF m 59 #[.val (.int (6 : Int32))] [])) rfl (hb hby d1_59)
  obtain ⟨fs, hr, hrun, hended, hW, hsame⟩ := X3.leave (v := some (.ref a1)) (fun h => by rw [Bd.returns] at h; cases h)
  refine ⟨_, _, pre0 _ ?_, hrun, hended, _, _, rfl, ?_, ⟨_, rfl⟩, hW, hsame.mono (by decide) (by decide)⟩
  · show Steps p.tables e below (s₁.setTop (mkF m 0 #[.val (.int (6 : Int32))] [])) _
    refine XS.iloadN X0.here hx rfl (hb hby d1_0) rfl ?_
    show Steps p.tables e below (s₁.setTop (mkF m 1 #[.val (.int (6 : Int32))] [(.int (6 : Int32))])) _
    refine XS.ifYes X0.here hx rfl (pc0 := 1) (pc' := 8) rfl (hb hby d1_1) rfl ((if0 _ _).trans (feq (by decide +kernel : ¬ ((6 : Int32) = (0 : Int32)))).2) (by decide) (by decide) ?_
    show Steps p.tables e below (s₁.setTop (mkF m 8 #[.val (.int (6 : Int32))] [])) _
    refine XS.iloadN X0.here hx rfl (hb hby d1_8) rfl ?_
    show Steps p.tables e below (s₁.setTop (mkF m 9 #[.val (.int (6 : Int32))] [(.int (6 : Int32))])) _
    refine XS.iconst X0.here hx rfl (hb hby d1_9) ?_
    show Steps p.tables e below (s₁.setTop (mkF m 10 #[.val (.int (6 : Int32))] [(.int (1 : Int32)), (.int (6 : Int32))])) _
    refine XS.icmpYes X0.here hx rfl (pc0 := 10) (pc' := 17) rfl (hb hby d1_10) rfl (feq (by decide +kernel : ¬ ((6 : Int32) = (1 : Int32)))).2 (by decide) (by decide) ?_
    show Steps p.tables e below (s₁.setTop (mkF m 17 #[.val (.int (6 : Int32))] [])) _
    refine XS.iloadN X0.here hx rfl (hb hby d1_17) rfl ?_
    show Steps p.tables e below (s₁.setTop (mkF m 18 #[.val (.int (6 : Int32))] [(.int (6 : Int32))])) _
    refine XS.iconst X0.here hx rfl (hb hby d1_18) ?_
    show Steps p.tables e below (s₁.setTop (mkF m 19 #[.val (.int (6 : Int32))] [(.int (2 : Int32)), (.int (6 : Int32))])) _
    refine XS.icmpYes X0.here hx rfl (pc0 := 19) (pc' := 26) rfl (hb hby d1_19) rfl (feq (by decide +kernel : ¬ ((6 : Int32) = (2 : Int32)))).2 (by decide) (by decide) ?_
    show Steps p.tables e below (s₁.setTop (mkF m 26 #[.val (.int (6 : Int32))] [])) _
    refine XS.iloadN X0.here hx rfl (hb hby d1_26) rfl ?_
    show Steps p.tables e below (s₁.setTop (mkF m 27 #[.val (.int (6 : Int32))] [(.int (6 : Int32))])) _
    refine XS.iconst X0.here hx rfl (hb hby d1_27) ?_
    show Steps p.tables e below (s₁.setTop (mkF m 28 #[.val (.int (6 : Int32))] [(.int (3 : Int32)), (.int (6 : Int32))])) _
    refine XS.icmpYes X0.here hx rfl (pc0 := 28) (pc' := 35) rfl (hb hby d1_28) rfl (feq (by decide +kernel : ¬ ((6 : Int32) = (3 : Int32)))).2 (by decide) (by decide) ?_
    show Steps p.tables e below (s₁.setTop (mkF m 35 #[.val (.int (6 : Int32))] [])) _
    refine XS.iloadN X0.here hx rfl (hb hby d1_35) rfl ?_
    show Steps p.tables e below (s₁.setTop (mkF m 36 #[.val (.int (6 : Int32))] [(.int (6 : Int32))])) _
    refine XS.iconst X0.here hx rfl (hb hby d1_36) ?_
    show Steps p.tables e below (s₁.setTop (mkF m 37 #[.val (.int (6 : Int32))] [(.int (4 : Int32)), (.int (6 : Int32))])) _
    refine XS.icmpYes X0.here hx rfl (pc0 := 37) (pc' := 44) rfl (hb hby d1_37) rfl (feq (by decide +kernel : ¬ ((6 : Int32) = (4 : Int32)))).2 (by decide) (by decide) ?_
    show Steps p.tables e below (s₁.setTop (mkF m 44 #[.val (.int (6 : Int32))] [])) _
    refine XS.iloadN X0.here hx rfl (hb hby d1_44) rfl ?_
    show Steps p.tables e below (s₁.setTop (mkF m 45 #[.val (.int (6 : Int32))] [(.int (6 : Int32))])) _
    refine XS.iconst X0.here hx rfl (hb hby d1_45) ?_
    show Steps p.tables e below (s₁.setTop (mkF m 46 #[.val (.int (6 : Int32))] [(.int (5 : Int32)), (.int (6 : Int32))])) _
    refine XS.icmpYes X0.here hx rfl (pc0 := 46) (pc' := 53) rfl (hb hby d1_46) rfl (feq (by decide +kernel : ¬ ((6 : Int32) = (5 : Int32)))).2 (by decide) (by decide) ?_
    show Steps p.tables e below (s₁.setTop (mkF m 53 #[.val (.int (6 : Int32))] [])) _
    refine XS.iloadN X0.here hx rfl (hb hby d1_53) rfl ?_
    show Steps p.tables e below (s₁.setTop (mkF m 54 #[.val (.int (6 : Int32))] [(.int (6 : Int32))])) _
    refine XS.bipush X0.here hx rfl (hb hby d1_54) ?_
    show Steps p.tables e below (s₁.setTop (mkF m 56 #[.val (.int (6 : Int32))] [(.int (6 : Int32)), (.int (6 : Int32))])) _
    refine XS.icmpNo X0.here hx rfl (hb hby d1_56) rfl (teq (by decide +kernel : (6 : Int32) = (6 : Int32))).2 ?_
    show Steps p.tables e below (s₁.setTop (mkF m 59 #[.val (.int (6 : Int32))] [])) _
    refine st3 _ ?_
    show Steps p.tables e below (T3.setTop (mkF m 62 #[.val (.int (6 : Int32))] [(.ref a1)])) _
    jvm_step X3.here [X3.here.top, hx, (hb hby d1_62), X3.method', Bd.returns, Value.isRef, FieldType.isReference]
    first | (intro acts; rw [hr _ acts rfl rfl rfl]) | rw [hr _ _ rfl rfl rfl]
    exact Steps.refl _
  · show Q1_12 Z _ h0 n0 _ T3.heap _
    rw [e3]
    exact ⟨rfl, N0, rfl⟩
theorem ef_rm1_13 (m : MethodId)  : entryFrame m #[(.int (7 : Int32))] 1 = mkF m 0 #[.val (.int (7 : Int32))] [] := by first | (simp [entryFrame, mkF, argsToLocals, Value.category]; done) | rfl
def Q1_13 (Z : State) (a1 : Addr) (h0 : Heap) (n0 : Nat) (v : Option Value) (h : Heap) (L : List Loc) : Prop := (v = some (.ref a1) ∧ Fr n0 L ∧ h = h0)
set_option maxRecDepth 65536 in
set_option maxHeartbeats 40000000 in
theorem rm1_13 (l : Launch) (Z : State) (a0 : Array Value) (hw : ∀ d ∈ own_ws, d.before a0 Z = true) (ws : List Jvm.Cond) (a1 : Addr) (h0 : Heap) (n0 : Nat) (O0 : Old Z n0 h0) (S_2 : Sta Z Z.heap "com/example/railspan/railspan/game/Card" "WHITE" "Lcom/example/railspan/railspan/game/Card;" (.ref a1)) :
    MetFree l M_0 (head1 (Jvm.Cond.code M_0 method_2_code 1 (some (.object "com/example/railspan/railspan/game/Card")) :: ws) ({ frames := 0, cells := 0, slots := 0, locals := 0 } : Room)) (fun a U => a = #[(.int (7 : Int32))] ∧ Z.Warmed39 U.vm ∧ U.heap = h0) (fun _ _ _ _ _ => True) (fun _ U o U' => ∃ v L, o = .returned v ∧ Q1_13 Z a1 h0 n0 v U'.heap L ∧ FrameEnd U o U' L ({ frames := 0, cells := 0, slots := 0, locals := 0 } : Room).cells ({ frames := 0, cells := 0, slots := 0, locals := 0 } : Room).slots) := by
  refine MetFree.of_bodySF (plainFor_of_name pn_0) hisR ?_
  intro p e s m args below meth c s₁ Bd hml0 hP hK
  obtain ⟨rfl, hZ, hh⟩ := hP
  have hx := Bd.exec
  have hby := Bd.bytes
  have hml : c.maxLocals = 1 := hml0
  have hown : s.vm.findClass "com/example/railspan/railspan/game/CardIsLocomotivePinLaw" = some m.cls := findClass_of_methodNamed Bd.named
  have hnm := (name_of_methodNamed Bd.named Bd.method).1
  have X0 : Stand p l e ({ frames := 0, cells := 0, slots := 0, locals := 0 } : Room) s m #[(.int (7 : Int32))] below meth c s₁ [] 0 0 := Stand.of_body Bd
  have e0 : s₁.heap = h0 := by rw [← hh, Bd.state]; rfl
  have N0 := Fr.nil n0
  have pre0 : ∀ t, Steps p.tables e below (s₁.setTop (mkF m 0 #[.val (.int (7 : Int32))] [])) t → Steps p.tables e below (s₁.setTop (entryFrame m #[(.int (7 : Int32))] 1)) t := fun t k => castTop (ef_rm1_13 m ) k
  obtain ⟨T3, X3, e3, st3⟩ := getS2 X0 hx hZ hown (host := "") (Or.inl (hw _ (gw 30 rfl))) Via.refl e0 (Sta.ext O0.2 S_2) (g := (mkF m 69 #[.val (.int (7 : Int32))] [])) rfl (hb hby d1_69)
  obtain ⟨fs, hr, hrun, hended, hW, hsame⟩ := X3.leave (v := some (.ref a1)) (fun h => by rw [Bd.returns] at h; cases h)
  refine ⟨_, _, pre0 _ ?_, hrun, hended, _, _, rfl, ?_, ⟨_, rfl⟩, hW, hsame.mono (by decide) (by decide)⟩
  · show Steps p.tables e below (s₁.setTop (mkF m 0 #[.val (.int (7 : Int32))] [])) _
    refine XS.iloadN X0.here hx rfl (hb hby d1_0) rfl ?_
    show Steps p.tables e below (s₁.setTop (mkF m 1 #[.val (.int (7 : Int32))] [(.int (7 : Int32))])) _
    refine XS.ifYes X0.here hx rfl (pc0 := 1) (pc' := 8) rfl (hb hby d1_1) rfl ((if0 _ _).trans (feq (by decide +kernel : ¬ ((7 : Int32) = (0 : Int32)))).2) (by decide) (by decide) ?_
    show Steps p.tables e below (s₁.setTop (mkF m 8 #[.val (.int (7 : Int32))] [])) _
    refine XS.iloadN X0.here hx rfl (hb hby d1_8) rfl ?_
    show Steps p.tables e below (s₁.setTop (mkF m 9 #[.val (.int (7 : Int32))] [(.int (7 : Int32))])) _
    refine XS.iconst X0.here hx rfl (hb hby d1_9) ?_
    show Steps p.tables e below (s₁.setTop (mkF m 10 #[.val (.int (7 : Int32))] [(.int (1 : Int32)), (.int (7 : Int32))])) _
    refine XS.icmpYes X0.here hx rfl (pc0 := 10) (pc' := 17) rfl (hb hby d1_10) rfl (feq (by decide +kernel : ¬ ((7 : Int32) = (1 : Int32)))).2 (by decide) (by decide) ?_
    show Steps p.tables e below (s₁.setTop (mkF m 17 #[.val (.int (7 : Int32))] [])) _
    refine XS.iloadN X0.here hx rfl (hb hby d1_17) rfl ?_
    show Steps p.tables e below (s₁.setTop (mkF m 18 #[.val (.int (7 : Int32))] [(.int (7 : Int32))])) _
    refine XS.iconst X0.here hx rfl (hb hby d1_18) ?_
    show Steps p.tables e below (s₁.setTop (mkF m 19 #[.val (.int (7 : Int32))] [(.int (2 : Int32)), (.int (7 : Int32))])) _
    refine XS.icmpYes X0.here hx rfl (pc0 := 19) (pc' := 26) rfl (hb hby d1_19) rfl (feq (by decide +kernel : ¬ ((7 : Int32) = (2 : Int32)))).2 (by decide) (by decide) ?_
    show Steps p.tables e below (s₁.setTop (mkF m 26 #[.val (.int (7 : Int32))] [])) _
    refine XS.iloadN X0.here hx rfl (hb hby d1_26) rfl ?_
    show Steps p.tables e below (s₁.setTop (mkF m 27 #[.val (.int (7 : Int32))] [(.int (7 : Int32))])) _
    refine XS.iconst X0.here hx rfl (hb hby d1_27) ?_
    show Steps p.tables e below (s₁.setTop (mkF m 28 #[.val (.int (7 : Int32))] [(.int (3 : Int32)), (.int (7 : Int32))])) _
    refine XS.icmpYes X0.here hx rfl (pc0 := 28) (pc' := 35) rfl (hb hby d1_28) rfl (feq (by decide +kernel : ¬ ((7 : Int32) = (3 : Int32)))).2 (by decide) (by decide) ?_
    show Steps p.tables e below (s₁.setTop (mkF m 35 #[.val (.int (7 : Int32))] [])) _
    refine XS.iloadN X0.here hx rfl (hb hby d1_35) rfl ?_
    show Steps p.tables e below (s₁.setTop (mkF m 36 #[.val (.int (7 : Int32))] [(.int (7 : Int32))])) _
    refine XS.iconst X0.here hx rfl (hb hby d1_36) ?_
    show Steps p.tables e below (s₁.setTop (mkF m 37 #[.val (.int (7 : Int32))] [(.int (4 : Int32)), (.int (7 : Int32))])) _
    refine XS.icmpYes X0.here hx rfl (pc0 := 37) (pc' := 44) rfl (hb hby d1_37) rfl (feq (by decide +kernel : ¬ ((7 : Int32) = (4 : Int32)))).2 (by decide) (by decide) ?_
    show Steps p.tables e below (s₁.setTop (mkF m 44 #[.val (.int (7 : Int32))] [])) _
    refine XS.iloadN X0.here hx rfl (hb hby d1_44) rfl ?_
    show Steps p.tables e below (s₁.setTop (mkF m 45 #[.val (.int (7 : Int32))] [(.int (7 : Int32))])) _
    refine XS.iconst X0.here hx rfl (hb hby d1_45) ?_
    show Steps p.tables e below (s₁.setTop (mkF m 46 #[.val (.int (7 : Int32))] [(.int (5 : Int32)), (.int (7 : Int32))])) _
    refine XS.icmpYes X0.here hx rfl (pc0 := 46) (pc' := 53) rfl (hb hby d1_46) rfl (feq (by decide +kernel : ¬ ((7 : Int32) = (5 : Int32)))).2 (by decide) (by decide) ?_
    show Steps p.tables e below (s₁.setTop (mkF m 53 #[.val (.int (7 : Int32))] [])) _
    refine XS.iloadN X0.here hx rfl (hb hby d1_53) rfl ?_
    show Steps p.tables e below (s₁.setTop (mkF m 54 #[.val (.int (7 : Int32))] [(.int (7 : Int32))])) _
    refine XS.bipush X0.here hx rfl (hb hby d1_54) ?_
    show Steps p.tables e below (s₁.setTop (mkF m 56 #[.val (.int (7 : Int32))] [(.int (6 : Int32)), (.int (7 : Int32))])) _
    refine XS.icmpYes X0.here hx rfl (pc0 := 56) (pc' := 63) rfl (hb hby d1_56) rfl (feq (by decide +kernel : ¬ ((7 : Int32) = (6 : Int32)))).2 (by decide) (by decide) ?_
    show Steps p.tables e below (s₁.setTop (mkF m 63 #[.val (.int (7 : Int32))] [])) _
    refine XS.iloadN X0.here hx rfl (hb hby d1_63) rfl ?_
    show Steps p.tables e below (s₁.setTop (mkF m 64 #[.val (.int (7 : Int32))] [(.int (7 : Int32))])) _
    refine XS.bipush X0.here hx rfl (hb hby d1_64) ?_
    show Steps p.tables e below (s₁.setTop (mkF m 66 #[.val (.int (7 : Int32))] [(.int (7 : Int32)), (.int (7 : Int32))])) _
    refine XS.icmpNo X0.here hx rfl (hb hby d1_66) rfl (teq (by decide +kernel : (7 : Int32) = (7 : Int32))).2 ?_
    show Steps p.tables e below (s₁.setTop (mkF m 69 #[.val (.int (7 : Int32))] [])) _
    refine st3 _ ?_
    show Steps p.tables e below (T3.setTop (mkF m 72 #[.val (.int (7 : Int32))] [(.ref a1)])) _
    jvm_step X3.here [X3.here.top, hx, (hb hby d1_72), X3.method', Bd.returns, Value.isRef, FieldType.isReference]
    first | (intro acts; rw [hr _ acts rfl rfl rfl]) | rw [hr _ _ rfl rfl rfl]
    exact Steps.refl _
  · show Q1_13 Z _ h0 n0 _ T3.heap _
    rw [e3]
    exact ⟨rfl, N0, rfl⟩
theorem ef_rm1_14 (m : MethodId)  : entryFrame m #[(.int (8 : Int32))] 1 = mkF m 0 #[.val (.int (8 : Int32))] [] := by first | (simp [entryFrame, mkF, argsToLocals, Value.category]; done) | rfl
def Q1_14 (Z : State) (a1 : Addr) (h0 : Heap) (n0 : Nat) (v : Option Value) (h : Heap) (L : List Loc) : Prop := (v = some (.ref a1) ∧ Fr n0 L ∧ h = h0)
set_option maxRecDepth 65536 in
set_option maxHeartbeats 40000000 in
theorem rm1_14 (l : Launch) (Z : State) (a0 : Array Value) (hw : ∀ d ∈ own_ws, d.before a0 Z = true) (ws : List Jvm.Cond) (a1 : Addr) (h0 : Heap) (n0 : Nat) (O0 : Old Z n0 h0) (S_2 : Sta Z Z.heap "com/example/railspan/railspan/game/Card" "YELLOW" "Lcom/example/railspan/railspan/game/Card;" (.ref a1)) :
    MetFree l M_0 (head1 (Jvm.Cond.code M_0 method_2_code 1 (some (.object "com/example/railspan/railspan/game/Card")) :: ws) ({ frames := 0, cells := 0, slots := 0, locals := 0 } : Room)) (fun a U => a = #[(.int (8 : Int32))] ∧ Z.Warmed39 U.vm ∧ U.heap = h0) (fun _ _ _ _ _ => True) (fun _ U o U' => ∃ v L, o = .returned v ∧ Q1_14 Z a1 h0 n0 v U'.heap L ∧ FrameEnd U o U' L ({ frames := 0, cells := 0, slots := 0, locals := 0 } : Room).cells ({ frames := 0, cells := 0, slots := 0, locals := 0 } : Room).slots) := by
  refine MetFree.of_bodySF (plainFor_of_name pn_0) hisR ?_
  intro p e s m args below meth c s₁ Bd hml0 hP hK
  obtain ⟨rfl, hZ, hh⟩ := hP
  have hx := Bd.exec
  have hby := Bd.bytes
  have hml : c.maxLocals = 1 := hml0
  have hown : s.vm.findClass "com/example/railspan/railspan/game/CardIsLocomotivePinLaw" = some m.cls := findClass_of_methodNamed Bd.named
  have hnm := (name_of_methodNamed Bd.named Bd.method).1
  have X0 : Stand p l e ({ frames := 0, cells := 0, slots := 0, locals := 0 } : Room) s m #[(.int (8 : Int32))] below meth c s₁ [] 0 0 := Stand.of_body Bd
  have e0 : s₁.heap = h0 := by rw [← hh, Bd.state]; rfl
  have N0 := Fr.nil n0
  have pre0 : ∀ t, Steps p.tables e below (s₁.setTop (mkF m 0 #[.val (.int (8 : Int32))] [])) t → Steps p.tables e below (s₁.setTop (entryFrame m #[(.int (8 : Int32))] 1)) t := fun t k => castTop (ef_rm1_14 m ) k
  obtain ⟨T3, X3, e3, st3⟩ := getS2 X0 hx hZ hown (host := "") (Or.inl (hw _ (gw 36 rfl))) Via.refl e0 (Sta.ext O0.2 S_2) (g := (mkF m 73 #[.val (.int (8 : Int32))] [])) rfl (hb hby d1_73)
  obtain ⟨fs, hr, hrun, hended, hW, hsame⟩ := X3.leave (v := some (.ref a1)) (fun h => by rw [Bd.returns] at h; cases h)
  refine ⟨_, _, pre0 _ ?_, hrun, hended, _, _, rfl, ?_, ⟨_, rfl⟩, hW, hsame.mono (by decide) (by decide)⟩
  · show Steps p.tables e below (s₁.setTop (mkF m 0 #[.val (.int (8 : Int32))] [])) _
    refine XS.iloadN X0.here hx rfl (hb hby d1_0) rfl ?_
    show Steps p.tables e below (s₁.setTop (mkF m 1 #[.val (.int (8 : Int32))] [(.int (8 : Int32))])) _
    refine XS.ifYes X0.here hx rfl (pc0 := 1) (pc' := 8) rfl (hb hby d1_1) rfl ((if0 _ _).trans (feq (by decide +kernel : ¬ ((8 : Int32) = (0 : Int32)))).2) (by decide) (by decide) ?_
    show Steps p.tables e below (s₁.setTop (mkF m 8 #[.val (.int (8 : Int32))] [])) _
    refine XS.iloadN X0.here hx rfl (hb hby d1_8) rfl ?_
    show Steps p.tables e below (s₁.setTop (mkF m 9 #[.val (.int (8 : Int32))] [(.int (8 : Int32))])) _
    refine XS.iconst X0.here hx rfl (hb hby d1_9) ?_
    show Steps p.tables e below (s₁.setTop (mkF m 10 #[.val (.int (8 : Int32))] [(.int (1 : Int32)), (.int (8 : Int32))])) _
    refine XS.icmpYes X0.here hx rfl (pc0 := 10) (pc' := 17) rfl (hb hby d1_10) rfl (feq (by decide +kernel : ¬ ((8 : Int32) = (1 : Int32)))).2 (by decide) (by decide) ?_
    show Steps p.tables e below (s₁.setTop (mkF m 17 #[.val (.int (8 : Int32))] [])) _
    refine XS.iloadN X0.here hx rfl (hb hby d1_17) rfl ?_
    show Steps p.tables e below (s₁.setTop (mkF m 18 #[.val (.int (8 : Int32))] [(.int (8 : Int32))])) _
    refine XS.iconst X0.here hx rfl (hb hby d1_18) ?_
    show Steps p.tables e below (s₁.setTop (mkF m 19 #[.val (.int (8 : Int32))] [(.int (2 : Int32)), (.int (8 : Int32))])) _
    refine XS.icmpYes X0.here hx rfl (pc0 := 19) (pc' := 26) rfl (hb hby d1_19) rfl (feq (by decide +kernel : ¬ ((8 : Int32) = (2 : Int32)))).2 (by decide) (by decide) ?_
    show Steps p.tables e below (s₁.setTop (mkF m 26 #[.val (.int (8 : Int32))] [])) _
    refine XS.iloadN X0.here hx rfl (hb hby d1_26) rfl ?_
    show Steps p.tables e below (s₁.setTop (mkF m 27 #[.val (.int (8 : Int32))] [(.int (8 : Int32))])) _
    refine XS.iconst X0.here hx rfl (hb hby d1_27) ?_
    show Steps p.tables e below (s₁.setTop (mkF m 28 #[.val (.int (8 : Int32))] [(.int (3 : Int32)), (.int (8 : Int32))])) _
    refine XS.icmpYes X0.here hx rfl (pc0 := 28) (pc' := 35) rfl (hb hby d1_28) rfl (feq (by decide +kernel : ¬ ((8 : Int32) = (3 : Int32)))).2 (by decide) (by decide) ?_
    show Steps p.tables e below (s₁.setTop (mkF m 35 #[.val (.int (8 : Int32))] [])) _
    refine XS.iloadN X0.here hx rfl (hb hby d1_35) rfl ?_
    show Steps p.tables e below (s₁.setTop (mkF m 36 #[.val (.int (8 : Int32))] [(.int (8 : Int32))])) _
    refine XS.iconst X0.here hx rfl (hb hby d1_36) ?_
    show Steps p.tables e below (s₁.setTop (mkF m 37 #[.val (.int (8 : Int32))] [(.int (4 : Int32)), (.int (8 : Int32))])) _
    refine XS.icmpYes X0.here hx rfl (pc0 := 37) (pc' := 44) rfl (hb hby d1_37) rfl (feq (by decide +kernel : ¬ ((8 : Int32) = (4 : Int32)))).2 (by decide) (by decide) ?_
    show Steps p.tables e below (s₁.setTop (mkF m 44 #[.val (.int (8 : Int32))] [])) _
    refine XS.iloadN X0.here hx rfl (hb hby d1_44) rfl ?_
    show Steps p.tables e below (s₁.setTop (mkF m 45 #[.val (.int (8 : Int32))] [(.int (8 : Int32))])) _
    refine XS.iconst X0.here hx rfl (hb hby d1_45) ?_
    show Steps p.tables e below (s₁.setTop (mkF m 46 #[.val (.int (8 : Int32))] [(.int (5 : Int32)), (.int (8 : Int32))])) _
    refine XS.icmpYes X0.here hx rfl (pc0 := 46) (pc' := 53) rfl (hb hby d1_46) rfl (feq (by decide +kernel : ¬ ((8 : Int32) = (5 : Int32)))).2 (by decide) (by decide) ?_
    show Steps p.tables e below (s₁.setTop (mkF m 53 #[.val (.int (8 : Int32))] [])) _
    refine XS.iloadN X0.here hx rfl (hb hby d1_53) rfl ?_
    show Steps p.tables e below (s₁.setTop (mkF m 54 #[.val (.int (8 : Int32))] [(.int (8 : Int32))])) _
    refine XS.bipush X0.here hx rfl (hb hby d1_54) ?_
    show Steps p.tables e below (s₁.setTop (mkF m 56 #[.val (.int (8 : Int32))] [(.int (6 : Int32)), (.int (8 : Int32))])) _
    refine XS.icmpYes X0.here hx rfl (pc0 := 56) (pc' := 63) rfl (hb hby d1_56) rfl (feq (by decide +kernel : ¬ ((8 : Int32) = (6 : Int32)))).2 (by decide) (by decide) ?_
    show Steps p.tables e below (s₁.setTop (mkF m 63 #[.val (.int (8 : Int32))] [])) _
    refine XS.iloadN X0.here hx rfl (hb hby d1_63) rfl ?_
    show Steps p.tables e below (s₁.setTop (mkF m 64 #[.val (.int (8 : Int32))] [(.int (8 : Int32))])) _
    refine XS.bipush X0.here hx rfl (hb hby d1_64) ?_
    show Steps p.tables e below (s₁.setTop (mkF m 66 #[.val (.int (8 : Int32))] [(.int (7 : Int32)), (.int (8 : Int32))])) _
    refine XS.icmpYes X0.here hx rfl (pc0 := 66) (pc' := 73) rfl (hb hby d1_66) rfl (feq (by decide +kernel : ¬ ((8 : Int32) = (7 : Int32)))).2 (by decide) (by decide) ?_
    show Steps p.tables e below (s₁.setTop (mkF m 73 #[.val (.int (8 : Int32))] [])) _
    refine st3 _ ?_
    show Steps p.tables e below (T3.setTop (mkF m 76 #[.val (.int (8 : Int32))] [(.ref a1)])) _
    jvm_step X3.here [X3.here.top, hx, (hb hby d1_76), X3.method', Bd.returns, Value.isRef, FieldType.isReference]
    first | (intro acts; rw [hr _ acts rfl rfl rfl]) | rw [hr _ _ rfl rfl rfl]
    exact Steps.refl _
  · show Q1_14 Z _ h0 n0 _ T3.heap _
    rw [e3]
    exact ⟨rfl, N0, rfl⟩
theorem ef_rm0 (m : MethodId) (x0 : Int32) : entryFrame m #[(.int x0)] maxLocals = mkF m 0 #[.val (.int x0), .unset, .unset, .unset, .unset] [] := by first | (simp [entryFrame, mkF, argsToLocals, Value.category, maxLocals]; done) | rfl
def Q0 (Z : State) (p1 : Int32) (a5 : Addr) (a12 : Addr) (a18 : Addr) (a26 : Addr) (a33 : Addr) (a45 : Addr) (a52 : Addr) (a79 : Addr) (a86 : Addr) (a98 : Addr) (a105 : Addr) (a117 : Addr) (a124 : Addr) (a136 : Addr) (a143 : Addr) (a155 : Addr) (a162 : Addr) (h0 : Heap) (n0 : Nat) (v : Option Value) (h : Heap) (L : List Loc) : Prop := v = some (.int 1) ∧ Fr n0 L
set_option maxRecDepth 65536 in
set_option maxHeartbeats 40000000 in
theorem rm0 (l : Launch) (Z : State) (a0 : Array Value) (hw : ∀ d ∈ own_ws, d.before a0 Z = true) (ws : List Jvm.Cond) (p1 : Int32) (a5 : Addr) (a12 : Addr) (a18 : Addr) (a26 : Addr) (a33 : Addr) (a45 : Addr) (a52 : Addr) (a79 : Addr) (a86 : Addr) (a98 : Addr) (a105 : Addr) (a117 : Addr) (a124 : Addr) (a136 : Addr) (a143 : Addr) (a155 : Addr) (a162 : Addr) (h0 : Heap) (n0 : Nat) (O0 : Old Z n0 h0) (S_6 : Sta Z Z.heap "com/example/railspan/railspan/game/Card" "BLUE" "Lcom/example/railspan/railspan/game/Card;" (.ref a5)) (E_11 : Exa Z Z.heap a5 "com/example/railspan/railspan/game/Card") (F13 : Fld Z Z.heap a5 "com/example/railspan/railspan/game/Card" "colour" "Lcom/example/railspan/railspan/board/Colour;" (.ref a12)) (S_19 : Sta Z Z.heap "com/example/railspan/railspan/game/Card" "LOCOMOTIVE" "Lcom/example/railspan/railspan/game/Card;" (.ref a18)) (hne21 : a5 ≠ a18) (S_27 : Sta Z Z.heap "com/example/railspan/railspan/game/Card" "GREEN" "Lcom/example/railspan/railspan/game/Card;" (.ref a26)) (E_32 : Exa Z Z.heap a26 "com/example/railspan/railspan/game/Card") (F34 : Fld Z Z.heap a26 "com/example/railspan/railspan/game/Card" "colour" "Lcom/example/railspan/railspan/board/Colour;" (.ref a33)) (hne40 : a26 ≠ a18) (S_46 : Sta Z Z.heap "com/example/railspan/railspan/game/Card" "BLACK" "Lcom/example/railspan/railspan/game/Card;" (.ref a45)) (E_51 : Exa Z Z.heap a45 "com/example/railspan/railspan/game/Card") (F53 : Fld Z Z.heap a45 "com/example/railspan/railspan/game/Card" "colour" "Lcom/example/railspan/railspan/board/Colour;" (.ref a52)) (hne59 : a45 ≠ a18) (E_68 : Exa Z Z.heap a18 "com/example/railspan/railspan/game/Card") (F69 : Fld Z Z.heap a18 "com/example/railspan/railspan/game/Card" "colour" "Lcom/example/railspan/railspan/board/Colour;" .null) (S_80 : Sta Z Z.heap "com/example/railspan/railspan/game/Card" "ORANGE" "Lcom/example/railspan/railspan/game/Card;" (.ref a79)) (E_85 : Exa Z Z.heap a79 "com/example/railspan/railspan/game/Card") (F87 : Fld Z Z.heap a79 "com/example/railspan/railspan/game/Card" "colour" "Lcom/example/railspan/railspan/board/Colour;" (.ref a86)) (hne93 : a79 ≠ a18) (S_99 : Sta Z Z.heap "com/example/railspan/railspan/game/Card" "PURPLE" "Lcom/example/railspan/railspan/game/Card;" (.ref a98)) (E_104 : Exa Z Z.heap a98 "com/example/railspan/railspan/game/Card") (F106 : Fld Z Z.heap a98 "com/example/railspan/railspan/game/Card" "colour" "Lcom/example/railspan/railspan/board/Colour;" (.ref a105)) (hne112 : a98 ≠ a18) (S_118 : Sta Z Z.heap "com/example/railspan/railspan/game/Card" "RED" "Lcom/example/railspan/railspan/game/Card;" (.ref a117)) (E_123 : Exa Z Z.heap a117 "com/example/railspan/railspan/game/Card") (F125 : Fld Z Z.heap a117 "com/example/railspan/railspan/game/Card" "colour" "Lcom/example/railspan/railspan/board/Colour;" (.ref a124)) (hne131 : a117 ≠ a18) (S_137 : Sta Z Z.heap "com/example/railspan/railspan/game/Card" "WHITE" "Lcom/example/railspan/railspan/game/Card;" (.ref a136)) (E_142 : Exa Z Z.heap a136 "com/example/railspan/railspan/game/Card") (F144 : Fld Z Z.heap a136 "com/example/railspan/railspan/game/Card" "colour" "Lcom/example/railspan/railspan/board/Colour;" (.ref a143)) (hne150 : a136 ≠ a18) (S_156 : Sta Z Z.heap "com/example/railspan/railspan/game/Card" "YELLOW" "Lcom/example/railspan/railspan/game/Card;" (.ref a155)) (E_161 : Exa Z Z.heap a155 "com/example/railspan/railspan/game/Card") (F163 : Fld Z Z.heap a155 "com/example/railspan/railspan/game/Card" "colour" "Lcom/example/railspan/railspan/board/Colour;" (.ref a162)) (hne169 : a155 ≠ a18) :
    MetFree l x (head1 (Jvm.Cond.code x code maxLocals ret :: ws) room_1) (fun a U => a = #[(.int p1)] ∧ Z.Warmed39 U.vm ∧ U.heap = h0) (fun _ _ _ _ _ => True) (fun _ U o U' => ∃ v L, o = .returned v ∧ Q0 Z p1 a5 a12 a18 a26 a33 a45 a52 a79 a86 a98 a105 a117 a124 a136 a143 a155 a162 h0 n0 v U'.heap L ∧ FrameEnd U o U' L room_1.cells room_1.slots) := by
  refine MetFree.of_bodySF (plainFor_of_name pn_0) hisR ?_
  intro p e s m args below meth c s₁ Bd hml0 hP hK
  obtain ⟨rfl, hZ, hh⟩ := hP
  have hx := Bd.exec
  have hby := Bd.bytes
  have hml : c.maxLocals = 5 := hml0
  have hown : s.vm.findClass "com/example/railspan/railspan/game/CardIsLocomotivePinLaw" = some m.cls := findClass_of_methodNamed Bd.named
  have hnm := (name_of_methodNamed Bd.named Bd.method).1
  have X0 : Stand p l e room_1 s m #[(.int p1)] below meth c s₁ [] 0 0 := Stand.of_body Bd
  have e0 : s₁.heap = h0 := by rw [← hh, Bd.state]; rfl
  have N0 := Fr.nil n0
  have pre0 : ∀ t, Steps p.tables e below (s₁.setTop (mkF m 0 #[.val (.int p1), .unset, .unset, .unset, .unset] [])) t → Steps p.tables e below (s₁.setTop (entryFrame m #[(.int p1)] maxLocals)) t := fun t k => castTop (ef_rm0 m p1) k
  obtain ⟨i2, hi2⟩ : ∃ z, z = (p1 &&& (2147483647 : Int32)) := ⟨_, rfl⟩
  have pre4 : ∀ t, Steps p.tables e below (s₁.setTop (mkF m 6 #[.val (.int p1), .unset, .unset, .unset, .unset] [(.int (9 : Int32)), (.int i2)])) t → Steps p.tables e below (s₁.setTop (entryFrame m #[(.int p1)] maxLocals)) t := by
    intro t kt
    refine pre0 t ?_
    show Steps p.tables e below (s₁.setTop (mkF m 0 #[.val (.int p1), .unset, .unset, .unset, .unset] [])) _
    refine XS.iloadN X0.here hx rfl (hb hby at_0) rfl ?_
    show Steps p.tables e below (s₁.setTop (mkF m 1 #[.val (.int p1), .unset, .unset, .unset, .unset] [(.int p1)])) _
    refine X0.ldcInt hx hown (mvT hZ (hw _ (gw 0 rfl))) (g := (mkF m 1 #[.val (.int p1), .unset, .unset, .unset, .unset] [(.int p1)])) rfl (hb hby at_1) _ ?_
    show Steps p.tables e below (s₁.setTop (mkF m 3 #[.val (.int p1), .unset, .unset, .unset, .unset] [(.int (2147483647 : Int32)), (.int p1)])) _
    refine XS.iand X0.here hx rfl (hb hby at_3) rfl ?_
    show Steps p.tables e below (s₁.setTop (mkF m 4 #[.val (.int p1), .unset, .unset, .unset, .unset] [(.int (p1 &&& (2147483647 : Int32)))])) _
    rw [← hi2]
    show Steps p.tables e below (s₁.setTop (mkF m 4 #[.val (.int p1), .unset, .unset, .unset, .unset] [(.int i2)])) _
    refine XS.bipush X0.here hx rfl (hb hby at_4) ?_
    show Steps p.tables e below (s₁.setTop (mkF m 6 #[.val (.int p1), .unset, .unset, .unset, .unset] [(.int (9 : Int32)), (.int i2)])) _
    exact kt
  rcases (own_mod9 hi2) with hq3 | hq3 | hq3 | hq3 | hq3 | hq3 | hq3 | hq3 | hq3
  · skip
    obtain ⟨_, _, ⟨T7, L7, k7, n7⟩, -, X7, ⟨Lc7, hQ7, l7, y7, z7⟩, st7⟩ := Jvm.LawKit.callS X0 hx (y := M_0) hown (mvT hZ (hw _ (gw 1 rfl))) (mvT hZ (hw _ (gw 2 rfl))) (mvT hZ (hw _ (gw 3 rfl))) (mvT hZ (hw _ (gw 4 rfl))) (by decide) (backOf (W := 0) (rm1_2 l Z a0 hw [] a5 h0 n0  O0 S_6) hZ (hw _ (gw 4 rfl)) (hw _ (gw 3 rfl)) (by decide) (by decide)) (g := (mkF m 9 #[.val (.int p1), .val (.int (0 : Int32)), .unset, .unset, .unset] [(.int (0 : Int32))])) rfl (by rw [hml]; rfl) (argsL := [(.int (0 : Int32))]) (rest := []) (lenOf pd_0 rfl) rfl (by show 2 * 0 + _ ≤ _; exact Nat.le_of_eq rfl) (hb hby at_9) (fun _ _ => ⟨rfl, e0, (by decide : 0 + 0 ≤ _), (by decide : 0 + 0 ≤ _)⟩)
    dsimp only [Pt.U, Pt.locs, Pt.cells, Pt.slots] at X7 l7 y7 z7 st7 hQ7
    subst l7 y7 z7
    obtain ⟨rfl, u9, u10⟩ := hQ7
    have N7 := Fr.app N0 u9
    obtain ⟨cq14, kq14, q14a, q14b, q14c⟩ := isOf hZ u10 (Exa.ext O0.2 E_11)
    obtain ⟨_, _, ⟨T14, L14, k14, n14⟩, -, X14, ⟨Lc14, hQ14, l14, y14, z14⟩, st14⟩ := X7.virtualBack hx (y := M_1) (z := M_1) hown (mvT hZ (hw _ (gw 8 rfl))) (mvT hZ (hw _ (gw 9 rfl))) (notFace_of_selects (args := #[]) (mvT hZ (hw _ (gw 11 rfl)))) (mvT hZ (hw _ (gw 11 rfl))) (mvT hZ (hw _ (gw 10 rfl))) (by decide) (backOf (W := 0) (rm2_3 l Z a0 hw [] a5 a12 h0 n0  O0 F13) hZ (hw _ (gw 12 rfl)) (hw _ (gw 6 rfl)) (by decide) (by decide)) q14a q14c (g := (mkF m 14 #[.val (.int p1), .val (.int (0 : Int32)), .val (.ref a5), .unset, .unset] [(.ref a5)])) rfl (by rw [hml]; rfl) (Steps.refl _) (argsL := []) (rest := []) (lenOf pd_1 rfl) rfl (by show 2 * 0 + _ ≤ _; exact Nat.le_of_eq rfl) (hb hby at_14) (fun _ _ => ⟨rfl, u10, (by decide : 0 + 0 ≤ _), (by decide : 0 + 0 ≤ _)⟩)
    dsimp only [Pt.U, Pt.locs, Pt.cells, Pt.slots] at X14 l14 y14 z14 st14 hQ14
    subst l14 y14 z14
    obtain ⟨rfl, u16, u17⟩ := hQ14
    have N14 := Fr.app N7 u16
    obtain ⟨T20, X20, e20, st20⟩ := getS2 X14 hx hZ hown (host := "") (Or.inl (hw _ (gw 17 rfl))) Via.refl u17 (Sta.ext O0.2 S_19) (g := (mkF m 38 #[.val (.int p1), .val (.int (0 : Int32)), .val (.ref a5), .val (.int (0 : Int32)), .val (.int (0 : Int32))] [(.ref a5), (.int (0 : Int32))])) rfl (hb hby at_38)
    obtain ⟨cq22, kq22, q22a, q22b, q22c⟩ := isOf hZ e20 (Exa.ext O0.2 E_11)
    obtain ⟨_, _, ⟨T22, L22, k22, n22⟩, -, X22, ⟨Lc22, hQ22, l22, y22, z22⟩, st22⟩ := X20.virtualBack hx (y := M_2) (z := M_2) hown (mvT hZ (hw _ (gw 19 rfl))) (mvT hZ (hw _ (gw 20 rfl))) (notFace_of_selects (args := #[]) (mvT hZ (hw _ (gw 22 rfl)))) (mvT hZ (hw _ (gw 22 rfl))) (mvT hZ (hw _ (gw 21 rfl))) (by decide) (backOf (W := 1) (rm3_4 l Z a0 hw [] a5 a12 h0 n0  O0 F13) hZ (hw _ (gw 23 rfl)) (hw _ (gw 6 rfl)) (by decide) (by decide)) q22a q22c (g := (mkF m 54 #[.val (.int p1), .val (.int (0 : Int32)), .val (.ref a5), .val (.int (0 : Int32)), .val (.int (0 : Int32))] [(.ref a5), (.int (0 : Int32))])) rfl (by rw [hml]; rfl) (Steps.refl _) (argsL := []) (rest := [(.int (0 : Int32))]) (lenOf pd_2 rfl) rfl (by show 2 * 0 + _ ≤ _; exact Nat.le_of_eq rfl) (hb hby at_54) (fun _ _ => ⟨rfl, e20, (by decide : 0 + 0 ≤ _), (by decide : 0 + 0 ≤ _)⟩)
    dsimp only [Pt.U, Pt.locs, Pt.cells, Pt.slots] at X22 l22 y22 z22 st22 hQ22
    subst l22 y22 z22
    obtain ⟨rfl, u24, u25⟩ := hQ22
    have N22 := Fr.app N14 u24
    obtain ⟨fs, hr, hrun, hended, hW, hsame⟩ := X22.leave (v := some (.int (1 : Int32))) (fun h => by rw [Bd.returns] at h; cases h)
    refine ⟨_, _, pre4 _ ?_, hrun, hended, _, _, rfl, ?_, ⟨_, rfl⟩, hW, hsame.mono (by decide) (by decide)⟩
    · show Steps p.tables e below (s₁.setTop (mkF m 6 #[.val (.int p1), .unset, .unset, .unset, .unset] [(.int (9 : Int32)), (.int i2)])) _
      refine Jvm.RoadKit.iremM (g := (mkF m 6 #[.val (.int p1), .unset, .unset, .unset, .unset] [(.int (9 : Int32)), (.int i2)])) X0 hx rfl (hb hby at_6) rfl (by decide +kernel : ¬ ((9 : Int32) = (0 : Int32))) ?_
      show Steps p.tables e below (s₁.setTop (mkF m 7 #[.val (.int p1), .unset, .unset, .unset, .unset] [(.int (i2 % (9 : Int32)))])) _
      rw [hq3]
      show Steps p.tables e below (s₁.setTop (mkF m 7 #[.val (.int p1), .unset, .unset, .unset, .unset] [(.int (0 : Int32))])) _
      refine XS.istoreN X0.here hx rfl (hb hby at_7) rfl (l' := #[.val (.int p1), .val (.int (0 : Int32)), .unset, .unset, .unset]) rfl ?_
      show Steps p.tables e below (s₁.setTop (mkF m 8 #[.val (.int p1), .val (.int (0 : Int32)), .unset, .unset, .unset] [])) _
      refine XS.iloadN X0.here hx rfl (hb hby at_8) rfl ?_
      show Steps p.tables e below (s₁.setTop (mkF m 9 #[.val (.int p1), .val (.int (0 : Int32)), .unset, .unset, .unset] [(.int (0 : Int32))])) _
      refine st7 _ ?_
      show Steps p.tables e below (T7.setTop (mkF m 12 #[.val (.int p1), .val (.int (0 : Int32)), .unset, .unset, .unset] [(.ref a5)])) _
      refine XS.astoreN X7.here hx rfl (hb hby at_12) rfl rfl (l' := #[.val (.int p1), .val (.int (0 : Int32)), .val (.ref a5), .unset, .unset]) rfl ?_
      show Steps p.tables e below (T7.setTop (mkF m 13 #[.val (.int p1), .val (.int (0 : Int32)), .val (.ref a5), .unset, .unset] [])) _
      refine XS.aloadN X7.here hx rfl (hb hby at_13) rfl rfl ?_
      show Steps p.tables e below (T7.setTop (mkF m 14 #[.val (.int p1), .val (.int (0 : Int32)), .val (.ref a5), .unset, .unset] [(.ref a5)])) _
      refine st14.trans ?_
      show Steps p.tables e below (T14.setTop (mkF m 17 #[.val (.int p1), .val (.int (0 : Int32)), .val (.ref a5), .unset, .unset] [(.int (0 : Int32))])) _
      refine XS.istoreN X14.here hx rfl (hb hby at_17) rfl (l' := #[.val (.int p1), .val (.int (0 : Int32)), .val (.ref a5), .val (.int (0 : Int32)), .unset]) rfl ?_
      show Steps p.tables e below (T14.setTop (mkF m 18 #[.val (.int p1), .val (.int (0 : Int32)), .val (.ref a5), .val (.int (0 : Int32)), .unset] [])) _
      refine XS.iloadN X14.here hx rfl (hb hby at_18) rfl ?_
      show Steps p.tables e below (T14.setTop (mkF m 19 #[.val (.int p1), .val (.int (0 : Int32)), .val (.ref a5), .val (.int (0 : Int32)), .unset] [(.int (0 : Int32))])) _
      refine XS.iconst X14.here hx rfl (hb hby at_19) ?_
      show Steps p.tables e below (T14.setTop (mkF m 20 #[.val (.int p1), .val (.int (0 : Int32)), .val (.ref a5), .val (.int (0 : Int32)), .unset] [(.int (3 : Int32)), (.int (0 : Int32))])) _
      refine XS.icmpYes X14.here hx rfl (pc0 := 20) (pc' := 27) rfl (hb hby at_20) rfl (feq (by decide +kernel : ¬ ((0 : Int32) = (3 : Int32)))).2 (by decide) (by decide) ?_
      show Steps p.tables e below (T14.setTop (mkF m 27 #[.val (.int p1), .val (.int (0 : Int32)), .val (.ref a5), .val (.int (0 : Int32)), .unset] [])) _
      refine XS.iconst X14.here hx rfl (hb hby at_27) ?_
      show Steps p.tables e below (T14.setTop (mkF m 28 #[.val (.int p1), .val (.int (0 : Int32)), .val (.ref a5), .val (.int (0 : Int32)), .unset] [(.int (0 : Int32))])) _
      refine XS.istore X14.here hx rfl (hb hby at_28) rfl (l' := #[.val (.int p1), .val (.int (0 : Int32)), .val (.ref a5), .val (.int (0 : Int32)), .val (.int (0 : Int32))]) rfl ?_
      show Steps p.tables e below (T14.setTop (mkF m 30 #[.val (.int p1), .val (.int (0 : Int32)), .val (.ref a5), .val (.int (0 : Int32)), .val (.int (0 : Int32))] [])) _
      refine XS.iloadN X14.here hx rfl (hb hby at_30) rfl ?_
      show Steps p.tables e below (T14.setTop (mkF m 31 #[.val (.int p1), .val (.int (0 : Int32)), .val (.ref a5), .val (.int (0 : Int32)), .val (.int (0 : Int32))] [(.int (0 : Int32))])) _
      refine XS.iload X14.here hx rfl (hb hby at_31) rfl ?_
      show Steps p.tables e below (T14.setTop (mkF m 33 #[.val (.int p1), .val (.int (0 : Int32)), .val (.ref a5), .val (.int (0 : Int32)), .val (.int (0 : Int32))] [(.int (0 : Int32)), (.int (0 : Int32))])) _
      refine XS.icmpNo X14.here hx rfl (hb hby at_33) rfl (teq (by decide +kernel : (0 : Int32) = (0 : Int32))).2 ?_
      show Steps p.tables e below (T14.setTop (mkF m 36 #[.val (.int p1), .val (.int (0 : Int32)), .val (.ref a5), .val (.int (0 : Int32)), .val (.int (0 : Int32))] [])) _
      refine XS.iloadN X14.here hx rfl (hb hby at_36) rfl ?_
      show Steps p.tables e below (T14.setTop (mkF m 37 #[.val (.int p1), .val (.int (0 : Int32)), .val (.ref a5), .val (.int (0 : Int32)), .val (.int (0 : Int32))] [(.int (0 : Int32))])) _
      refine XS.aloadN X14.here hx rfl (hb hby at_37) rfl rfl ?_
      show Steps p.tables e below (T14.setTop (mkF m 38 #[.val (.int p1), .val (.int (0 : Int32)), .val (.ref a5), .val (.int (0 : Int32)), .val (.int (0 : Int32))] [(.ref a5), (.int (0 : Int32))])) _
      refine st20 _ ?_
      show Steps p.tables e below (T20.setTop (mkF m 41 #[.val (.int p1), .val (.int (0 : Int32)), .val (.ref a5), .val (.int (0 : Int32)), .val (.int (0 : Int32))] [(.ref a18), (.ref a5), (.int (0 : Int32))])) _
      refine Jvm.RoadKit.acmp (g := (mkF m 41 #[.val (.int p1), .val (.int (0 : Int32)), .val (.ref a5), .val (.int (0 : Int32)), .val (.int (0 : Int32))] [(.ref a18), (.ref a5), (.int (0 : Int32))])) X20 hx rfl rfl rfl (pc0 := 41) (pc' := 48) (same := false) rfl (hb hby at_41) rfl (decide_eq_false fun q => hne21 (Value.ref.inj q)) (by decide) (by decide) ?_
      show Steps p.tables e below (T20.setTop (mkF m 48 #[.val (.int p1), .val (.int (0 : Int32)), .val (.ref a5), .val (.int (0 : Int32)), .val (.int (0 : Int32))] [(.int (0 : Int32))])) _
      refine XS.iconst X20.here hx rfl (hb hby at_48) ?_
      show Steps p.tables e below (T20.setTop (mkF m 49 #[.val (.int p1), .val (.int (0 : Int32)), .val (.ref a5), .val (.int (0 : Int32)), .val (.int (0 : Int32))] [(.int (0 : Int32)), (.int (0 : Int32))])) _
      refine XS.icmpNo X20.here hx rfl (hb hby at_49) rfl (teq (by decide +kernel : (0 : Int32) = (0 : Int32))).2 ?_
      show Steps p.tables e below (T20.setTop (mkF m 52 #[.val (.int p1), .val (.int (0 : Int32)), .val (.ref a5), .val (.int (0 : Int32)), .val (.int (0 : Int32))] [])) _
      refine XS.iloadN X20.here hx rfl (hb hby at_52) rfl ?_
      show Steps p.tables e below (T20.setTop (mkF m 53 #[.val (.int p1), .val (.int (0 : Int32)), .val (.ref a5), .val (.int (0 : Int32)), .val (.int (0 : Int32))] [(.int (0 : Int32))])) _
      refine XS.aloadN X20.here hx rfl (hb hby at_53) rfl rfl ?_
      show Steps p.tables e below (T20.setTop (mkF m 54 #[.val (.int p1), .val (.int (0 : Int32)), .val (.ref a5), .val (.int (0 : Int32)), .val (.int (0 : Int32))] [(.ref a5), (.int (0 : Int32))])) _
      refine st22.trans ?_
      show Steps p.tables e below (T22.setTop (mkF m 57 #[.val (.int p1), .val (.int (0 : Int32)), .val (.ref a5), .val (.int (0 : Int32)), .val (.int (0 : Int32))] [(.ref a12), (.int (0 : Int32))])) _
      refine XS.ifnonnullYes X22.here hx rfl (pc0 := 57) (pc' := 64) rfl (hb hby at_57) rfl (by decide) (by decide) ?_
      show Steps p.tables e below (T22.setTop (mkF m 64 #[.val (.int p1), .val (.int (0 : Int32)), .val (.ref a5), .val (.int (0 : Int32)), .val (.int (0 : Int32))] [(.int (0 : Int32))])) _
      refine XS.iconst X22.here hx rfl (hb hby at_64) ?_
      show Steps p.tables e below (T22.setTop (mkF m 65 #[.val (.int p1), .val (.int (0 : Int32)), .val (.ref a5), .val (.int (0 : Int32)), .val (.int (0 : Int32))] [(.int (0 : Int32)), (.int (0 : Int32))])) _
      refine XS.icmpNo X22.here hx rfl (hb hby at_65) rfl (teq (by decide +kernel : (0 : Int32) = (0 : Int32))).2 ?_
      show Steps p.tables e below (T22.setTop (mkF m 68 #[.val (.int p1), .val (.int (0 : Int32)), .val (.ref a5), .val (.int (0 : Int32)), .val (.int (0 : Int32))] [])) _
      refine XS.iconst X22.here hx rfl (hb hby at_68) ?_
      show Steps p.tables e below (T22.setTop (mkF m 69 #[.val (.int p1), .val (.int (0 : Int32)), .val (.ref a5), .val (.int (0 : Int32)), .val (.int (0 : Int32))] [(.int (1 : Int32))])) _
      refine XS.goto X22.here hx rfl (pc0 := 69) (pc' := 73) rfl (hb hby at_69) (by decide) (by decide) ?_
      show Steps p.tables e below (T22.setTop (mkF m 73 #[.val (.int p1), .val (.int (0 : Int32)), .val (.ref a5), .val (.int (0 : Int32)), .val (.int (0 : Int32))] [(.int (1 : Int32))])) _
      exact retN X22 hx (t := .boolean) Bd.returns (by simp) (hb hby at_73) hr
    · show Q0 Z _ _ _ _ _ _ _ _ _ _ _ _ _ _ _ _ _ _ h0 n0 _ T22.heap _
      rw [u25]
      exact ⟨rfl, N22⟩
  · skip
    obtain ⟨_, _, ⟨T28, L28, k28, n28⟩, -, X28, ⟨Lc28, hQ28, l28, y28, z28⟩, st28⟩ := Jvm.LawKit.callS X0 hx (y := M_0) hown (mvT hZ (hw _ (gw 1 rfl))) (mvT hZ (hw _ (gw 2 rfl))) (mvT hZ (hw _ (gw 3 rfl))) (mvT hZ (hw _ (gw 4 rfl))) (by decide) (backOf (W := 0) (rm1_5 l Z a0 hw [] a26 h0 n0  O0 S_27) hZ (hw _ (gw 4 rfl)) (hw _ (gw 3 rfl)) (by decide) (by decide)) (g := (mkF m 9 #[.val (.int p1), .val (.int (1 : Int32)), .unset, .unset, .unset] [(.int (1 : Int32))])) rfl (by rw [hml]; rfl) (argsL := [(.int (1 : Int32))]) (rest := []) (lenOf pd_0 rfl) rfl (by show 2 * 0 + _ ≤ _; exact Nat.le_of_eq rfl) (hb hby at_9) (fun _ _ => ⟨rfl, e0, (by decide : 0 + 0 ≤ _), (by decide : 0 + 0 ≤ _)⟩)
    dsimp only [Pt.U, Pt.locs, Pt.cells, Pt.slots] at X28 l28 y28 z28 st28 hQ28
    subst l28 y28 z28
    obtain ⟨rfl, u30, u31⟩ := hQ28
    have N28 := Fr.app N0 u30
    obtain ⟨cq35, kq35, q35a, q35b, q35c⟩ := isOf hZ u31 (Exa.ext O0.2 E_32)
    obtain ⟨_, _, ⟨T35, L35, k35, n35⟩, -, X35, ⟨Lc35, hQ35, l35, y35, z35⟩, st35⟩ := X28.virtualBack hx (y := M_1) (z := M_1) hown (mvT hZ (hw _ (gw 8 rfl))) (mvT hZ (hw _ (gw 9 rfl))) (notFace_of_selects (args := #[]) (mvT hZ (hw _ (gw 11 rfl)))) (mvT hZ (hw _ (gw 11 rfl))) (mvT hZ (hw _ (gw 10 rfl))) (by decide) (backOf (W := 0) (rm2_3 l Z a0 hw [] a26 a33 h0 n0  O0 F34) hZ (hw _ (gw 12 rfl)) (hw _ (gw 6 rfl)) (by decide) (by decide)) q35a q35c (g := (mkF m 14 #[.val (.int p1), .val (.int (1 : Int32)), .val (.ref a26), .unset, .unset] [(.ref a26)])) rfl (by rw [hml]; rfl) (Steps.refl _) (argsL := []) (rest := []) (lenOf pd_1 rfl) rfl (by show 2 * 0 + _ ≤ _; exact Nat.le_of_eq rfl) (hb hby at_14) (fun _ _ => ⟨rfl, u31, (by decide : 0 + 0 ≤ _), (by decide : 0 + 0 ≤ _)⟩)
    dsimp only [Pt.U, Pt.locs, Pt.cells, Pt.slots] at X35 l35 y35 z35 st35 hQ35
    subst l35 y35 z35
    obtain ⟨rfl, u37, u38⟩ := hQ35
    have N35 := Fr.app N28 u37
    obtain ⟨T39, X39, e39, st39⟩ := getS2 X35 hx hZ hown (host := "") (Or.inl (hw _ (gw 17 rfl))) Via.refl u38 (Sta.ext O0.2 S_19) (g := (mkF m 38 #[.val (.int p1), .val (.int (1 : Int32)), .val (.ref a26), .val (.int (0 : Int32)), .val (.int (0 : Int32))] [(.ref a26), (.int (0 : Int32))])) rfl (hb hby at_38)
    obtain ⟨cq41, kq41, q41a, q41b, q41c⟩ := isOf hZ e39 (Exa.ext O0.2 E_32)
    obtain ⟨_, _, ⟨T41, L41, k41, n41⟩, -, X41, ⟨Lc41, hQ41, l41, y41, z41⟩, st41⟩ := X39.virtualBack hx (y := M_2) (z := M_2) hown (mvT hZ (hw _ (gw 19 rfl))) (mvT hZ (hw _ (gw 20 rfl))) (notFace_of_selects (args := #[]) (mvT hZ (hw _ (gw 22 rfl)))) (mvT hZ (hw _ (gw 22 rfl))) (mvT hZ (hw _ (gw 21 rfl))) (by decide) (backOf (W := 1) (rm3_4 l Z a0 hw [] a26 a33 h0 n0  O0 F34) hZ (hw _ (gw 23 rfl)) (hw _ (gw 6 rfl)) (by decide) (by decide)) q41a q41c (g := (mkF m 54 #[.val (.int p1), .val (.int (1 : Int32)), .val (.ref a26), .val (.int (0 : Int32)), .val (.int (0 : Int32))] [(.ref a26), (.int (0 : Int32))])) rfl (by rw [hml]; rfl) (Steps.refl _) (argsL := []) (rest := [(.int (0 : Int32))]) (lenOf pd_2 rfl) rfl (by show 2 * 0 + _ ≤ _; exact Nat.le_of_eq rfl) (hb hby at_54) (fun _ _ => ⟨rfl, e39, (by decide : 0 + 0 ≤ _), (by decide : 0 + 0 ≤ _)⟩)
    dsimp only [Pt.U, Pt.locs, Pt.cells, Pt.slots] at X41 l41 y41 z41 st41 hQ41
    subst l41 y41 z41
    obtain ⟨rfl, u43, u44⟩ := hQ41
    have N41 := Fr.app N35 u43
    obtain ⟨fs, hr, hrun, hended, hW, hsame⟩ := X41.leave (v := some (.int (1 : Int32))) (fun h => by rw [Bd.returns] at h; cases h)
    refine ⟨_, _, pre4 _ ?_, hrun, hended, _, _, rfl, ?_, ⟨_, rfl⟩, hW, hsame.mono (by decide) (by decide)⟩
    · show Steps p.tables e below (s₁.setTop (mkF m 6 #[.val (.int p1), .unset, .unset, .unset, .unset] [(.int (9 : Int32)), (.int i2)])) _
      refine Jvm.RoadKit.iremM (g := (mkF m 6 #[.val (.int p1), .unset, .unset, .unset, .unset] [(.int (9 : Int32)), (.int i2)])) X0 hx rfl (hb hby at_6) rfl (by decide +kernel : ¬ ((9 : Int32) = (0 : Int32))) ?_
      show Steps p.tables e below (s₁.setTop (mkF m 7 #[.val (.int p1), .unset, .unset, .unset, .unset] [(.int (i2 % (9 : Int32)))])) _
      rw [hq3]
      show Steps p.tables e below (s₁.setTop (mkF m 7 #[.val (.int p1), .unset, .unset, .unset, .unset] [(.int (1 : Int32))])) _
      refine XS.istoreN X0.here hx rfl (hb hby at_7) rfl (l' := #[.val (.int p1), .val (.int (1 : Int32)), .unset, .unset, .unset]) rfl ?_
      show Steps p.tables e below (s₁.setTop (mkF m 8 #[.val (.int p1), .val (.int (1 : Int32)), .unset, .unset, .unset] [])) _
      refine XS.iloadN X0.here hx rfl (hb hby at_8) rfl ?_
      show Steps p.tables e below (s₁.setTop (mkF m 9 #[.val (.int p1), .val (.int (1 : Int32)), .unset, .unset, .unset] [(.int (1 : Int32))])) _
      refine st28 _ ?_
      show Steps p.tables e below (T28.setTop (mkF m 12 #[.val (.int p1), .val (.int (1 : Int32)), .unset, .unset, .unset] [(.ref a26)])) _
      refine XS.astoreN X28.here hx rfl (hb hby at_12) rfl rfl (l' := #[.val (.int p1), .val (.int (1 : Int32)), .val (.ref a26), .unset, .unset]) rfl ?_
      show Steps p.tables e below (T28.setTop (mkF m 13 #[.val (.int p1), .val (.int (1 : Int32)), .val (.ref a26), .unset, .unset] [])) _
      refine XS.aloadN X28.here hx rfl (hb hby at_13) rfl rfl ?_
      show Steps p.tables e below (T28.setTop (mkF m 14 #[.val (.int p1), .val (.int (1 : Int32)), .val (.ref a26), .unset, .unset] [(.ref a26)])) _
      refine st35.trans ?_
      show Steps p.tables e below (T35.setTop (mkF m 17 #[.val (.int p1), .val (.int (1 : Int32)), .val (.ref a26), .unset, .unset] [(.int (0 : Int32))])) _
      refine XS.istoreN X35.here hx rfl (hb hby at_17) rfl (l' := #[.val (.int p1), .val (.int (1 : Int32)), .val (.ref a26), .val (.int (0 : Int32)), .unset]) rfl ?_
      show Steps p.tables e below (T35.setTop (mkF m 18 #[.val (.int p1), .val (.int (1 : Int32)), .val (.ref a26), .val (.int (0 : Int32)), .unset] [])) _
      refine XS.iloadN X35.here hx rfl (hb hby at_18) rfl ?_
      show Steps p.tables e below (T35.setTop (mkF m 19 #[.val (.int p1), .val (.int (1 : Int32)), .val (.ref a26), .val (.int (0 : Int32)), .unset] [(.int (1 : Int32))])) _
      refine XS.iconst X35.here hx rfl (hb hby at_19) ?_
      show Steps p.tables e below (T35.setTop (mkF m 20 #[.val (.int p1), .val (.int (1 : Int32)), .val (.ref a26), .val (.int (0 : Int32)), .unset] [(.int (3 : Int32)), (.int (1 : Int32))])) _
      refine XS.icmpYes X35.here hx rfl (pc0 := 20) (pc' := 27) rfl (hb hby at_20) rfl (feq (by decide +kernel : ¬ ((1 : Int32) = (3 : Int32)))).2 (by decide) (by decide) ?_
      show Steps p.tables e below (T35.setTop (mkF m 27 #[.val (.int p1), .val (.int (1 : Int32)), .val (.ref a26), .val (.int (0 : Int32)), .unset] [])) _
      refine XS.iconst X35.here hx rfl (hb hby at_27) ?_
      show Steps p.tables e below (T35.setTop (mkF m 28 #[.val (.int p1), .val (.int (1 : Int32)), .val (.ref a26), .val (.int (0 : Int32)), .unset] [(.int (0 : Int32))])) _
      refine XS.istore X35.here hx rfl (hb hby at_28) rfl (l' := #[.val (.int p1), .val (.int (1 : Int32)), .val (.ref a26), .val (.int (0 : Int32)), .val (.int (0 : Int32))]) rfl ?_
      show Steps p.tables e below (T35.setTop (mkF m 30 #[.val (.int p1), .val (.int (1 : Int32)), .val (.ref a26), .val (.int (0 : Int32)), .val (.int (0 : Int32))] [])) _
      refine XS.iloadN X35.here hx rfl (hb hby at_30) rfl ?_
      show Steps p.tables e below (T35.setTop (mkF m 31 #[.val (.int p1), .val (.int (1 : Int32)), .val (.ref a26), .val (.int (0 : Int32)), .val (.int (0 : Int32))] [(.int (0 : Int32))])) _
      refine XS.iload X35.here hx rfl (hb hby at_31) rfl ?_
      show Steps p.tables e below (T35.setTop (mkF m 33 #[.val (.int p1), .val (.int (1 : Int32)), .val (.ref a26), .val (.int (0 : Int32)), .val (.int (0 : Int32))] [(.int (0 : Int32)), (.int (0 : Int32))])) _
      refine XS.icmpNo X35.here hx rfl (hb hby at_33) rfl (teq (by decide +kernel : (0 : Int32) = (0 : Int32))).2 ?_
      show Steps p.tables e below (T35.setTop (mkF m 36 #[.val (.int p1), .val (.int (1 : Int32)), .val (.ref a26), .val (.int (0 : Int32)), .val (.int (0 : Int32))] [])) _
      refine XS.iloadN X35.here hx rfl (hb hby at_36) rfl ?_
      show Steps p.tables e below (T35.setTop (mkF m 37 #[.val (.int p1), .val (.int (1 : Int32)), .val (.ref a26), .val (.int (0 : Int32)), .val (.int (0 : Int32))] [(.int (0 : Int32))])) _
      refine XS.aloadN X35.here hx rfl (hb hby at_37) rfl rfl ?_
      show Steps p.tables e below (T35.setTop (mkF m 38 #[.val (.int p1), .val (.int (1 : Int32)), .val (.ref a26), .val (.int (0 : Int32)), .val (.int (0 : Int32))] [(.ref a26), (.int (0 : Int32))])) _
      refine st39 _ ?_
      show Steps p.tables e below (T39.setTop (mkF m 41 #[.val (.int p1), .val (.int (1 : Int32)), .val (.ref a26), .val (.int (0 : Int32)), .val (.int (0 : Int32))] [(.ref a18), (.ref a26), (.int (0 : Int32))])) _
      refine Jvm.RoadKit.acmp (g := (mkF m 41 #[.val (.int p1), .val (.int (1 : Int32)), .val (.ref a26), .val (.int (0 : Int32)), .val (.int (0 : Int32))] [(.ref a18), (.ref a26), (.int (0 : Int32))])) X39 hx rfl rfl rfl (pc0 := 41) (pc' := 48) (same := false) rfl (hb hby at_41) rfl (decide_eq_false fun q => hne40 (Value.ref.inj q)) (by decide) (by decide) ?_
      show Steps p.tables e below (T39.setTop (mkF m 48 #[.val (.int p1), .val (.int (1 : Int32)), .val (.ref a26), .val (.int (0 : Int32)), .val (.int (0 : Int32))] [(.int (0 : Int32))])) _
      refine XS.iconst X39.here hx rfl (hb hby at_48) ?_
      show Steps p.tables e below (T39.setTop (mkF m 49 #[.val (.int p1), .val (.int (1 : Int32)), .val (.ref a26), .val (.int (0 : Int32)), .val (.int (0 : Int32))] [(.int (0 : Int32)), (.int (0 : Int32))])) _
      refine XS.icmpNo X39.here hx rfl (hb hby at_49) rfl (teq (by decide +kernel : (0 : Int32) = (0 : Int32))).2 ?_
      show Steps p.tables e below (T39.setTop (mkF m 52 #[.val (.int p1), .val (.int (1 : Int32)), .val (.ref a26), .val (.int (0 : Int32)), .val (.int (0 : Int32))] [])) _
      refine XS.iloadN X39.here hx rfl (hb hby at_52) rfl ?_
      show Steps p.tables e below (T39.setTop (mkF m 53 #[.val (.int p1), .val (.int (1 : Int32)), .val (.ref a26), .val (.int (0 : Int32)), .val (.int (0 : Int32))] [(.int (0 : Int32))])) _
      refine XS.aloadN X39.here hx rfl (hb hby at_53) rfl rfl ?_
      show Steps p.tables e below (T39.setTop (mkF m 54 #[.val (.int p1), .val (.int (1 : Int32)), .val (.ref a26), .val (.int (0 : Int32)), .val (.int (0 : Int32))] [(.ref a26), (.int (0 : Int32))])) _
      refine st41.trans ?_
      show Steps p.tables e below (T41.setTop (mkF m 57 #[.val (.int p1), .val (.int (1 : Int32)), .val (.ref a26), .val (.int (0 : Int32)), .val (.int (0 : Int32))] [(.ref a33), (.int (0 : Int32))])) _
      refine XS.ifnonnullYes X41.here hx rfl (pc0 := 57) (pc' := 64) rfl (hb hby at_57) rfl (by decide) (by decide) ?_
      show Steps p.tables e below (T41.setTop (mkF m 64 #[.val (.int p1), .val (.int (1 : Int32)), .val (.ref a26), .val (.int (0 : Int32)), .val (.int (0 : Int32))] [(.int (0 : Int32))])) _
      refine XS.iconst X41.here hx rfl (hb hby at_64) ?_
      show Steps p.tables e below (T41.setTop (mkF m 65 #[.val (.int p1), .val (.int (1 : Int32)), .val (.ref a26), .val (.int (0 : Int32)), .val (.int (0 : Int32))] [(.int (0 : Int32)), (.int (0 : Int32))])) _
      refine XS.icmpNo X41.here hx rfl (hb hby at_65) rfl (teq (by decide +kernel : (0 : Int32) = (0 : Int32))).2 ?_
      show Steps p.tables e below (T41.setTop (mkF m 68 #[.val (.int p1), .val (.int (1 : Int32)), .val (.ref a26), .val (.int (0 : Int32)), .val (.int (0 : Int32))] [])) _
      refine XS.iconst X41.here hx rfl (hb hby at_68) ?_
      show Steps p.tables e below (T41.setTop (mkF m 69 #[.val (.int p1), .val (.int (1 : Int32)), .val (.ref a26), .val (.int (0 : Int32)), .val (.int (0 : Int32))] [(.int (1 : Int32))])) _
      refine XS.goto X41.here hx rfl (pc0 := 69) (pc' := 73) rfl (hb hby at_69) (by decide) (by decide) ?_
      show Steps p.tables e below (T41.setTop (mkF m 73 #[.val (.int p1), .val (.int (1 : Int32)), .val (.ref a26), .val (.int (0 : Int32)), .val (.int (0 : Int32))] [(.int (1 : Int32))])) _
      exact retN X41 hx (t := .boolean) Bd.returns (by simp) (hb hby at_73) hr
    · show Q0 Z _ _ _ _ _ _ _ _ _ _ _ _ _ _ _ _ _ _ h0 n0 _ T41.heap _
      rw [u44]
      exact ⟨rfl, N41⟩
  · skip
    obtain ⟨_, _, ⟨T47, L47, k47, n47⟩, -, X47, ⟨Lc47, hQ47, l47, y47, z47⟩, st47⟩ := Jvm.LawKit.callS X0 hx (y := M_0) hown (mvT hZ (hw _ (gw 1 rfl))) (mvT hZ (hw _ (gw 2 rfl))) (mvT hZ (hw _ (gw 3 rfl))) (mvT hZ (hw _ (gw 4 rfl))) (by decide) (backOf (W := 0) (rm1_6 l Z a0 hw [] a45 h0 n0  O0 S_46) hZ (hw _ (gw 4 rfl)) (hw _ (gw 3 rfl)) (by decide) (by decide)) (g := (mkF m 9 #[.val (.int p1), .val (.int (2 : Int32)), .unset, .unset, .unset] [(.int (2 : Int32))])) rfl (by rw [hml]; rfl) (argsL := [(.int (2 : Int32))]) (rest := []) (lenOf pd_0 rfl) rfl (by show 2 * 0 + _ ≤ _; exact Nat.le_of_eq rfl) (hb hby at_9) (fun _ _ => ⟨rfl, e0, (by decide : 0 + 0 ≤ _), (by decide : 0 + 0 ≤ _)⟩)
    dsimp only [Pt.U, Pt.locs, Pt.cells, Pt.slots] at X47 l47 y47 z47 st47 hQ47
    subst l47 y47 z47
    obtain ⟨rfl, u49, u50⟩ := hQ47
    have N47 := Fr.app N0 u49
    obtain ⟨cq54, kq54, q54a, q54b, q54c⟩ := isOf hZ u50 (Exa.ext O0.2 E_51)
    obtain ⟨_, _, ⟨T54, L54, k54, n54⟩, -, X54, ⟨Lc54, hQ54, l54, y54, z54⟩, st54⟩ := X47.virtualBack hx (y := M_1) (z := M_1) hown (mvT hZ (hw _ (gw 8 rfl))) (mvT hZ (hw _ (gw 9 rfl))) (notFace_of_selects (args := #[]) (mvT hZ (hw _ (gw 11 rfl)))) (mvT hZ (hw _ (gw 11 rfl))) (mvT hZ (hw _ (gw 10 rfl))) (by decide) (backOf (W := 0) (rm2_3 l Z a0 hw [] a45 a52 h0 n0  O0 F53) hZ (hw _ (gw 12 rfl)) (hw _ (gw 6 rfl)) (by decide) (by decide)) q54a q54c (g := (mkF m 14 #[.val (.int p1), .val (.int (2 : Int32)), .val (.ref a45), .unset, .unset] [(.ref a45)])) rfl (by rw [hml]; rfl) (Steps.refl _) (argsL := []) (rest := []) (lenOf pd_1 rfl) rfl (by show 2 * 0 + _ ≤ _; exact Nat.le_of_eq rfl) (hb hby at_14) (fun _ _ => ⟨rfl, u50, (by decide : 0 + 0 ≤ _), (by decide : 0 + 0 ≤ _)⟩)
    dsimp only [Pt.U, Pt.locs, Pt.cells, Pt.slots] at X54 l54 y54 z54 st54 hQ54
    subst l54 y54 z54
    obtain ⟨rfl, u56, u57⟩ := hQ54
    have N54 := Fr.app N47 u56
    obtain ⟨T58, X58, e58, st58⟩ := getS2 X54 hx hZ hown (host := "") (Or.inl (hw _ (gw 17 rfl))) Via.refl u57 (Sta.ext O0.2 S_19) (g := (mkF m 38 #[.val (.int p1), .val (.int (2 : Int32)), .val (.ref a45), .val (.int (0 : Int32)), .val (.int (0 : Int32))] [(.ref a45), (.int (0 : Int32))])) rfl (hb hby at_38)
    obtain ⟨cq60, kq60, q60a, q60b, q60c⟩ := isOf hZ e58 (Exa.ext O0.2 E_51)
    obtain ⟨_, _, ⟨T60, L60, k60, n60⟩, -, X60, ⟨Lc60, hQ60, l60, y60, z60⟩, st60⟩ := X58.virtualBack hx (y := M_2) (z := M_2) hown (mvT hZ (hw _ (gw 19 rfl))) (mvT hZ (hw _ (gw 20 rfl))) (notFace_of_selects (args := #[]) (mvT hZ (hw _ (gw 22 rfl)))) (mvT hZ (hw _ (gw 22 rfl))) (mvT hZ (hw _ (gw 21 rfl))) (by decide) (backOf (W := 1) (rm3_4 l Z a0 hw [] a45 a52 h0 n0  O0 F53) hZ (hw _ (gw 23 rfl)) (hw _ (gw 6 rfl)) (by decide) (by decide)) q60a q60c (g := (mkF m 54 #[.val (.int p1), .val (.int (2 : Int32)), .val (.ref a45), .val (.int (0 : Int32)), .val (.int (0 : Int32))] [(.ref a45), (.int (0 : Int32))])) rfl (by rw [hml]; rfl) (Steps.refl _) (argsL := []) (rest := [(.int (0 : Int32))]) (lenOf pd_2 rfl) rfl (by show 2 * 0 + _ ≤ _; exact Nat.le_of_eq rfl) (hb hby at_54) (fun _ _ => ⟨rfl, e58, (by decide : 0 + 0 ≤ _), (by decide : 0 + 0 ≤ _)⟩)
    dsimp only [Pt.U, Pt.locs, Pt.cells, Pt.slots] at X60 l60 y60 z60 st60 hQ60
    subst l60 y60 z60
    obtain ⟨rfl, u62, u63⟩ := hQ60
    have N60 := Fr.app N54 u62
    obtain ⟨fs, hr, hrun, hended, hW, hsame⟩ := X60.leave (v := some (.int (1 : Int32))) (fun h => by rw [Bd.returns] at h; cases h)
    refine ⟨_, _, pre4 _ ?_, hrun, hended, _, _, rfl, ?_, ⟨_, rfl⟩, hW, hsame.mono (by decide) (by decide)⟩
    · show Steps p.tables e below (s₁.setTop (mkF m 6 #[.val (.int p1), .unset, .unset, .unset, .unset] [(.int (9 : Int32)), (.int i2)])) _
      refine Jvm.RoadKit.iremM (g := (mkF m 6 #[.val (.int p1), .unset, .unset, .unset, .unset] [(.int (9 : Int32)), (.int i2)])) X0 hx rfl (hb hby at_6) rfl (by decide +kernel : ¬ ((9 : Int32) = (0 : Int32))) ?_
      show Steps p.tables e below (s₁.setTop (mkF m 7 #[.val (.int p1), .unset, .unset, .unset, .unset] [(.int (i2 % (9 : Int32)))])) _
      rw [hq3]
      show Steps p.tables e below (s₁.setTop (mkF m 7 #[.val (.int p1), .unset, .unset, .unset, .unset] [(.int (2 : Int32))])) _
      refine XS.istoreN X0.here hx rfl (hb hby at_7) rfl (l' := #[.val (.int p1), .val (.int (2 : Int32)), .unset, .unset, .unset]) rfl ?_
      show Steps p.tables e below (s₁.setTop (mkF m 8 #[.val (.int p1), .val (.int (2 : Int32)), .unset, .unset, .unset] [])) _
      refine XS.iloadN X0.here hx rfl (hb hby at_8) rfl ?_
      show Steps p.tables e below (s₁.setTop (mkF m 9 #[.val (.int p1), .val (.int (2 : Int32)), .unset, .unset, .unset] [(.int (2 : Int32))])) _
      refine st47 _ ?_
      show Steps p.tables e below (T47.setTop (mkF m 12 #[.val (.int p1), .val (.int (2 : Int32)), .unset, .unset, .unset] [(.ref a45)])) _
      refine XS.astoreN X47.here hx rfl (hb hby at_12) rfl rfl (l' := #[.val (.int p1), .val (.int (2 : Int32)), .val (.ref a45), .unset, .unset]) rfl ?_
      show Steps p.tables e below (T47.setTop (mkF m 13 #[.val (.int p1), .val (.int (2 : Int32)), .val (.ref a45), .unset, .unset] [])) _
      refine XS.aloadN X47.here hx rfl (hb hby at_13) rfl rfl ?_
      show Steps p.tables e below (T47.setTop (mkF m 14 #[.val (.int p1), .val (.int (2 : Int32)), .val (.ref a45), .unset, .unset] [(.ref a45)])) _
      refine st54.trans ?_
      show Steps p.tables e below (T54.setTop (mkF m 17 #[.val (.int p1), .val (.int (2 : Int32)), .val (.ref a45), .unset, .unset] [(.int (0 : Int32))])) _
      refine XS.istoreN X54.here hx rfl (hb hby at_17) rfl (l' := #[.val (.int p1), .val (.int (2 : Int32)), .val (.ref a45), .val (.int (0 : Int32)), .unset]) rfl ?_
      show Steps p.tables e below (T54.setTop (mkF m 18 #[.val (.int p1), .val (.int (2 : Int32)), .val (.ref a45), .val (.int (0 : Int32)), .unset] [])) _
      refine XS.iloadN X54.here hx rfl (hb hby at_18) rfl ?_
      show Steps p.tables e below (T54.setTop (mkF m 19 #[.val (.int p1), .val (.int (2 : Int32)), .val (.ref a45), .val (.int (0 : Int32)), .unset] [(.int (2 : Int32))])) _
      refine XS.iconst X54.here hx rfl (hb hby at_19) ?_
      show Steps p.tables e below (T54.setTop (mkF m 20 #[.val (.int p1), .val (.int (2 : Int32)), .val (.ref a45), .val (.int (0 : Int32)), .unset] [(.int (3 : Int32)), (.int (2 : Int32))])) _
      refine XS.icmpYes X54.here hx rfl (pc0 := 20) (pc' := 27) rfl (hb hby at_20) rfl (feq (by decide +kernel : ¬ ((2 : Int32) = (3 : Int32)))).2 (by decide) (by decide) ?_
      show Steps p.tables e below (T54.setTop (mkF m 27 #[.val (.int p1), .val (.int (2 : Int32)), .val (.ref a45), .val (.int (0 : Int32)), .unset] [])) _
      refine XS.iconst X54.here hx rfl (hb hby at_27) ?_
      show Steps p.tables e below (T54.setTop (mkF m 28 #[.val (.int p1), .val (.int (2 : Int32)), .val (.ref a45), .val (.int (0 : Int32)), .unset] [(.int (0 : Int32))])) _
      refine XS.istore X54.here hx rfl (hb hby at_28) rfl (l' := #[.val (.int p1), .val (.int (2 : Int32)), .val (.ref a45), .val (.int (0 : Int32)), .val (.int (0 : Int32))]) rfl ?_
      show Steps p.tables e below (T54.setTop (mkF m 30 #[.val (.int p1), .val (.int (2 : Int32)), .val (.ref a45), .val (.int (0 : Int32)), .val (.int (0 : Int32))] [])) _
      refine XS.iloadN X54.here hx rfl (hb hby at_30) rfl ?_
      show Steps p.tables e below (T54.setTop (mkF m 31 #[.val (.int p1), .val (.int (2 : Int32)), .val (.ref a45), .val (.int (0 : Int32)), .val (.int (0 : Int32))] [(.int (0 : Int32))])) _
      refine XS.iload X54.here hx rfl (hb hby at_31) rfl ?_
      show Steps p.tables e below (T54.setTop (mkF m 33 #[.val (.int p1), .val (.int (2 : Int32)), .val (.ref a45), .val (.int (0 : Int32)), .val (.int (0 : Int32))] [(.int (0 : Int32)), (.int (0 : Int32))])) _
      refine XS.icmpNo X54.here hx rfl (hb hby at_33) rfl (teq (by decide +kernel : (0 : Int32) = (0 : Int32))).2 ?_
      show Steps p.tables e below (T54.setTop (mkF m 36 #[.val (.int p1), .val (.int (2 : Int32)), .val (.ref a45), .val (.int (0 : Int32)), .val (.int (0 : Int32))] [])) _
      refine XS.iloadN X54.here hx rfl (hb hby at_36) rfl ?_
      show Steps p.tables e below (T54.setTop (mkF m 37 #[.val (.int p1), .val (.int (2 : Int32)), .val (.ref a45), .val (.int (0 : Int32)), .val (.int (0 : Int32))] [(.int (0 : Int32))])) _
      refine XS.aloadN X54.here hx rfl (hb hby at_37) rfl rfl ?_
      show Steps p.tables e below (T54.setTop (mkF m 38 #[.val (.int p1), .val (.int (2 : Int32)), .val (.ref a45), .val (.int (0 : Int32)), .val (.int (0 : Int32))] [(.ref a45), (.int (0 : Int32))])) _
      refine st58 _ ?_
      show Steps p.tables e below (T58.setTop (mkF m 41 #[.val (.int p1), .val (.int (2 : Int32)), .val (.ref a45), .val (.int (0 : Int32)), .val (.int (0 : Int32))] [(.ref a18), (.ref a45), (.int (0 : Int32))])) _
      refine Jvm.RoadKit.acmp (g := (mkF m 41 #[.val (.int p1), .val (.int (2 : Int32)), .val (.ref a45), .val (.int (0 : Int32)), .val (.int (0 : Int32))] [(.ref a18), (.ref a45), (.int (0 : Int32))])) X58 hx rfl rfl rfl (pc0 := 41) (pc' := 48) (same := false) rfl (hb hby at_41) rfl (decide_eq_false fun q => hne59 (Value.ref.inj q)) (by decide) (by decide) ?_
      show Steps p.tables e below (T58.setTop (mkF m 48 #[.val (.int p1), .val (.int (2 : Int32)), .val (.ref a45), .val (.int (0 : Int32)), .val (.int (0 : Int32))] [(.int (0 : Int32))])) _
      refine XS.iconst X58.here hx rfl (hb hby at_48) ?_
      show Steps p.tables e below (T58.setTop (mkF m 49 #[.val (.int p1), .val (.int (2 : Int32)), .val (.ref a45), .val (.int (0 : Int32)), .val (.int (0 : Int32))] [(.int (0 : Int32)), (.int (0 : Int32))])) _
      refine XS.icmpNo X58.here hx rfl (hb hby at_49) rfl (teq (by decide +kernel : (0 : Int32) = (0 : Int32))).2 ?_
      show Steps p.tables e below (T58.setTop (mkF m 52 #[.val (.int p1), .val (.int (2 : Int32)), .val (.ref a45), .val (.int (0 : Int32)), .val (.int (0 : Int32))] [])) _
      refine XS.iloadN X58.here hx rfl (hb hby at_52) rfl ?_
      show Steps p.tables e below (T58.setTop (mkF m 53 #[.val (.int p1), .val (.int (2 : Int32)), .val (.ref a45), .val (.int (0 : Int32)), .val (.int (0 : Int32))] [(.int (0 : Int32))])) _
      refine XS.aloadN X58.here hx rfl (hb hby at_53) rfl rfl ?_
      show Steps p.tables e below (T58.setTop (mkF m 54 #[.val (.int p1), .val (.int (2 : Int32)), .val (.ref a45), .val (.int (0 : Int32)), .val (.int (0 : Int32))] [(.ref a45), (.int (0 : Int32))])) _
      refine st60.trans ?_
      show Steps p.tables e below (T60.setTop (mkF m 57 #[.val (.int p1), .val (.int (2 : Int32)), .val (.ref a45), .val (.int (0 : Int32)), .val (.int (0 : Int32))] [(.ref a52), (.int (0 : Int32))])) _
      refine XS.ifnonnullYes X60.here hx rfl (pc0 := 57) (pc' := 64) rfl (hb hby at_57) rfl (by decide) (by decide) ?_
      show Steps p.tables e below (T60.setTop (mkF m 64 #[.val (.int p1), .val (.int (2 : Int32)), .val (.ref a45), .val (.int (0 : Int32)), .val (.int (0 : Int32))] [(.int (0 : Int32))])) _
      refine XS.iconst X60.here hx rfl (hb hby at_64) ?_
      show Steps p.tables e below (T60.setTop (mkF m 65 #[.val (.int p1), .val (.int (2 : Int32)), .val (.ref a45), .val (.int (0 : Int32)), .val (.int (0 : Int32))] [(.int (0 : Int32)), (.int (0 : Int32))])) _
      refine XS.icmpNo X60.here hx rfl (hb hby at_65) rfl (teq (by decide +kernel : (0 : Int32) = (0 : Int32))).2 ?_
      show Steps p.tables e below (T60.setTop (mkF m 68 #[.val (.int p1), .val (.int (2 : Int32)), .val (.ref a45), .val (.int (0 : Int32)), .val (.int (0 : Int32))] [])) _
      refine XS.iconst X60.here hx rfl (hb hby at_68) ?_
      show Steps p.tables e below (T60.setTop (mkF m 69 #[.val (.int p1), .val (.int (2 : Int32)), .val (.ref a45), .val (.int (0 : Int32)), .val (.int (0 : Int32))] [(.int (1 : Int32))])) _
      refine XS.goto X60.here hx rfl (pc0 := 69) (pc' := 73) rfl (hb hby at_69) (by decide) (by decide) ?_
      show Steps p.tables e below (T60.setTop (mkF m 73 #[.val (.int p1), .val (.int (2 : Int32)), .val (.ref a45), .val (.int (0 : Int32)), .val (.int (0 : Int32))] [(.int (1 : Int32))])) _
      exact retN X60 hx (t := .boolean) Bd.returns (by simp) (hb hby at_73) hr
    · show Q0 Z _ _ _ _ _ _ _ _ _ _ _ _ _ _ _ _ _ _ h0 n0 _ T60.heap _
      rw [u63]
      exact ⟨rfl, N60⟩
  · skip
    obtain ⟨_, _, ⟨T64, L64, k64, n64⟩, -, X64, ⟨Lc64, hQ64, l64, y64, z64⟩, st64⟩ := Jvm.LawKit.callS X0 hx (y := M_0) hown (mvT hZ (hw _ (gw 1 rfl))) (mvT hZ (hw _ (gw 2 rfl))) (mvT hZ (hw _ (gw 3 rfl))) (mvT hZ (hw _ (gw 4 rfl))) (by decide) (backOf (W := 0) (rm1_7 l Z a0 hw [] a18 h0 n0  O0 S_19) hZ (hw _ (gw 4 rfl)) (hw _ (gw 3 rfl)) (by decide) (by decide)) (g := (mkF m 9 #[.val (.int p1), .val (.int (3 : Int32)), .unset, .unset, .unset] [(.int (3 : Int32))])) rfl (by rw [hml]; rfl) (argsL := [(.int (3 : Int32))]) (rest := []) (lenOf pd_0 rfl) rfl (by show 2 * 0 + _ ≤ _; exact Nat.le_of_eq rfl) (hb hby at_9) (fun _ _ => ⟨rfl, e0, (by decide : 0 + 0 ≤ _), (by decide : 0 + 0 ≤ _)⟩)
    dsimp only [Pt.U, Pt.locs, Pt.cells, Pt.slots] at X64 l64 y64 z64 st64 hQ64
    subst l64 y64 z64
    obtain ⟨rfl, u66, u67⟩ := hQ64
    have N64 := Fr.app N0 u66
    obtain ⟨cq70, kq70, q70a, q70b, q70c⟩ := isOf hZ u67 (Exa.ext O0.2 E_68)
    obtain ⟨_, _, ⟨T70, L70, k70, n70⟩, -, X70, ⟨Lc70, hQ70, l70, y70, z70⟩, st70⟩ := X64.virtualBack hx (y := M_1) (z := M_1) hown (mvT hZ (hw _ (gw 8 rfl))) (mvT hZ (hw _ (gw 9 rfl))) (notFace_of_selects (args := #[]) (mvT hZ (hw _ (gw 11 rfl)))) (mvT hZ (hw _ (gw 11 rfl))) (mvT hZ (hw _ (gw 10 rfl))) (by decide) (backOf (W := 0) (rm2_8 l Z a0 hw [] a18 h0 n0  O0 F69) hZ (hw _ (gw 12 rfl)) (hw _ (gw 6 rfl)) (by decide) (by decide)) q70a q70c (g := (mkF m 14 #[.val (.int p1), .val (.int (3 : Int32)), .val (.ref a18), .unset, .unset] [(.ref a18)])) rfl (by rw [hml]; rfl) (Steps.refl _) (argsL := []) (rest := []) (lenOf pd_1 rfl) rfl (by show 2 * 0 + _ ≤ _; exact Nat.le_of_eq rfl) (hb hby at_14) (fun _ _ => ⟨rfl, u67, (by decide : 0 + 0 ≤ _), (by decide : 0 + 0 ≤ _)⟩)
    dsimp only [Pt.U, Pt.locs, Pt.cells, Pt.slots] at X70 l70 y70 z70 st70 hQ70
    subst l70 y70 z70
    obtain ⟨rfl, u72, u73⟩ := hQ70
    have N70 := Fr.app N64 u72
    obtain ⟨T74, X74, e74, st74⟩ := getS2 X70 hx hZ hown (host := "") (Or.inl (hw _ (gw 17 rfl))) Via.refl u73 (Sta.ext O0.2 S_19) (g := (mkF m 38 #[.val (.int p1), .val (.int (3 : Int32)), .val (.ref a18), .val (.int (1 : Int32)), .val (.int (1 : Int32))] [(.ref a18), (.int (1 : Int32))])) rfl (hb hby at_38)
    obtain ⟨cq75, kq75, q75a, q75b, q75c⟩ := isOf hZ e74 (Exa.ext O0.2 E_68)
    obtain ⟨_, _, ⟨T75, L75, k75, n75⟩, -, X75, ⟨Lc75, hQ75, l75, y75, z75⟩, st75⟩ := X74.virtualBack hx (y := M_2) (z := M_2) hown (mvT hZ (hw _ (gw 19 rfl))) (mvT hZ (hw _ (gw 20 rfl))) (notFace_of_selects (args := #[]) (mvT hZ (hw _ (gw 22 rfl)))) (mvT hZ (hw _ (gw 22 rfl))) (mvT hZ (hw _ (gw 21 rfl))) (by decide) (backOf (W := 1) (rm3_9 l Z a0 hw [] a18 h0 n0  O0 F69) hZ (hw _ (gw 23 rfl)) (hw _ (gw 6 rfl)) (by decide) (by decide)) q75a q75c (g := (mkF m 54 #[.val (.int p1), .val (.int (3 : Int32)), .val (.ref a18), .val (.int (1 : Int32)), .val (.int (1 : Int32))] [(.ref a18), (.int (1 : Int32))])) rfl (by rw [hml]; rfl) (Steps.refl _) (argsL := []) (rest := [(.int (1 : Int32))]) (lenOf pd_2 rfl) rfl (by show 2 * 0 + _ ≤ _; exact Nat.le_of_eq rfl) (hb hby at_54) (fun _ _ => ⟨rfl, e74, (by decide : 0 + 0 ≤ _), (by decide : 0 + 0 ≤ _)⟩)
    dsimp only [Pt.U, Pt.locs, Pt.cells, Pt.slots] at X75 l75 y75 z75 st75 hQ75
    subst l75 y75 z75
    obtain ⟨rfl, u77, u78⟩ := hQ75
    have N75 := Fr.app N70 u77
    obtain ⟨fs, hr, hrun, hended, hW, hsame⟩ := X75.leave (v := some (.int (1 : Int32))) (fun h => by rw [Bd.returns] at h; cases h)
    refine ⟨_, _, pre4 _ ?_, hrun, hended, _, _, rfl, ?_, ⟨_, rfl⟩, hW, hsame.mono (by decide) (by decide)⟩
    · show Steps p.tables e below (s₁.setTop (mkF m 6 #[.val (.int p1), .unset, .unset, .unset, .unset] [(.int (9 : Int32)), (.int i2)])) _
      refine Jvm.RoadKit.iremM (g := (mkF m 6 #[.val (.int p1), .unset, .unset, .unset, .unset] [(.int (9 : Int32)), (.int i2)])) X0 hx rfl (hb hby at_6) rfl (by decide +kernel : ¬ ((9 : Int32) = (0 : Int32))) ?_
      show Steps p.tables e below (s₁.setTop (mkF m 7 #[.val (.int p1), .unset, .unset, .unset, .unset] [(.int (i2 % (9 : Int32)))])) _
      rw [hq3]
      show Steps p.tables e below (s₁.setTop (mkF m 7 #[.val (.int p1), .unset, .unset, .unset, .unset] [(.int (3 : Int32))])) _
      refine XS.istoreN X0.here hx rfl (hb hby at_7) rfl (l' := #[.val (.int p1), .val (.int (3 : Int32)), .unset, .unset, .unset]) rfl ?_
      show Steps p.tables e below (s₁.setTop (mkF m 8 #[.val (.int p1), .val (.int (3 : Int32)), .unset, .unset, .unset] [])) _
      refine XS.iloadN X0.here hx rfl (hb hby at_8) rfl ?_
      show Steps p.tables e below (s₁.setTop (mkF m 9 #[.val (.int p1), .val (.int (3 : Int32)), .unset, .unset, .unset] [(.int (3 : Int32))])) _
      refine st64 _ ?_
      show Steps p.tables e below (T64.setTop (mkF m 12 #[.val (.int p1), .val (.int (3 : Int32)), .unset, .unset, .unset] [(.ref a18)])) _
      refine XS.astoreN X64.here hx rfl (hb hby at_12) rfl rfl (l' := #[.val (.int p1), .val (.int (3 : Int32)), .val (.ref a18), .unset, .unset]) rfl ?_
      show Steps p.tables e below (T64.setTop (mkF m 13 #[.val (.int p1), .val (.int (3 : Int32)), .val (.ref a18), .unset, .unset] [])) _
      refine XS.aloadN X64.here hx rfl (hb hby at_13) rfl rfl ?_
      show Steps p.tables e below (T64.setTop (mkF m 14 #[.val (.int p1), .val (.int (3 : Int32)), .val (.ref a18), .unset, .unset] [(.ref a18)])) _
      refine st70.trans ?_
      show Steps p.tables e below (T70.setTop (mkF m 17 #[.val (.int p1), .val (.int (3 : Int32)), .val (.ref a18), .unset, .unset] [(.int (1 : Int32))])) _
      refine XS.istoreN X70.here hx rfl (hb hby at_17) rfl (l' := #[.val (.int p1), .val (.int (3 : Int32)), .val (.ref a18), .val (.int (1 : Int32)), .unset]) rfl ?_
      show Steps p.tables e below (T70.setTop (mkF m 18 #[.val (.int p1), .val (.int (3 : Int32)), .val (.ref a18), .val (.int (1 : Int32)), .unset] [])) _
      refine XS.iloadN X70.here hx rfl (hb hby at_18) rfl ?_
      show Steps p.tables e below (T70.setTop (mkF m 19 #[.val (.int p1), .val (.int (3 : Int32)), .val (.ref a18), .val (.int (1 : Int32)), .unset] [(.int (3 : Int32))])) _
      refine XS.iconst X70.here hx rfl (hb hby at_19) ?_
      show Steps p.tables e below (T70.setTop (mkF m 20 #[.val (.int p1), .val (.int (3 : Int32)), .val (.ref a18), .val (.int (1 : Int32)), .unset] [(.int (3 : Int32)), (.int (3 : Int32))])) _
      refine XS.icmpNo X70.here hx rfl (hb hby at_20) rfl (teq (by decide +kernel : (3 : Int32) = (3 : Int32))).2 ?_
      show Steps p.tables e below (T70.setTop (mkF m 23 #[.val (.int p1), .val (.int (3 : Int32)), .val (.ref a18), .val (.int (1 : Int32)), .unset] [])) _
      refine XS.iconst X70.here hx rfl (hb hby at_23) ?_
      show Steps p.tables e below (T70.setTop (mkF m 24 #[.val (.int p1), .val (.int (3 : Int32)), .val (.ref a18), .val (.int (1 : Int32)), .unset] [(.int (1 : Int32))])) _
      refine XS.goto X70.here hx rfl (pc0 := 24) (pc' := 28) rfl (hb hby at_24) (by decide) (by decide) ?_
      show Steps p.tables e below (T70.setTop (mkF m 28 #[.val (.int p1), .val (.int (3 : Int32)), .val (.ref a18), .val (.int (1 : Int32)), .unset] [(.int (1 : Int32))])) _
      refine XS.istore X70.here hx rfl (hb hby at_28) rfl (l' := #[.val (.int p1), .val (.int (3 : Int32)), .val (.ref a18), .val (.int (1 : Int32)), .val (.int (1 : Int32))]) rfl ?_
      show Steps p.tables e below (T70.setTop (mkF m 30 #[.val (.int p1), .val (.int (3 : Int32)), .val (.ref a18), .val (.int (1 : Int32)), .val (.int (1 : Int32))] [])) _
      refine XS.iloadN X70.here hx rfl (hb hby at_30) rfl ?_
      show Steps p.tables e below (T70.setTop (mkF m 31 #[.val (.int p1), .val (.int (3 : Int32)), .val (.ref a18), .val (.int (1 : Int32)), .val (.int (1 : Int32))] [(.int (1 : Int32))])) _
      refine XS.iload X70.here hx rfl (hb hby at_31) rfl ?_
      show Steps p.tables e below (T70.setTop (mkF m 33 #[.val (.int p1), .val (.int (3 : Int32)), .val (.ref a18), .val (.int (1 : Int32)), .val (.int (1 : Int32))] [(.int (1 : Int32)), (.int (1 : Int32))])) _
      refine XS.icmpNo X70.here hx rfl (hb hby at_33) rfl (teq (by decide +kernel : (1 : Int32) = (1 : Int32))).2 ?_
      show Steps p.tables e below (T70.setTop (mkF m 36 #[.val (.int p1), .val (.int (3 : Int32)), .val (.ref a18), .val (.int (1 : Int32)), .val (.int (1 : Int32))] [])) _
      refine XS.iloadN X70.here hx rfl (hb hby at_36) rfl ?_
      show Steps p.tables e below (T70.setTop (mkF m 37 #[.val (.int p1), .val (.int (3 : Int32)), .val (.ref a18), .val (.int (1 : Int32)), .val (.int (1 : Int32))] [(.int (1 : Int32))])) _
      refine XS.aloadN X70.here hx rfl (hb hby at_37) rfl rfl ?_
      show Steps p.tables e below (T70.setTop (mkF m 38 #[.val (.int p1), .val (.int (3 : Int32)), .val (.ref a18), .val (.int (1 : Int32)), .val (.int (1 : Int32))] [(.ref a18), (.int (1 : Int32))])) _
      refine st74 _ ?_
      show Steps p.tables e below (T74.setTop (mkF m 41 #[.val (.int p1), .val (.int (3 : Int32)), .val (.ref a18), .val (.int (1 : Int32)), .val (.int (1 : Int32))] [(.ref a18), (.ref a18), (.int (1 : Int32))])) _
      refine Jvm.RoadKit.acmp (g := (mkF m 41 #[.val (.int p1), .val (.int (3 : Int32)), .val (.ref a18), .val (.int (1 : Int32)), .val (.int (1 : Int32))] [(.ref a18), (.ref a18), (.int (1 : Int32))])) X74 hx rfl rfl rfl (pc0 := 41) (pc' := 44) (same := true) rfl (hb hby at_41) rfl (decide_eq_true rfl) (by decide) (by decide) ?_
      show Steps p.tables e below (T74.setTop (mkF m 44 #[.val (.int p1), .val (.int (3 : Int32)), .val (.ref a18), .val (.int (1 : Int32)), .val (.int (1 : Int32))] [(.int (1 : Int32))])) _
      refine XS.iconst X74.here hx rfl (hb hby at_44) ?_
      show Steps p.tables e below (T74.setTop (mkF m 45 #[.val (.int p1), .val (.int (3 : Int32)), .val (.ref a18), .val (.int (1 : Int32)), .val (.int (1 : Int32))] [(.int (1 : Int32)), (.int (1 : Int32))])) _
      refine XS.goto X74.here hx rfl (pc0 := 45) (pc' := 49) rfl (hb hby at_45) (by decide) (by decide) ?_
      show Steps p.tables e below (T74.setTop (mkF m 49 #[.val (.int p1), .val (.int (3 : Int32)), .val (.ref a18), .val (.int (1 : Int32)), .val (.int (1 : Int32))] [(.int (1 : Int32)), (.int (1 : Int32))])) _
      refine XS.icmpNo X74.here hx rfl (hb hby at_49) rfl (teq (by decide +kernel : (1 : Int32) = (1 : Int32))).2 ?_
      show Steps p.tables e below (T74.setTop (mkF m 52 #[.val (.int p1), .val (.int (3 : Int32)), .val (.ref a18), .val (.int (1 : Int32)), .val (.int (1 : Int32))] [])) _
      refine XS.iloadN X74.here hx rfl (hb hby at_52) rfl ?_
      show Steps p.tables e below (T74.setTop (mkF m 53 #[.val (.int p1), .val (.int (3 : Int32)), .val (.ref a18), .val (.int (1 : Int32)), .val (.int (1 : Int32))] [(.int (1 : Int32))])) _
      refine XS.aloadN X74.here hx rfl (hb hby at_53) rfl rfl ?_
      show Steps p.tables e below (T74.setTop (mkF m 54 #[.val (.int p1), .val (.int (3 : Int32)), .val (.ref a18), .val (.int (1 : Int32)), .val (.int (1 : Int32))] [(.ref a18), (.int (1 : Int32))])) _
      refine st75.trans ?_
      show Steps p.tables e below (T75.setTop (mkF m 57 #[.val (.int p1), .val (.int (3 : Int32)), .val (.ref a18), .val (.int (1 : Int32)), .val (.int (1 : Int32))] [.null, (.int (1 : Int32))])) _
      refine XS.ifnonnullNo X75.here hx rfl (hb hby at_57) rfl ?_
      show Steps p.tables e below (T75.setTop (mkF m 60 #[.val (.int p1), .val (.int (3 : Int32)), .val (.ref a18), .val (.int (1 : Int32)), .val (.int (1 : Int32))] [(.int (1 : Int32))])) _
      refine XS.iconst X75.here hx rfl (hb hby at_60) ?_
      show Steps p.tables e below (T75.setTop (mkF m 61 #[.val (.int p1), .val (.int (3 : Int32)), .val (.ref a18), .val (.int (1 : Int32)), .val (.int (1 : Int32))] [(.int (1 : Int32)), (.int (1 : Int32))])) _
      refine XS.goto X75.here hx rfl (pc0 := 61) (pc' := 65) rfl (hb hby at_61) (by decide) (by decide) ?_
      show Steps p.tables e below (T75.setTop (mkF m 65 #[.val (.int p1), .val (.int (3 : Int32)), .val (.ref a18), .val (.int (1 : Int32)), .val (.int (1 : Int32))] [(.int (1 : Int32)), (.int (1 : Int32))])) _
      refine XS.icmpNo X75.here hx rfl (hb hby at_65) rfl (teq (by decide +kernel : (1 : Int32) = (1 : Int32))).2 ?_
      show Steps p.tables e below (T75.setTop (mkF m 68 #[.val (.int p1), .val (.int (3 : Int32)), .val (.ref a18), .val (.int (1 : Int32)), .val (.int (1 : Int32))] [])) _
      refine XS.iconst X75.here hx rfl (hb hby at_68) ?_
      show Steps p.tables e below (T75.setTop (mkF m 69 #[.val (.int p1), .val (.int (3 : Int32)), .val (.ref a18), .val (.int (1 : Int32)), .val (.int (1 : Int32))] [(.int (1 : Int32))])) _
      refine XS.goto X75.here hx rfl (pc0 := 69) (pc' := 73) rfl (hb hby at_69) (by decide) (by decide) ?_
      show Steps p.tables e below (T75.setTop (mkF m 73 #[.val (.int p1), .val (.int (3 : Int32)), .val (.ref a18), .val (.int (1 : Int32)), .val (.int (1 : Int32))] [(.int (1 : Int32))])) _
      exact retN X75 hx (t := .boolean) Bd.returns (by simp) (hb hby at_73) hr
    · show Q0 Z _ _ _ _ _ _ _ _ _ _ _ _ _ _ _ _ _ _ h0 n0 _ T75.heap _
      rw [u78]
      exact ⟨rfl, N75⟩
  · skip
    obtain ⟨_, _, ⟨T81, L81, k81, n81⟩, -, X81, ⟨Lc81, hQ81, l81, y81, z81⟩, st81⟩ := Jvm.LawKit.callS X0 hx (y := M_0) hown (mvT hZ (hw _ (gw 1 rfl))) (mvT hZ (hw _ (gw 2 rfl))) (mvT hZ (hw _ (gw 3 rfl))) (mvT hZ (hw _ (gw 4 rfl))) (by decide) (backOf (W := 0) (rm1_10 l Z a0 hw [] a79 h0 n0  O0 S_80) hZ (hw _ (gw 4 rfl)) (hw _ (gw 3 rfl)) (by decide) (by decide)) (g := (mkF m 9 #[.val (.int p1), .val (.int (4 : Int32)), .unset, .unset, .unset] [(.int (4 : Int32))])) rfl (by rw [hml]; rfl) (argsL := [(.int (4 : Int32))]) (rest := []) (lenOf pd_0 rfl) rfl (by show 2 * 0 + _ ≤ _; exact Nat.le_of_eq rfl) (hb hby at_9) (fun _ _ => ⟨rfl, e0, (by decide : 0 + 0 ≤ _), (by decide : 0 + 0 ≤ _)⟩)
    dsimp only [Pt.U, Pt.locs, Pt.cells, Pt.slots] at X81 l81 y81 z81 st81 hQ81
    subst l81 y81 z81
    obtain ⟨rfl, u83, u84⟩ := hQ81
    have N81 := Fr.app N0 u83
    obtain ⟨cq88, kq88, q88a, q88b, q88c⟩ := isOf hZ u84 (Exa.ext O0.2 E_85)
    obtain ⟨_, _, ⟨T88, L88, k88, n88⟩, -, X88, ⟨Lc88, hQ88, l88, y88, z88⟩, st88⟩ := X81.virtualBack hx (y := M_1) (z := M_1) hown (mvT hZ (hw _ (gw 8 rfl))) (mvT hZ (hw _ (gw 9 rfl))) (notFace_of_selects (args := #[]) (mvT hZ (hw _ (gw 11 rfl)))) (mvT hZ (hw _ (gw 11 rfl))) (mvT hZ (hw _ (gw 10 rfl))) (by decide) (backOf (W := 0) (rm2_3 l Z a0 hw [] a79 a86 h0 n0  O0 F87) hZ (hw _ (gw 12 rfl)) (hw _ (gw 6 rfl)) (by decide) (by decide)) q88a q88c (g := (mkF m 14 #[.val (.int p1), .val (.int (4 : Int32)), .val (.ref a79), .unset, .unset] [(.ref a79)])) rfl (by rw [hml]; rfl) (Steps.refl _) (argsL := []) (rest := []) (lenOf pd_1 rfl) rfl (by show 2 * 0 + _ ≤ _; exact Nat.le_of_eq rfl) (hb hby at_14) (fun _ _ => ⟨rfl, u84, (by decide : 0 + 0 ≤ _), (by decide : 0 + 0 ≤ _)⟩)
    dsimp only [Pt.U, Pt.locs, Pt.cells, Pt.slots] at X88 l88 y88 z88 st88 hQ88
    subst l88 y88 z88
    obtain ⟨rfl, u90, u91⟩ := hQ88
    have N88 := Fr.app N81 u90
    obtain ⟨T92, X92, e92, st92⟩ := getS2 X88 hx hZ hown (host := "") (Or.inl (hw _ (gw 17 rfl))) Via.refl u91 (Sta.ext O0.2 S_19) (g := (mkF m 38 #[.val (.int p1), .val (.int (4 : Int32)), .val (.ref a79), .val (.int (0 : Int32)), .val (.int (0 : Int32))] [(.ref a79), (.int (0 : Int32))])) rfl (hb hby at_38)
    obtain ⟨cq94, kq94, q94a, q94b, q94c⟩ := isOf hZ e92 (Exa.ext O0.2 E_85)
    obtain ⟨_, _, ⟨T94, L94, k94, n94⟩, -, X94, ⟨Lc94, hQ94, l94, y94, z94⟩, st94⟩ := X92.virtualBack hx (y := M_2) (z := M_2) hown (mvT hZ (hw _ (gw 19 rfl))) (mvT hZ (hw _ (gw 20 rfl))) (notFace_of_selects (args := #[]) (mvT hZ (hw _ (gw 22 rfl)))) (mvT hZ (hw _ (gw 22 rfl))) (mvT hZ (hw _ (gw 21 rfl))) (by decide) (backOf (W := 1) (rm3_4 l Z a0 hw [] a79 a86 h0 n0  O0 F87) hZ (hw _ (gw 23 rfl)) (hw _ (gw 6 rfl)) (by decide) (by decide)) q94a q94c (g := (mkF m 54 #[.val (.int p1), .val (.int (4 : Int32)), .val (.ref a79), .val (.int (0 : Int32)), .val (.int (0 : Int32))] [(.ref a79), (.int (0 : Int32))])) rfl (by rw [hml]; rfl) (Steps.refl _) (argsL := []) (rest := [(.int (0 : Int32))]) (lenOf pd_2 rfl) rfl (by show 2 * 0 + _ ≤ _; exact Nat.le_of_eq rfl) (hb hby at_54) (fun _ _ => ⟨rfl, e92, (by decide : 0 + 0 ≤ _), (by decide : 0 + 0 ≤ _)⟩)
    dsimp only [Pt.U, Pt.locs, Pt.cells, Pt.slots] at X94 l94 y94 z94 st94 hQ94
    subst l94 y94 z94
    obtain ⟨rfl, u96, u97⟩ := hQ94
    have N94 := Fr.app N88 u96
    obtain ⟨fs, hr, hrun, hended, hW, hsame⟩ := X94.leave (v := some (.int (1 : Int32))) (fun h => by rw [Bd.returns] at h; cases h)
    refine ⟨_, _, pre4 _ ?_, hrun, hended, _, _, rfl, ?_, ⟨_, rfl⟩, hW, hsame.mono (by decide) (by decide)⟩
    · show Steps p.tables e below (s₁.setTop (mkF m 6 #[.val (.int p1), .unset, .unset, .unset, .unset] [(.int (9 : Int32)), (.int i2)])) _
      refine Jvm.RoadKit.iremM (g := (mkF m 6 #[.val (.int p1), .unset, .unset, .unset, .unset] [(.int (9 : Int32)), (.int i2)])) X0 hx rfl (hb hby at_6) rfl (by decide +kernel : ¬ ((9 : Int32) = (0 : Int32))) ?_
      show Steps p.tables e below (s₁.setTop (mkF m 7 #[.val (.int p1), .unset, .unset, .unset, .unset] [(.int (i2 % (9 : Int32)))])) _
      rw [hq3]
      show Steps p.tables e below (s₁.setTop (mkF m 7 #[.val (.int p1), .unset, .unset, .unset, .unset] [(.int (4 : Int32))])) _
      refine XS.istoreN X0.here hx rfl (hb hby at_7) rfl (l' := #[.val (.int p1), .val (.int (4 : Int32)), .unset, .unset, .unset]) rfl ?_
      show Steps p.tables e below (s₁.setTop (mkF m 8 #[.val (.int p1), .val (.int (4 : Int32)), .unset, .unset, .unset] [])) _
      refine XS.iloadN X0.here hx rfl (hb hby at_8) rfl ?_
      show Steps p.tables e below (s₁.setTop (mkF m 9 #[.val (.int p1), .val (.int (4 : Int32)), .unset, .unset, .unset] [(.int (4 : Int32))])) _
      refine st81 _ ?_
      show Steps p.tables e below (T81.setTop (mkF m 12 #[.val (.int p1), .val (.int (4 : Int32)), .unset, .unset, .unset] [(.ref a79)])) _
      refine XS.astoreN X81.here hx rfl (hb hby at_12) rfl rfl (l' := #[.val (.int p1), .val (.int (4 : Int32)), .val (.ref a79), .unset, .unset]) rfl ?_
      show Steps p.tables e below (T81.setTop (mkF m 13 #[.val (.int p1), .val (.int (4 : Int32)), .val (.ref a79), .unset, .unset] [])) _
      refine XS.aloadN X81.here hx rfl (hb hby at_13) rfl rfl ?_
      show Steps p.tables e below (T81.setTop (mkF m 14 #[.val (.int p1), .val (.int (4 : Int32)), .val (.ref a79), .unset, .unset] [(.ref a79)])) _
      refine st88.trans ?_
      show Steps p.tables e below (T88.setTop (mkF m 17 #[.val (.int p1), .val (.int (4 : Int32)), .val (.ref a79), .unset, .unset] [(.int (0 : Int32))])) _
      refine XS.istoreN X88.here hx rfl (hb hby at_17) rfl (l' := #[.val (.int p1), .val (.int (4 : Int32)), .val (.ref a79), .val (.int (0 : Int32)), .unset]) rfl ?_
      show Steps p.tables e below (T88.setTop (mkF m 18 #[.val (.int p1), .val (.int (4 : Int32)), .val (.ref a79), .val (.int (0 : Int32)), .unset] [])) _
      refine XS.iloadN X88.here hx rfl (hb hby at_18) rfl ?_
      show Steps p.tables e below (T88.setTop (mkF m 19 #[.val (.int p1), .val (.int (4 : Int32)), .val (.ref a79), .val (.int (0 : Int32)), .unset] [(.int (4 : Int32))])) _
      refine XS.iconst X88.here hx rfl (hb hby at_19) ?_
      show Steps p.tables e below (T88.setTop (mkF m 20 #[.val (.int p1), .val (.int (4 : Int32)), .val (.ref a79), .val (.int (0 : Int32)), .unset] [(.int (3 : Int32)), (.int (4 : Int32))])) _
      refine XS.icmpYes X88.here hx rfl (pc0 := 20) (pc' := 27) rfl (hb hby at_20) rfl (feq (by decide +kernel : ¬ ((4 : Int32) = (3 : Int32)))).2 (by decide) (by decide) ?_
      show Steps p.tables e below (T88.setTop (mkF m 27 #[.val (.int p1), .val (.int (4 : Int32)), .val (.ref a79), .val (.int (0 : Int32)), .unset] [])) _
      refine XS.iconst X88.here hx rfl (hb hby at_27) ?_
      show Steps p.tables e below (T88.setTop (mkF m 28 #[.val (.int p1), .val (.int (4 : Int32)), .val (.ref a79), .val (.int (0 : Int32)), .unset] [(.int (0 : Int32))])) _
      refine XS.istore X88.here hx rfl (hb hby at_28) rfl (l' := #[.val (.int p1), .val (.int (4 : Int32)), .val (.ref a79), .val (.int (0 : Int32)), .val (.int (0 : Int32))]) rfl ?_
      show Steps p.tables e below (T88.setTop (mkF m 30 #[.val (.int p1), .val (.int (4 : Int32)), .val (.ref a79), .val (.int (0 : Int32)), .val (.int (0 : Int32))] [])) _
      refine XS.iloadN X88.here hx rfl (hb hby at_30) rfl ?_
      show Steps p.tables e below (T88.setTop (mkF m 31 #[.val (.int p1), .val (.int (4 : Int32)), .val (.ref a79), .val (.int (0 : Int32)), .val (.int (0 : Int32))] [(.int (0 : Int32))])) _
      refine XS.iload X88.here hx rfl (hb hby at_31) rfl ?_
      show Steps p.tables e below (T88.setTop (mkF m 33 #[.val (.int p1), .val (.int (4 : Int32)), .val (.ref a79), .val (.int (0 : Int32)), .val (.int (0 : Int32))] [(.int (0 : Int32)), (.int (0 : Int32))])) _
      refine XS.icmpNo X88.here hx rfl (hb hby at_33) rfl (teq (by decide +kernel : (0 : Int32) = (0 : Int32))).2 ?_
      show Steps p.tables e below (T88.setTop (mkF m 36 #[.val (.int p1), .val (.int (4 : Int32)), .val (.ref a79), .val (.int (0 : Int32)), .val (.int (0 : Int32))] [])) _
      refine XS.iloadN X88.here hx rfl (hb hby at_36) rfl ?_
      show Steps p.tables e below (T88.setTop (mkF m 37 #[.val (.int p1), .val (.int (4 : Int32)), .val (.ref a79), .val (.int (0 : Int32)), .val (.int (0 : Int32))] [(.int (0 : Int32))])) _
      refine XS.aloadN X88.here hx rfl (hb hby at_37) rfl rfl ?_
      show Steps p.tables e below (T88.setTop (mkF m 38 #[.val (.int p1), .val (.int (4 : Int32)), .val (.ref a79), .val (.int (0 : Int32)), .val (.int (0 : Int32))] [(.ref a79), (.int (0 : Int32))])) _
      refine st92 _ ?_
      show Steps p.tables e below (T92.setTop (mkF m 41 #[.val (.int p1), .val (.int (4 : Int32)), .val (.ref a79), .val (.int (0 : Int32)), .val (.int (0 : Int32))] [(.ref a18), (.ref a79), (.int (0 : Int32))])) _
      refine Jvm.RoadKit.acmp (g := (mkF m 41 #[.val (.int p1), .val (.int (4 : Int32)), .val (.ref a79), .val (.int (0 : Int32)), .val (.int (0 : Int32))] [(.ref a18), (.ref a79), (.int (0 : Int32))])) X92 hx rfl rfl rfl (pc0 := 41) (pc' := 48) (same := false) rfl (hb hby at_41) rfl (decide_eq_false fun q => hne93 (Value.ref.inj q)) (by decide) (by decide) ?_
      show Steps p.tables e below (T92.setTop (mkF m 48 #[.val (.int p1), .val (.int (4 : Int32)), .val (.ref a79), .val (.int (0 : Int32)), .val (.int (0 : Int32))] [(.int (0 : Int32))])) _
      refine XS.iconst X92.here hx rfl (hb hby at_48) ?_
      show Steps p.tables e below (T92.setTop (mkF m 49 #[.val (.int p1), .val (.int (4 : Int32)), .val (.ref a79), .val (.int (0 : Int32)), .val (.int (0 : Int32))] [(.int (0 : Int32)), (.int (0 : Int32))])) _
      refine XS.icmpNo X92.here hx rfl (hb hby at_49) rfl (teq (by decide +kernel : (0 : Int32) = (0 : Int32))).2 ?_
      show Steps p.tables e below (T92.setTop (mkF m 52 #[.val (.int p1), .val (.int (4 : Int32)), .val (.ref a79), .val (.int (0 : Int32)), .val (.int (0 : Int32))] [])) _
      refine XS.iloadN X92.here hx rfl (hb hby at_52) rfl ?_
      show Steps p.tables e below (T92.setTop (mkF m 53 #[.val (.int p1), .val (.int (4 : Int32)), .val (.ref a79), .val (.int (0 : Int32)), .val (.int (0 : Int32))] [(.int (0 : Int32))])) _
      refine XS.aloadN X92.here hx rfl (hb hby at_53) rfl rfl ?_
      show Steps p.tables e below (T92.setTop (mkF m 54 #[.val (.int p1), .val (.int (4 : Int32)), .val (.ref a79), .val (.int (0 : Int32)), .val (.int (0 : Int32))] [(.ref a79), (.int (0 : Int32))])) _
      refine st94.trans ?_
      show Steps p.tables e below (T94.setTop (mkF m 57 #[.val (.int p1), .val (.int (4 : Int32)), .val (.ref a79), .val (.int (0 : Int32)), .val (.int (0 : Int32))] [(.ref a86), (.int (0 : Int32))])) _
      refine XS.ifnonnullYes X94.here hx rfl (pc0 := 57) (pc' := 64) rfl (hb hby at_57) rfl (by decide) (by decide) ?_
      show Steps p.tables e below (T94.setTop (mkF m 64 #[.val (.int p1), .val (.int (4 : Int32)), .val (.ref a79), .val (.int (0 : Int32)), .val (.int (0 : Int32))] [(.int (0 : Int32))])) _
      refine XS.iconst X94.here hx rfl (hb hby at_64) ?_
      show Steps p.tables e below (T94.setTop (mkF m 65 #[.val (.int p1), .val (.int (4 : Int32)), .val (.ref a79), .val (.int (0 : Int32)), .val (.int (0 : Int32))] [(.int (0 : Int32)), (.int (0 : Int32))])) _
      refine XS.icmpNo X94.here hx rfl (hb hby at_65) rfl (teq (by decide +kernel : (0 : Int32) = (0 : Int32))).2 ?_
      show Steps p.tables e below (T94.setTop (mkF m 68 #[.val (.int p1), .val (.int (4 : Int32)), .val (.ref a79), .val (.int (0 : Int32)), .val (.int (0 : Int32))] [])) _
      refine XS.iconst X94.here hx rfl (hb hby at_68) ?_
      show Steps p.tables e below (T94.setTop (mkF m 69 #[.val (.int p1), .val (.int (4 : Int32)), .val (.ref a79), .val (.int (0 : Int32)), .val (.int (0 : Int32))] [(.int (1 : Int32))])) _
      refine XS.goto X94.here hx rfl (pc0 := 69) (pc' := 73) rfl (hb hby at_69) (by decide) (by decide) ?_
      show Steps p.tables e below (T94.setTop (mkF m 73 #[.val (.int p1), .val (.int (4 : Int32)), .val (.ref a79), .val (.int (0 : Int32)), .val (.int (0 : Int32))] [(.int (1 : Int32))])) _
      exact retN X94 hx (t := .boolean) Bd.returns (by simp) (hb hby at_73) hr
    · show Q0 Z _ _ _ _ _ _ _ _ _ _ _ _ _ _ _ _ _ _ h0 n0 _ T94.heap _
      rw [u97]
      exact ⟨rfl, N94⟩
  · skip
    obtain ⟨_, _, ⟨T100, L100, k100, n100⟩, -, X100, ⟨Lc100, hQ100, l100, y100, z100⟩, st100⟩ := Jvm.LawKit.callS X0 hx (y := M_0) hown (mvT hZ (hw _ (gw 1 rfl))) (mvT hZ (hw _ (gw 2 rfl))) (mvT hZ (hw _ (gw 3 rfl))) (mvT hZ (hw _ (gw 4 rfl))) (by decide) (backOf (W := 0) (rm1_11 l Z a0 hw [] a98 h0 n0  O0 S_99) hZ (hw _ (gw 4 rfl)) (hw _ (gw 3 rfl)) (by decide) (by decide)) (g := (mkF m 9 #[.val (.int p1), .val (.int (5 : Int32)), .unset, .unset, .unset] [(.int (5 : Int32))])) rfl (by rw [hml]; rfl) (argsL := [(.int (5 : Int32))]) (rest := []) (lenOf pd_0 rfl) rfl (by show 2 * 0 + _ ≤ _; exact Nat.le_of_eq rfl) (hb hby at_9) (fun _ _ => ⟨rfl, e0, (by decide : 0 + 0 ≤ _), (by decide : 0 + 0 ≤ _)⟩)
    dsimp only [Pt.U, Pt.locs, Pt.cells, Pt.slots] at X100 l100 y100 z100 st100 hQ100
    subst l100 y100 z100
    obtain ⟨rfl, u102, u103⟩ := hQ100
    have N100 := Fr.app N0 u102
    obtain ⟨cq107, kq107, q107a, q107b, q107c⟩ := isOf hZ u103 (Exa.ext O0.2 E_104)
    obtain ⟨_, _, ⟨T107, L107, k107, n107⟩, -, X107, ⟨Lc107, hQ107, l107, y107, z107⟩, st107⟩ := X100.virtualBack hx (y := M_1) (z := M_1) hown (mvT hZ (hw _ (gw 8 rfl))) (mvT hZ (hw _ (gw 9 rfl))) (notFace_of_selects (args := #[]) (mvT hZ (hw _ (gw 11 rfl)))) (mvT hZ (hw _ (gw 11 rfl))) (mvT hZ (hw _ (gw 10 rfl))) (by decide) (backOf (W := 0) (rm2_3 l Z a0 hw [] a98 a105 h0 n0  O0 F106) hZ (hw _ (gw 12 rfl)) (hw _ (gw 6 rfl)) (by decide) (by decide)) q107a q107c (g := (mkF m 14 #[.val (.int p1), .val (.int (5 : Int32)), .val (.ref a98), .unset, .unset] [(.ref a98)])) rfl (by rw [hml]; rfl) (Steps.refl _) (argsL := []) (rest := []) (lenOf pd_1 rfl) rfl (by show 2 * 0 + _ ≤ _; exact Nat.le_of_eq rfl) (hb hby at_14) (fun _ _ => ⟨rfl, u103, (by decide : 0 + 0 ≤ _), (by decide : 0 + 0 ≤ _)⟩)
    dsimp only [Pt.U, Pt.locs, Pt.cells, Pt.slots] at X107 l107 y107 z107 st107 hQ107
    subst l107 y107 z107
    obtain ⟨rfl, u109, u110⟩ := hQ107
    have N107 := Fr.app N100 u109
    obtain ⟨T111, X111, e111, st111⟩ := getS2 X107 hx hZ hown (host := "") (Or.inl (hw _ (gw 17 rfl))) Via.refl u110 (Sta.ext O0.2 S_19) (g := (mkF m 38 #[.val (.int p1), .val (.int (5 : Int32)), .val (.ref a98), .val (.int (0 : Int32)), .val (.int (0 : Int32))] [(.ref a98), (.int (0 : Int32))])) rfl (hb hby at_38)
    obtain ⟨cq113, kq113, q113a, q113b, q113c⟩ := isOf hZ e111 (Exa.ext O0.2 E_104)
    obtain ⟨_, _, ⟨T113, L113, k113, n113⟩, -, X113, ⟨Lc113, hQ113, l113, y113, z113⟩, st113⟩ := X111.virtualBack hx (y := M_2) (z := M_2) hown (mvT hZ (hw _ (gw 19 rfl))) (mvT hZ (hw _ (gw 20 rfl))) (notFace_of_selects (args := #[]) (mvT hZ (hw _ (gw 22 rfl)))) (mvT hZ (hw _ (gw 22 rfl))) (mvT hZ (hw _ (gw 21 rfl))) (by decide) (backOf (W := 1) (rm3_4 l Z a0 hw [] a98 a105 h0 n0  O0 F106) hZ (hw _ (gw 23 rfl)) (hw _ (gw 6 rfl)) (by decide) (by decide)) q113a q113c (g := (mkF m 54 #[.val (.int p1), .val (.int (5 : Int32)), .val (.ref a98), .val (.int (0 : Int32)), .val (.int (0 : Int32))] [(.ref a98), (.int (0 : Int32))])) rfl (by rw [hml]; rfl) (Steps.refl _) (argsL := []) (rest := [(.int (0 : Int32))]) (lenOf pd_2 rfl) rfl (by show 2 * 0 + _ ≤ _; exact Nat.le_of_eq rfl) (hb hby at_54) (fun _ _ => ⟨rfl, e111, (by decide : 0 + 0 ≤ _), (by decide : 0 + 0 ≤ _)⟩)
    dsimp only [Pt.U, Pt.locs, Pt.cells, Pt.slots] at X113 l113 y113 z113 st113 hQ113
    subst l113 y113 z113
    obtain ⟨rfl, u115, u116⟩ := hQ113
    have N113 := Fr.app N107 u115
    obtain ⟨fs, hr, hrun, hended, hW, hsame⟩ := X113.leave (v := some (.int (1 : Int32))) (fun h => by rw [Bd.returns] at h; cases h)
    refine ⟨_, _, pre4 _ ?_, hrun, hended, _, _, rfl, ?_, ⟨_, rfl⟩, hW, hsame.mono (by decide) (by decide)⟩
    · show Steps p.tables e below (s₁.setTop (mkF m 6 #[.val (.int p1), .unset, .unset, .unset, .unset] [(.int (9 : Int32)), (.int i2)])) _
      refine Jvm.RoadKit.iremM (g := (mkF m 6 #[.val (.int p1), .unset, .unset, .unset, .unset] [(.int (9 : Int32)), (.int i2)])) X0 hx rfl (hb hby at_6) rfl (by decide +kernel : ¬ ((9 : Int32) = (0 : Int32))) ?_
      show Steps p.tables e below (s₁.setTop (mkF m 7 #[.val (.int p1), .unset, .unset, .unset, .unset] [(.int (i2 % (9 : Int32)))])) _
      rw [hq3]
      show Steps p.tables e below (s₁.setTop (mkF m 7 #[.val (.int p1), .unset, .unset, .unset, .unset] [(.int (5 : Int32))])) _
      refine XS.istoreN X0.here hx rfl (hb hby at_7) rfl (l' := #[.val (.int p1), .val (.int (5 : Int32)), .unset, .unset, .unset]) rfl ?_
      show Steps p.tables e below (s₁.setTop (mkF m 8 #[.val (.int p1), .val (.int (5 : Int32)), .unset, .unset, .unset] [])) _
      refine XS.iloadN X0.here hx rfl (hb hby at_8) rfl ?_
      show Steps p.tables e below (s₁.setTop (mkF m 9 #[.val (.int p1), .val (.int (5 : Int32)), .unset, .unset, .unset] [(.int (5 : Int32))])) _
      refine st100 _ ?_
      show Steps p.tables e below (T100.setTop (mkF m 12 #[.val (.int p1), .val (.int (5 : Int32)), .unset, .unset, .unset] [(.ref a98)])) _
      refine XS.astoreN X100.here hx rfl (hb hby at_12) rfl rfl (l' := #[.val (.int p1), .val (.int (5 : Int32)), .val (.ref a98), .unset, .unset]) rfl ?_
      show Steps p.tables e below (T100.setTop (mkF m 13 #[.val (.int p1), .val (.int (5 : Int32)), .val (.ref a98), .unset, .unset] [])) _
      refine XS.aloadN X100.here hx rfl (hb hby at_13) rfl rfl ?_
      show Steps p.tables e below (T100.setTop (mkF m 14 #[.val (.int p1), .val (.int (5 : Int32)), .val (.ref a98), .unset, .unset] [(.ref a98)])) _
      refine st107.trans ?_
      show Steps p.tables e below (T107.setTop (mkF m 17 #[.val (.int p1), .val (.int (5 : Int32)), .val (.ref a98), .unset, .unset] [(.int (0 : Int32))])) _
      refine XS.istoreN X107.here hx rfl (hb hby at_17) rfl (l' := #[.val (.int p1), .val (.int (5 : Int32)), .val (.ref a98), .val (.int (0 : Int32)), .unset]) rfl ?_
      show Steps p.tables e below (T107.setTop (mkF m 18 #[.val (.int p1), .val (.int (5 : Int32)), .val (.ref a98), .val (.int (0 : Int32)), .unset] [])) _
      refine XS.iloadN X107.here hx rfl (hb hby at_18) rfl ?_
      show Steps p.tables e below (T107.setTop (mkF m 19 #[.val (.int p1), .val (.int (5 : Int32)), .val (.ref a98), .val (.int (0 : Int32)), .unset] [(.int (5 : Int32))])) _
      refine XS.iconst X107.here hx rfl (hb hby at_19) ?_
      show Steps p.tables e below (T107.setTop (mkF m 20 #[.val (.int p1), .val (.int (5 : Int32)), .val (.ref a98), .val (.int (0 : Int32)), .unset] [(.int (3 : Int32)), (.int (5 : Int32))])) _
      refine XS.icmpYes X107.here hx rfl (pc0 := 20) (pc' := 27) rfl (hb hby at_20) rfl (feq (by decide +kernel : ¬ ((5 : Int32) = (3 : Int32)))).2 (by decide) (by decide) ?_
      show Steps p.tables e below (T107.setTop (mkF m 27 #[.val (.int p1), .val (.int (5 : Int32)), .val (.ref a98), .val (.int (0 : Int32)), .unset] [])) _
      refine XS.iconst X107.here hx rfl (hb hby at_27) ?_
      show Steps p.tables e below (T107.setTop (mkF m 28 #[.val (.int p1), .val (.int (5 : Int32)), .val (.ref a98), .val (.int (0 : Int32)), .unset] [(.int (0 : Int32))])) _
      refine XS.istore X107.here hx rfl (hb hby at_28) rfl (l' := #[.val (.int p1), .val (.int (5 : Int32)), .val (.ref a98), .val (.int (0 : Int32)), .val (.int (0 : Int32))]) rfl ?_
      show Steps p.tables e below (T107.setTop (mkF m 30 #[.val (.int p1), .val (.int (5 : Int32)), .val (.ref a98), .val (.int (0 : Int32)), .val (.int (0 : Int32))] [])) _
      refine XS.iloadN X107.here hx rfl (hb hby at_30) rfl ?_
      show Steps p.tables e below (T107.setTop (mkF m 31 #[.val (.int p1), .val (.int (5 : Int32)), .val (.ref a98), .val (.int (0 : Int32)), .val (.int (0 : Int32))] [(.int (0 : Int32))])) _
      refine XS.iload X107.here hx rfl (hb hby at_31) rfl ?_
      show Steps p.tables e below (T107.setTop (mkF m 33 #[.val (.int p1), .val (.int (5 : Int32)), .val (.ref a98), .val (.int (0 : Int32)), .val (.int (0 : Int32))] [(.int (0 : Int32)), (.int (0 : Int32))])) _
      refine XS.icmpNo X107.here hx rfl (hb hby at_33) rfl (teq (by decide +kernel : (0 : Int32) = (0 : Int32))).2 ?_
      show Steps p.tables e below (T107.setTop (mkF m 36 #[.val (.int p1), .val (.int (5 : Int32)), .val (.ref a98), .val (.int (0 : Int32)), .val (.int (0 : Int32))] [])) _
      refine XS.iloadN X107.here hx rfl (hb hby at_36) rfl ?_
      show Steps p.tables e below (T107.setTop (mkF m 37 #[.val (.int p1), .val (.int (5 : Int32)), .val (.ref a98), .val (.int (0 : Int32)), .val (.int (0 : Int32))] [(.int (0 : Int32))])) _
      refine XS.aloadN X107.here hx rfl (hb hby at_37) rfl rfl ?_
      show Steps p.tables e below (T107.setTop (mkF m 38 #[.val (.int p1), .val (.int (5 : Int32)), .val (.ref a98), .val (.int (0 : Int32)), .val (.int (0 : Int32))] [(.ref a98), (.int (0 : Int32))])) _
      refine st111 _ ?_
      show Steps p.tables e below (T111.setTop (mkF m 41 #[.val (.int p1), .val (.int (5 : Int32)), .val (.ref a98), .val (.int (0 : Int32)), .val (.int (0 : Int32))] [(.ref a18), (.ref a98), (.int (0 : Int32))])) _
      refine Jvm.RoadKit.acmp (g := (mkF m 41 #[.val (.int p1), .val (.int (5 : Int32)), .val (.ref a98), .val (.int (0 : Int32)), .val (.int (0 : Int32))] [(.ref a18), (.ref a98), (.int (0 : Int32))])) X111 hx rfl rfl rfl (pc0 := 41) (pc' := 48) (same := false) rfl (hb hby at_41) rfl (decide_eq_false fun q => hne112 (Value.ref.inj q)) (by decide) (by decide) ?_
      show Steps p.tables e below (T111.setTop (mkF m 48 #[.val (.int p1), .val (.int (5 : Int32)), .val (.ref a98), .val (.int (0 : Int32)), .val (.int (0 : Int32))] [(.int (0 : Int32))])) _
      refine XS.iconst X111.here hx rfl (hb hby at_48) ?_
      show Steps p.tables e below (T111.setTop (mkF m 49 #[.val (.int p1), .val (.int (5 : Int32)), .val (.ref a98), .val (.int (0 : Int32)), .val (.int (0 : Int32))] [(.int (0 : Int32)), (.int (0 : Int32))])) _
      refine XS.icmpNo X111.here hx rfl (hb hby at_49) rfl (teq (by decide +kernel : (0 : Int32) = (0 : Int32))).2 ?_
      show Steps p.tables e below (T111.setTop (mkF m 52 #[.val (.int p1), .val (.int (5 : Int32)), .val (.ref a98), .val (.int (0 : Int32)), .val (.int (0 : Int32))] [])) _
      refine XS.iloadN X111.here hx rfl (hb hby at_52) rfl ?_
      show Steps p.tables e below (T111.setTop (mkF m 53 #[.val (.int p1), .val (.int (5 : Int32)), .val (.ref a98), .val (.int (0 : Int32)), .val (.int (0 : Int32))] [(.int (0 : Int32))])) _
      refine XS.aloadN X111.here hx rfl (hb hby at_53) rfl rfl ?_
      show Steps p.tables e below (T111.setTop (mkF m 54 #[.val (.int p1), .val (.int (5 : Int32)), .val (.ref a98), .val (.int (0 : Int32)), .val (.int (0 : Int32))] [(.ref a98), (.int (0 : Int32))])) _
      refine st113.trans ?_
      show Steps p.tables e below (T113.setTop (mkF m 57 #[.val (.int p1), .val (.int (5 : Int32)), .val (.ref a98), .val (.int (0 : Int32)), .val (.int (0 : Int32))] [(.ref a105), (.int (0 : Int32))])) _
      refine XS.ifnonnullYes X113.here hx rfl (pc0 := 57) (pc' := 64) rfl (hb hby at_57) rfl (by decide) (by decide) ?_
      show Steps p.tables e below (T113.setTop (mkF m 64 #[.val (.int p1), .val (.int (5 : Int32)), .val (.ref a98), .val (.int (0 : Int32)), .val (.int (0 : Int32))] [(.int (0 : Int32))])) _
      refine XS.iconst X113.here hx rfl (hb hby at_64) ?_
      show Steps p.tables e below (T113.setTop (mkF m 65 #[.val (.int p1), .val (.int (5 : Int32)), .val (.ref a98), .val (.int (0 : Int32)), .val (.int (0 : Int32))] [(.int (0 : Int32)), (.int (0 : Int32))])) _
      refine XS.icmpNo X113.here hx rfl (hb hby at_65) rfl (teq (by decide +kernel : (0 : Int32) = (0 : Int32))).2 ?_
      show Steps p.tables e below (T113.setTop (mkF m 68 #[.val (.int p1), .val (.int (5 : Int32)), .val (.ref a98), .val (.int (0 : Int32)), .val (.int (0 : Int32))] [])) _
      refine XS.iconst X113.here hx rfl (hb hby at_68) ?_
      show Steps p.tables e below (T113.setTop (mkF m 69 #[.val (.int p1), .val (.int (5 : Int32)), .val (.ref a98), .val (.int (0 : Int32)), .val (.int (0 : Int32))] [(.int (1 : Int32))])) _
      refine XS.goto X113.here hx rfl (pc0 := 69) (pc' := 73) rfl (hb hby at_69) (by decide) (by decide) ?_
      show Steps p.tables e below (T113.setTop (mkF m 73 #[.val (.int p1), .val (.int (5 : Int32)), .val (.ref a98), .val (.int (0 : Int32)), .val (.int (0 : Int32))] [(.int (1 : Int32))])) _
      exact retN X113 hx (t := .boolean) Bd.returns (by simp) (hb hby at_73) hr
    · show Q0 Z _ _ _ _ _ _ _ _ _ _ _ _ _ _ _ _ _ _ h0 n0 _ T113.heap _
      rw [u116]
      exact ⟨rfl, N113⟩
  · skip
    obtain ⟨_, _, ⟨T119, L119, k119, n119⟩, -, X119, ⟨Lc119, hQ119, l119, y119, z119⟩, st119⟩ := Jvm.LawKit.callS X0 hx (y := M_0) hown (mvT hZ (hw _ (gw 1 rfl))) (mvT hZ (hw _ (gw 2 rfl))) (mvT hZ (hw _ (gw 3 rfl))) (mvT hZ (hw _ (gw 4 rfl))) (by decide) (backOf (W := 0) (rm1_12 l Z a0 hw [] a117 h0 n0  O0 S_118) hZ (hw _ (gw 4 rfl)) (hw _ (gw 3 rfl)) (by decide) (by decide)) (g := (mkF m 9 #[.val (.int p1), .val (.int (6 : Int32)), .unset, .unset, .unset] [(.int (6 : Int32))])) rfl (by rw [hml]; rfl) (argsL := [(.int (6 : Int32))]) (rest := []) (lenOf pd_0 rfl) rfl (by show 2 * 0 + _ ≤ _; exact Nat.le_of_eq rfl) (hb hby at_9) (fun _ _ => ⟨rfl, e0, (by decide : 0 + 0 ≤ _), (by decide : 0 + 0 ≤ _)⟩)
    dsimp only [Pt.U, Pt.locs, Pt.cells, Pt.slots] at X119 l119 y119 z119 st119 hQ119
    subst l119 y119 z119
    obtain ⟨rfl, u121, u122⟩ := hQ119
    have N119 := Fr.app N0 u121
    obtain ⟨cq126, kq126, q126a, q126b, q126c⟩ := isOf hZ u122 (Exa.ext O0.2 E_123)
    obtain ⟨_, _, ⟨T126, L126, k126, n126⟩, -, X126, ⟨Lc126, hQ126, l126, y126, z126⟩, st126⟩ := X119.virtualBack hx (y := M_1) (z := M_1) hown (mvT hZ (hw _ (gw 8 rfl))) (mvT hZ (hw _ (gw 9 rfl))) (notFace_of_selects (args := #[]) (mvT hZ (hw _ (gw 11 rfl)))) (mvT hZ (hw _ (gw 11 rfl))) (mvT hZ (hw _ (gw 10 rfl))) (by decide) (backOf (W := 0) (rm2_3 l Z a0 hw [] a117 a124 h0 n0  O0 F125) hZ (hw _ (gw 12 rfl)) (hw _ (gw 6 rfl)) (by decide) (by decide)) q126a q126c (g := (mkF m 14 #[.val (.int p1), .val (.int (6 : Int32)), .val (.ref a117), .unset, .unset] [(.ref a117)])) rfl (by rw [hml]; rfl) (Steps.refl _) (argsL := []) (rest := []) (lenOf pd_1 rfl) rfl (by show 2 * 0 + _ ≤ _; exact Nat.le_of_eq rfl) (hb hby at_14) (fun _ _ => ⟨rfl, u122, (by decide : 0 + 0 ≤ _), (by decide : 0 + 0 ≤ _)⟩)
    dsimp only [Pt.U, Pt.locs, Pt.cells, Pt.slots] at X126 l126 y126 z126 st126 hQ126
    subst l126 y126 z126
    obtain ⟨rfl, u128, u129⟩ := hQ126
    have N126 := Fr.app N119 u128
    obtain ⟨T130, X130, e130, st130⟩ := getS2 X126 hx hZ hown (host := "") (Or.inl (hw _ (gw 17 rfl))) Via.refl u129 (Sta.ext O0.2 S_19) (g := (mkF m 38 #[.val (.int p1), .val (.int (6 : Int32)), .val (.ref a117), .val (.int (0 : Int32)), .val (.int (0 : Int32))] [(.ref a117), (.int (0 : Int32))])) rfl (hb hby at_38)
    obtain ⟨cq132, kq132, q132a, q132b, q132c⟩ := isOf hZ e130 (Exa.ext O0.2 E_123)
    obtain ⟨_, _, ⟨T132, L132, k132, n132⟩, -, X132, ⟨Lc132, hQ132, l132, y132, z132⟩, st132⟩ := X130.virtualBack hx (y := M_2) (z := M_2) hown (mvT hZ (hw _ (gw 19 rfl))) (mvT hZ (hw _ (gw 20 rfl))) (notFace_of_selects (args := #[]) (mvT hZ (hw _ (gw 22 rfl)))) (mvT hZ (hw _ (gw 22 rfl))) (mvT hZ (hw _ (gw 21 rfl))) (by decide) (backOf (W := 1) (rm3_4 l Z a0 hw [] a117 a124 h0 n0  O0 F125) hZ (hw _ (gw 23 rfl)) (hw _ (gw 6 rfl)) (by decide) (by decide)) q132a q132c (g := (mkF m 54 #[.val (.int p1), .val (.int (6 : Int32)), .val (.ref a117), .val (.int (0 : Int32)), .val (.int (0 : Int32))] [(.ref a117), (.int (0 : Int32))])) rfl (by rw [hml]; rfl) (Steps.refl _) (argsL := []) (rest := [(.int (0 : Int32))]) (lenOf pd_2 rfl) rfl (by show 2 * 0 + _ ≤ _; exact Nat.le_of_eq rfl) (hb hby at_54) (fun _ _ => ⟨rfl, e130, (by decide : 0 + 0 ≤ _), (by decide : 0 + 0 ≤ _)⟩)
    dsimp only [Pt.U, Pt.locs, Pt.cells, Pt.slots] at X132 l132 y132 z132 st132 hQ132
    subst l132 y132 z132
    obtain ⟨rfl, u134, u135⟩ := hQ132
    have N132 := Fr.app N126 u134
    obtain ⟨fs, hr, hrun, hended, hW, hsame⟩ := X132.leave (v := some (.int (1 : Int32))) (fun h => by rw [Bd.returns] at h; cases h)
    refine ⟨_, _, pre4 _ ?_, hrun, hended, _, _, rfl, ?_, ⟨_, rfl⟩, hW, hsame.mono (by decide) (by decide)⟩
    · show Steps p.tables e below (s₁.setTop (mkF m 6 #[.val (.int p1), .unset, .unset, .unset, .unset] [(.int (9 : Int32)), (.int i2)])) _
      refine Jvm.RoadKit.iremM (g := (mkF m 6 #[.val (.int p1), .unset, .unset, .unset, .unset] [(.int (9 : Int32)), (.int i2)])) X0 hx rfl (hb hby at_6) rfl (by decide +kernel : ¬ ((9 : Int32) = (0 : Int32))) ?_
      show Steps p.tables e below (s₁.setTop (mkF m 7 #[.val (.int p1), .unset, .unset, .unset, .unset] [(.int (i2 % (9 : Int32)))])) _
      rw [hq3]
      show Steps p.tables e below (s₁.setTop (mkF m 7 #[.val (.int p1), .unset, .unset, .unset, .unset] [(.int (6 : Int32))])) _
      refine XS.istoreN X0.here hx rfl (hb hby at_7) rfl (l' := #[.val (.int p1), .val (.int (6 : Int32)), .unset, .unset, .unset]) rfl ?_
      show Steps p.tables e below (s₁.setTop (mkF m 8 #[.val (.int p1), .val (.int (6 : Int32)), .unset, .unset, .unset] [])) _
      refine XS.iloadN X0.here hx rfl (hb hby at_8) rfl ?_
      show Steps p.tables e below (s₁.setTop (mkF m 9 #[.val (.int p1), .val (.int (6 : Int32)), .unset, .unset, .unset] [(.int (6 : Int32))])) _
      refine st119 _ ?_
      show Steps p.tables e below (T119.setTop (mkF m 12 #[.val (.int p1), .val (.int (6 : Int32)), .unset, .unset, .unset] [(.ref a117)])) _
      refine XS.astoreN X119.here hx rfl (hb hby at_12) rfl rfl (l' := #[.val (.int p1), .val (.int (6 : Int32)), .val (.ref a117), .unset, .unset]) rfl ?_
      show Steps p.tables e below (T119.setTop (mkF m 13 #[.val (.int p1), .val (.int (6 : Int32)), .val (.ref a117), .unset, .unset] [])) _
      refine XS.aloadN X119.here hx rfl (hb hby at_13) rfl rfl ?_
      show Steps p.tables e below (T119.setTop (mkF m 14 #[.val (.int p1), .val (.int (6 : Int32)), .val (.ref a117), .unset, .unset] [(.ref a117)])) _
      refine st126.trans ?_
      show Steps p.tables e below (T126.setTop (mkF m 17 #[.val (.int p1), .val (.int (6 : Int32)), .val (.ref a117), .unset, .unset] [(.int (0 : Int32))])) _
      refine XS.istoreN X126.here hx rfl (hb hby at_17) rfl (l' := #[.val (.int p1), .val (.int (6 : Int32)), .val (.ref a117), .val (.int (0 : Int32)), .unset]) rfl ?_
      show Steps p.tables e below (T126.setTop (mkF m 18 #[.val (.int p1), .val (.int (6 : Int32)), .val (.ref a117), .val (.int (0 : Int32)), .unset] [])) _
      refine XS.iloadN X126.here hx rfl (hb hby at_18) rfl ?_
      show Steps p.tables e below (T126.setTop (mkF m 19 #[.val (.int p1), .val (.int (6 : Int32)), .val (.ref a117), .val (.int (0 : Int32)), .unset] [(.int (6 : Int32))])) _
      refine XS.iconst X126.here hx rfl (hb hby at_19) ?_
      show Steps p.tables e below (T126.setTop (mkF m 20 #[.val (.int p1), .val (.int (6 : Int32)), .val (.ref a117), .val (.int (0 : Int32)), .unset] [(.int (3 : Int32)), (.int (6 : Int32))])) _
      refine XS.icmpYes X126.here hx rfl (pc0 := 20) (pc' := 27) rfl (hb hby at_20) rfl (feq (by decide +kernel : ¬ ((6 : Int32) = (3 : Int32)))).2 (by decide) (by decide) ?_
      show Steps p.tables e below (T126.setTop (mkF m 27 #[.val (.int p1), .val (.int (6 : Int32)), .val (.ref a117), .val (.int (0 : Int32)), .unset] [])) _
      refine XS.iconst X126.here hx rfl (hb hby at_27) ?_
      show Steps p.tables e below (T126.setTop (mkF m 28 #[.val (.int p1), .val (.int (6 : Int32)), .val (.ref a117), .val (.int (0 : Int32)), .unset] [(.int (0 : Int32))])) _
      refine XS.istore X126.here hx rfl (hb hby at_28) rfl (l' := #[.val (.int p1), .val (.int (6 : Int32)), .val (.ref a117), .val (.int (0 : Int32)), .val (.int (0 : Int32))]) rfl ?_
      show Steps p.tables e below (T126.setTop (mkF m 30 #[.val (.int p1), .val (.int (6 : Int32)), .val (.ref a117), .val (.int (0 : Int32)), .val (.int (0 : Int32))] [])) _
      refine XS.iloadN X126.here hx rfl (hb hby at_30) rfl ?_
      show Steps p.tables e below (T126.setTop (mkF m 31 #[.val (.int p1), .val (.int (6 : Int32)), .val (.ref a117), .val (.int (0 : Int32)), .val (.int (0 : Int32))] [(.int (0 : Int32))])) _
      refine XS.iload X126.here hx rfl (hb hby at_31) rfl ?_
      show Steps p.tables e below (T126.setTop (mkF m 33 #[.val (.int p1), .val (.int (6 : Int32)), .val (.ref a117), .val (.int (0 : Int32)), .val (.int (0 : Int32))] [(.int (0 : Int32)), (.int (0 : Int32))])) _
      refine XS.icmpNo X126.here hx rfl (hb hby at_33) rfl (teq (by decide +kernel : (0 : Int32) = (0 : Int32))).2 ?_
      show Steps p.tables e below (T126.setTop (mkF m 36 #[.val (.int p1), .val (.int (6 : Int32)), .val (.ref a117), .val (.int (0 : Int32)), .val (.int (0 : Int32))] [])) _
      refine XS.iloadN X126.here hx rfl (hb hby at_36) rfl ?_
      show Steps p.tables e below (T126.setTop (mkF m 37 #[.val (.int p1), .val (.int (6 : Int32)), .val (.ref a117), .val (.int (0 : Int32)), .val (.int (0 : Int32))] [(.int (0 : Int32))])) _
      refine XS.aloadN X126.here hx rfl (hb hby at_37) rfl rfl ?_
      show Steps p.tables e below (T126.setTop (mkF m 38 #[.val (.int p1), .val (.int (6 : Int32)), .val (.ref a117), .val (.int (0 : Int32)), .val (.int (0 : Int32))] [(.ref a117), (.int (0 : Int32))])) _
      refine st130 _ ?_
      show Steps p.tables e below (T130.setTop (mkF m 41 #[.val (.int p1), .val (.int (6 : Int32)), .val (.ref a117), .val (.int (0 : Int32)), .val (.int (0 : Int32))] [(.ref a18), (.ref a117), (.int (0 : Int32))])) _
      refine Jvm.RoadKit.acmp (g := (mkF m 41 #[.val (.int p1), .val (.int (6 : Int32)), .val (.ref a117), .val (.int (0 : Int32)), .val (.int (0 : Int32))] [(.ref a18), (.ref a117), (.int (0 : Int32))])) X130 hx rfl rfl rfl (pc0 := 41) (pc' := 48) (same := false) rfl (hb hby at_41) rfl (decide_eq_false fun q => hne131 (Value.ref.inj q)) (by decide) (by decide) ?_
      show Steps p.tables e below (T130.setTop (mkF m 48 #[.val (.int p1), .val (.int (6 : Int32)), .val (.ref a117), .val (.int (0 : Int32)), .val (.int (0 : Int32))] [(.int (0 : Int32))])) _
      refine XS.iconst X130.here hx rfl (hb hby at_48) ?_
      show Steps p.tables e below (T130.setTop (mkF m 49 #[.val (.int p1), .val (.int (6 : Int32)), .val (.ref a117), .val (.int (0 : Int32)), .val (.int (0 : Int32))] [(.int (0 : Int32)), (.int (0 : Int32))])) _
      refine XS.icmpNo X130.here hx rfl (hb hby at_49) rfl (teq (by decide +kernel : (0 : Int32) = (0 : Int32))).2 ?_
      show Steps p.tables e below (T130.setTop (mkF m 52 #[.val (.int p1), .val (.int (6 : Int32)), .val (.ref a117), .val (.int (0 : Int32)), .val (.int (0 : Int32))] [])) _
      refine XS.iloadN X130.here hx rfl (hb hby at_52) rfl ?_
      show Steps p.tables e below (T130.setTop (mkF m 53 #[.val (.int p1), .val (.int (6 : Int32)), .val (.ref a117), .val (.int (0 : Int32)), .val (.int (0 : Int32))] [(.int (0 : Int32))])) _
      refine XS.aloadN X130.here hx rfl (hb hby at_53) rfl rfl ?_
      show Steps p.tables e below (T130.setTop (mkF m 54 #[.val (.int p1), .val (.int (6 : Int32)), .val (.ref a117), .val (.int (0 : Int32)), .val (.int (0 : Int32))] [(.ref a117), (.int (0 : Int32))])) _
      refine st132.trans ?_
      show Steps p.tables e below (T132.setTop (mkF m 57 #[.val (.int p1), .val (.int (6 : Int32)), .val (.ref a117), .val (.int (0 : Int32)), .val (.int (0 : Int32))] [(.ref a124), (.int (0 : Int32))])) _
      refine XS.ifnonnullYes X132.here hx rfl (pc0 := 57) (pc' := 64) rfl (hb hby at_57) rfl (by decide) (by decide) ?_
      show Steps p.tables e below (T132.setTop (mkF m 64 #[.val (.int p1), .val (.int (6 : Int32)), .val (.ref a117), .val (.int (0 : Int32)), .val (.int (0 : Int32))] [(.int (0 : Int32))])) _
      refine XS.iconst X132.here hx rfl (hb hby at_64) ?_
      show Steps p.tables e below (T132.setTop (mkF m 65 #[.val (.int p1), .val (.int (6 : Int32)), .val (.ref a117), .val (.int (0 : Int32)), .val (.int (0 : Int32))] [(.int (0 : Int32)), (.int (0 : Int32))])) _
      refine XS.icmpNo X132.here hx rfl (hb hby at_65) rfl (teq (by decide +kernel : (0 : Int32) = (0 : Int32))).2 ?_
      show Steps p.tables e below (T132.setTop (mkF m 68 #[.val (.int p1), .val (.int (6 : Int32)), .val (.ref a117), .val (.int (0 : Int32)), .val (.int (0 : Int32))] [])) _
      refine XS.iconst X132.here hx rfl (hb hby at_68) ?_
      show Steps p.tables e below (T132.setTop (mkF m 69 #[.val (.int p1), .val (.int (6 : Int32)), .val (.ref a117), .val (.int (0 : Int32)), .val (.int (0 : Int32))] [(.int (1 : Int32))])) _
      refine XS.goto X132.here hx rfl (pc0 := 69) (pc' := 73) rfl (hb hby at_69) (by decide) (by decide) ?_
      show Steps p.tables e below (T132.setTop (mkF m 73 #[.val (.int p1), .val (.int (6 : Int32)), .val (.ref a117), .val (.int (0 : Int32)), .val (.int (0 : Int32))] [(.int (1 : Int32))])) _
      exact retN X132 hx (t := .boolean) Bd.returns (by simp) (hb hby at_73) hr
    · show Q0 Z _ _ _ _ _ _ _ _ _ _ _ _ _ _ _ _ _ _ h0 n0 _ T132.heap _
      rw [u135]
      exact ⟨rfl, N132⟩
  · skip
    obtain ⟨_, _, ⟨T138, L138, k138, n138⟩, -, X138, ⟨Lc138, hQ138, l138, y138, z138⟩, st138⟩ := Jvm.LawKit.callS X0 hx (y := M_0) hown (mvT hZ (hw _ (gw 1 rfl))) (mvT hZ (hw _ (gw 2 rfl))) (mvT hZ (hw _ (gw 3 rfl))) (mvT hZ (hw _ (gw 4 rfl))) (by decide) (backOf (W := 0) (rm1_13 l Z a0 hw [] a136 h0 n0  O0 S_137) hZ (hw _ (gw 4 rfl)) (hw _ (gw 3 rfl)) (by decide) (by decide)) (g := (mkF m 9 #[.val (.int p1), .val (.int (7 : Int32)), .unset, .unset, .unset] [(.int (7 : Int32))])) rfl (by rw [hml]; rfl) (argsL := [(.int (7 : Int32))]) (rest := []) (lenOf pd_0 rfl) rfl (by show 2 * 0 + _ ≤ _; exact Nat.le_of_eq rfl) (hb hby at_9) (fun _ _ => ⟨rfl, e0, (by decide : 0 + 0 ≤ _), (by decide : 0 + 0 ≤ _)⟩)
    dsimp only [Pt.U, Pt.locs, Pt.cells, Pt.slots] at X138 l138 y138 z138 st138 hQ138
    subst l138 y138 z138
    obtain ⟨rfl, u140, u141⟩ := hQ138
    have N138 := Fr.app N0 u140
    obtain ⟨cq145, kq145, q145a, q145b, q145c⟩ := isOf hZ u141 (Exa.ext O0.2 E_142)
    obtain ⟨_, _, ⟨T145, L145, k145, n145⟩, -, X145, ⟨Lc145, hQ145, l145, y145, z145⟩, st145⟩ := X138.virtualBack hx (y := M_1) (z := M_1) hown (mvT hZ (hw _ (gw 8 rfl))) (mvT hZ (hw _ (gw 9 rfl))) (notFace_of_selects (args := #[]) (mvT hZ (hw _ (gw 11 rfl)))) (mvT hZ (hw _ (gw 11 rfl))) (mvT hZ (hw _ (gw 10 rfl))) (by decide) (backOf (W := 0) (rm2_3 l Z a0 hw [] a136 a143 h0 n0  O0 F144) hZ (hw _ (gw 12 rfl)) (hw _ (gw 6 rfl)) (by decide) (by decide)) q145a q145c (g := (mkF m 14 #[.val (.int p1), .val (.int (7 : Int32)), .val (.ref a136), .unset, .unset] [(.ref a136)])) rfl (by rw [hml]; rfl) (Steps.refl _) (argsL := []) (rest := []) (lenOf pd_1 rfl) rfl (by show 2 * 0 + _ ≤ _; exact Nat.le_of_eq rfl) (hb hby at_14) (fun _ _ => ⟨rfl, u141, (by decide : 0 + 0 ≤ _), (by decide : 0 + 0 ≤ _)⟩)
    dsimp only [Pt.U, Pt.locs, Pt.cells, Pt.slots] at X145 l145 y145 z145 st145 hQ145
    subst l145 y145 z145
    obtain ⟨rfl, u147, u148⟩ := hQ145
    have N145 := Fr.app N138 u147
    obtain ⟨T149, X149, e149, st149⟩ := getS2 X145 hx hZ hown (host := "") (Or.inl (hw _ (gw 17 rfl))) Via.refl u148 (Sta.ext O0.2 S_19) (g := (mkF m 38 #[.val (.int p1), .val (.int (7 : Int32)), .val (.ref a136), .val (.int (0 : Int32)), .val (.int (0 : Int32))] [(.ref a136), (.int (0 : Int32))])) rfl (hb hby at_38)
    obtain ⟨cq151, kq151, q151a, q151b, q151c⟩ := isOf hZ e149 (Exa.ext O0.2 E_142)
    obtain ⟨_, _, ⟨T151, L151, k151, n151⟩, -, X151, ⟨Lc151, hQ151, l151, y151, z151⟩, st151⟩ := X149.virtualBack hx (y := M_2) (z := M_2) hown (mvT hZ (hw _ (gw 19 rfl))) (mvT hZ (hw _ (gw 20 rfl))) (notFace_of_selects (args := #[]) (mvT hZ (hw _ (gw 22 rfl)))) (mvT hZ (hw _ (gw 22 rfl))) (mvT hZ (hw _ (gw 21 rfl))) (by decide) (backOf (W := 1) (rm3_4 l Z a0 hw [] a136 a143 h0 n0  O0 F144) hZ (hw _ (gw 23 rfl)) (hw _ (gw 6 rfl)) (by decide) (by decide)) q151a q151c (g := (mkF m 54 #[.val (.int p1), .val (.int (7 : Int32)), .val (.ref a136), .val (.int (0 : Int32)), .val (.int (0 : Int32))] [(.ref a136), (.int (0 : Int32))])) rfl (by rw [hml]; rfl) (Steps.refl _) (argsL := []) (rest := [(.int (0 : Int32))]) (lenOf pd_2 rfl) rfl (by show 2 * 0 + _ ≤ _; exact Nat.le_of_eq rfl) (hb hby at_54) (fun _ _ => ⟨rfl, e149, (by decide : 0 + 0 ≤ _), (by decide : 0 + 0 ≤ _)⟩)
    dsimp only [Pt.U, Pt.locs, Pt.cells, Pt.slots] at X151 l151 y151 z151 st151 hQ151
    subst l151 y151 z151
    obtain ⟨rfl, u153, u154⟩ := hQ151
    have N151 := Fr.app N145 u153
    obtain ⟨fs, hr, hrun, hended, hW, hsame⟩ := X151.leave (v := some (.int (1 : Int32))) (fun h => by rw [Bd.returns] at h; cases h)
    refine ⟨_, _, pre4 _ ?_, hrun, hended, _, _, rfl, ?_, ⟨_, rfl⟩, hW, hsame.mono (by decide) (by decide)⟩
    · show Steps p.tables e below (s₁.setTop (mkF m 6 #[.val (.int p1), .unset, .unset, .unset, .unset] [(.int (9 : Int32)), (.int i2)])) _
      refine Jvm.RoadKit.iremM (g := (mkF m 6 #[.val (.int p1), .unset, .unset, .unset, .unset] [(.int (9 : Int32)), (.int i2)])) X0 hx rfl (hb hby at_6) rfl (by decide +kernel : ¬ ((9 : Int32) = (0 : Int32))) ?_
      show Steps p.tables e below (s₁.setTop (mkF m 7 #[.val (.int p1), .unset, .unset, .unset, .unset] [(.int (i2 % (9 : Int32)))])) _
      rw [hq3]
      show Steps p.tables e below (s₁.setTop (mkF m 7 #[.val (.int p1), .unset, .unset, .unset, .unset] [(.int (7 : Int32))])) _
      refine XS.istoreN X0.here hx rfl (hb hby at_7) rfl (l' := #[.val (.int p1), .val (.int (7 : Int32)), .unset, .unset, .unset]) rfl ?_
      show Steps p.tables e below (s₁.setTop (mkF m 8 #[.val (.int p1), .val (.int (7 : Int32)), .unset, .unset, .unset] [])) _
      refine XS.iloadN X0.here hx rfl (hb hby at_8) rfl ?_
      show Steps p.tables e below (s₁.setTop (mkF m 9 #[.val (.int p1), .val (.int (7 : Int32)), .unset, .unset, .unset] [(.int (7 : Int32))])) _
      refine st138 _ ?_
      show Steps p.tables e below (T138.setTop (mkF m 12 #[.val (.int p1), .val (.int (7 : Int32)), .unset, .unset, .unset] [(.ref a136)])) _
      refine XS.astoreN X138.here hx rfl (hb hby at_12) rfl rfl (l' := #[.val (.int p1), .val (.int (7 : Int32)), .val (.ref a136), .unset, .unset]) rfl ?_
      show Steps p.tables e below (T138.setTop (mkF m 13 #[.val (.int p1), .val (.int (7 : Int32)), .val (.ref a136), .unset, .unset] [])) _
      refine XS.aloadN X138.here hx rfl (hb hby at_13) rfl rfl ?_
      show Steps p.tables e below (T138.setTop (mkF m 14 #[.val (.int p1), .val (.int (7 : Int32)), .val (.ref a136), .unset, .unset] [(.ref a136)])) _
      refine st145.trans ?_
      show Steps p.tables e below (T145.setTop (mkF m 17 #[.val (.int p1), .val (.int (7 : Int32)), .val (.ref a136), .unset, .unset] [(.int (0 : Int32))])) _
      refine XS.istoreN X145.here hx rfl (hb hby at_17) rfl (l' := #[.val (.int p1), .val (.int (7 : Int32)), .val (.ref a136), .val (.int (0 : Int32)), .unset]) rfl ?_
      show Steps p.tables e below (T145.setTop (mkF m 18 #[.val (.int p1), .val (.int (7 : Int32)), .val (.ref a136), .val (.int (0 : Int32)), .unset] [])) _
      refine XS.iloadN X145.here hx rfl (hb hby at_18) rfl ?_
      show Steps p.tables e below (T145.setTop (mkF m 19 #[.val (.int p1), .val (.int (7 : Int32)), .val (.ref a136), .val (.int (0 : Int32)), .unset] [(.int (7 : Int32))])) _
      refine XS.iconst X145.here hx rfl (hb hby at_19) ?_
      show Steps p.tables e below (T145.setTop (mkF m 20 #[.val (.int p1), .val (.int (7 : Int32)), .val (.ref a136), .val (.int (0 : Int32)), .unset] [(.int (3 : Int32)), (.int (7 : Int32))])) _
      refine XS.icmpYes X145.here hx rfl (pc0 := 20) (pc' := 27) rfl (hb hby at_20) rfl (feq (by decide +kernel : ¬ ((7 : Int32) = (3 : Int32)))).2 (by decide) (by decide) ?_
      show Steps p.tables e below (T145.setTop (mkF m 27 #[.val (.int p1), .val (.int (7 : Int32)), .val (.ref a136), .val (.int (0 : Int32)), .unset] [])) _
      refine XS.iconst X145.here hx rfl (hb hby at_27) ?_
      show Steps p.tables e below (T145.setTop (mkF m 28 #[.val (.int p1), .val (.int (7 : Int32)), .val (.ref a136), .val (.int (0 : Int32)), .unset] [(.int (0 : Int32))])) _
      refine XS.istore X145.here hx rfl (hb hby at_28) rfl (l' := #[.val (.int p1), .val (.int (7 : Int32)), .val (.ref a136), .val (.int (0 : Int32)), .val (.int (0 : Int32))]) rfl ?_
      show Steps p.tables e below (T145.setTop (mkF m 30 #[.val (.int p1), .val (.int (7 : Int32)), .val (.ref a136), .val (.int (0 : Int32)), .val (.int (0 : Int32))] [])) _
      refine XS.iloadN X145.here hx rfl (hb hby at_30) rfl ?_
      show Steps p.tables e below (T145.setTop (mkF m 31 #[.val (.int p1), .val (.int (7 : Int32)), .val (.ref a136), .val (.int (0 : Int32)), .val (.int (0 : Int32))] [(.int (0 : Int32))])) _
      refine XS.iload X145.here hx rfl (hb hby at_31) rfl ?_
      show Steps p.tables e below (T145.setTop (mkF m 33 #[.val (.int p1), .val (.int (7 : Int32)), .val (.ref a136), .val (.int (0 : Int32)), .val (.int (0 : Int32))] [(.int (0 : Int32)), (.int (0 : Int32))])) _
      refine XS.icmpNo X145.here hx rfl (hb hby at_33) rfl (teq (by decide +kernel : (0 : Int32) = (0 : Int32))).2 ?_
      show Steps p.tables e below (T145.setTop (mkF m 36 #[.val (.int p1), .val (.int (7 : Int32)), .val (.ref a136), .val (.int (0 : Int32)), .val (.int (0 : Int32))] [])) _
      refine XS.iloadN X145.here hx rfl (hb hby at_36) rfl ?_
      show Steps p.tables e below (T145.setTop (mkF m 37 #[.val (.int p1), .val (.int (7 : Int32)), .val (.ref a136), .val (.int (0 : Int32)), .val (.int (0 : Int32))] [(.int (0 : Int32))])) _
      refine XS.aloadN X145.here hx rfl (hb hby at_37) rfl rfl ?_
      show Steps p.tables e below (T145.setTop (mkF m 38 #[.val (.int p1), .val (.int (7 : Int32)), .val (.ref a136), .val (.int (0 : Int32)), .val (.int (0 : Int32))] [(.ref a136), (.int (0 : Int32))])) _
      refine st149 _ ?_
      show Steps p.tables e below (T149.setTop (mkF m 41 #[.val (.int p1), .val (.int (7 : Int32)), .val (.ref a136), .val (.int (0 : Int32)), .val (.int (0 : Int32))] [(.ref a18), (.ref a136), (.int (0 : Int32))])) _
      refine Jvm.RoadKit.acmp (g := (mkF m 41 #[.val (.int p1), .val (.int (7 : Int32)), .val (.ref a136), .val (.int (0 : Int32)), .val (.int (0 : Int32))] [(.ref a18), (.ref a136), (.int (0 : Int32))])) X149 hx rfl rfl rfl (pc0 := 41) (pc' := 48) (same := false) rfl (hb hby at_41) rfl (decide_eq_false fun q => hne150 (Value.ref.inj q)) (by decide) (by decide) ?_
      show Steps p.tables e below (T149.setTop (mkF m 48 #[.val (.int p1), .val (.int (7 : Int32)), .val (.ref a136), .val (.int (0 : Int32)), .val (.int (0 : Int32))] [(.int (0 : Int32))])) _
      refine XS.iconst X149.here hx rfl (hb hby at_48) ?_
      show Steps p.tables e below (T149.setTop (mkF m 49 #[.val (.int p1), .val (.int (7 : Int32)), .val (.ref a136), .val (.int (0 : Int32)), .val (.int (0 : Int32))] [(.int (0 : Int32)), (.int (0 : Int32))])) _
      refine XS.icmpNo X149.here hx rfl (hb hby at_49) rfl (teq (by decide +kernel : (0 : Int32) = (0 : Int32))).2 ?_
      show Steps p.tables e below (T149.setTop (mkF m 52 #[.val (.int p1), .val (.int (7 : Int32)), .val (.ref a136), .val (.int (0 : Int32)), .val (.int (0 : Int32))] [])) _
      refine XS.iloadN X149.here hx rfl (hb hby at_52) rfl ?_
      show Steps p.tables e below (T149.setTop (mkF m 53 #[.val (.int p1), .val (.int (7 : Int32)), .val (.ref a136), .val (.int (0 : Int32)), .val (.int (0 : Int32))] [(.int (0 : Int32))])) _
      refine XS.aloadN X149.here hx rfl (hb hby at_53) rfl rfl ?_
      show Steps p.tables e below (T149.setTop (mkF m 54 #[.val (.int p1), .val (.int (7 : Int32)), .val (.ref a136), .val (.int (0 : Int32)), .val (.int (0 : Int32))] [(.ref a136), (.int (0 : Int32))])) _
      refine st151.trans ?_
      show Steps p.tables e below (T151.setTop (mkF m 57 #[.val (.int p1), .val (.int (7 : Int32)), .val (.ref a136), .val (.int (0 : Int32)), .val (.int (0 : Int32))] [(.ref a143), (.int (0 : Int32))])) _
      refine XS.ifnonnullYes X151.here hx rfl (pc0 := 57) (pc' := 64) rfl (hb hby at_57) rfl (by decide) (by decide) ?_
      show Steps p.tables e below (T151.setTop (mkF m 64 #[.val (.int p1), .val (.int (7 : Int32)), .val (.ref a136), .val (.int (0 : Int32)), .val (.int (0 : Int32))] [(.int (0 : Int32))])) _
      refine XS.iconst X151.here hx rfl (hb hby at_64) ?_
      show Steps p.tables e below (T151.setTop (mkF m 65 #[.val (.int p1), .val (.int (7 : Int32)), .val (.ref a136), .val (.int (0 : Int32)), .val (.int (0 : Int32))] [(.int (0 : Int32)), (.int (0 : Int32))])) _
      refine XS.icmpNo X151.here hx rfl (hb hby at_65) rfl (teq (by decide +kernel : (0 : Int32) = (0 : Int32))).2 ?_
      show Steps p.tables e below (T151.setTop (mkF m 68 #[.val (.int p1), .val (.int (7 : Int32)), .val (.ref a136), .val (.int (0 : Int32)), .val (.int (0 : Int32))] [])) _
      refine XS.iconst X151.here hx rfl (hb hby at_68) ?_
      show Steps p.tables e below (T151.setTop (mkF m 69 #[.val (.int p1), .val (.int (7 : Int32)), .val (.ref a136), .val (.int (0 : Int32)), .val (.int (0 : Int32))] [(.int (1 : Int32))])) _
      refine XS.goto X151.here hx rfl (pc0 := 69) (pc' := 73) rfl (hb hby at_69) (by decide) (by decide) ?_
      show Steps p.tables e below (T151.setTop (mkF m 73 #[.val (.int p1), .val (.int (7 : Int32)), .val (.ref a136), .val (.int (0 : Int32)), .val (.int (0 : Int32))] [(.int (1 : Int32))])) _
      exact retN X151 hx (t := .boolean) Bd.returns (by simp) (hb hby at_73) hr
    · show Q0 Z _ _ _ _ _ _ _ _ _ _ _ _ _ _ _ _ _ _ h0 n0 _ T151.heap _
      rw [u154]
      exact ⟨rfl, N151⟩
  · skip
    obtain ⟨_, _, ⟨T157, L157, k157, n157⟩, -, X157, ⟨Lc157, hQ157, l157, y157, z157⟩, st157⟩ := Jvm.LawKit.callS X0 hx (y := M_0) hown (mvT hZ (hw _ (gw 1 rfl))) (mvT hZ (hw _ (gw 2 rfl))) (mvT hZ (hw _ (gw 3 rfl))) (mvT hZ (hw _ (gw 4 rfl))) (by decide) (backOf (W := 0) (rm1_14 l Z a0 hw [] a155 h0 n0  O0 S_156) hZ (hw _ (gw 4 rfl)) (hw _ (gw 3 rfl)) (by decide) (by decide)) (g := (mkF m 9 #[.val (.int p1), .val (.int (8 : Int32)), .unset, .unset, .unset] [(.int (8 : Int32))])) rfl (by rw [hml]; rfl) (argsL := [(.int (8 : Int32))]) (rest := []) (lenOf pd_0 rfl) rfl (by show 2 * 0 + _ ≤ _; exact Nat.le_of_eq rfl) (hb hby at_9) (fun _ _ => ⟨rfl, e0, (by decide : 0 + 0 ≤ _), (by decide : 0 + 0 ≤ _)⟩)
    dsimp only [Pt.U, Pt.locs, Pt.cells, Pt.slots] at X157 l157 y157 z157 st157 hQ157
    subst l157 y157 z157
    obtain ⟨rfl, u159, u160⟩ := hQ157
    have N157 := Fr.app N0 u159
    obtain ⟨cq164, kq164, q164a, q164b, q164c⟩ := isOf hZ u160 (Exa.ext O0.2 E_161)
    obtain ⟨_, _, ⟨T164, L164, k164, n164⟩, -, X164, ⟨Lc164, hQ164, l164, y164, z164⟩, st164⟩ := X157.virtualBack hx (y := M_1) (z := M_1) hown (mvT hZ (hw _ (gw 8 rfl))) (mvT hZ (hw _ (gw 9 rfl))) (notFace_of_selects (args := #[]) (mvT hZ (hw _ (gw 11 rfl)))) (mvT hZ (hw _ (gw 11 rfl))) (mvT hZ (hw _ (gw 10 rfl))) (by decide) (backOf (W := 0) (rm2_3 l Z a0 hw [] a155 a162 h0 n0  O0 F163) hZ (hw _ (gw 12 rfl)) (hw _ (gw 6 rfl)) (by decide) (by decide)) q164a q164c (g := (mkF m 14 #[.val (.int p1), .val (.int (8 : Int32)), .val (.ref a155), .unset, .unset] [(.ref a155)])) rfl (by rw [hml]; rfl) (Steps.refl _) (argsL := []) (rest := []) (lenOf pd_1 rfl) rfl (by show 2 * 0 + _ ≤ _; exact Nat.le_of_eq rfl) (hb hby at_14) (fun _ _ => ⟨rfl, u160, (by decide : 0 + 0 ≤ _), (by decide : 0 + 0 ≤ _)⟩)
    dsimp only [Pt.U, Pt.locs, Pt.cells, Pt.slots] at X164 l164 y164 z164 st164 hQ164
    subst l164 y164 z164
    obtain ⟨rfl, u166, u167⟩ := hQ164
    have N164 := Fr.app N157 u166
    obtain ⟨T168, X168, e168, st168⟩ := getS2 X164 hx hZ hown (host := "") (Or.inl (hw _ (gw 17 rfl))) Via.refl u167 (Sta.ext O0.2 S_19) (g := (mkF m 38 #[.val (.int p1), .val (.int (8 : Int32)), .val (.ref a155), .val (.int (0 : Int32)), .val (.int (0 : Int32))] [(.ref a155), (.int (0 : Int32))])) rfl (hb hby at_38)
    obtain ⟨cq170, kq170, q170a, q170b, q170c⟩ := isOf hZ e168 (Exa.ext O0.2 E_161)
    obtain ⟨_, _, ⟨T170, L170, k170, n170⟩, -, X170, ⟨Lc170, hQ170, l170, y170, z170⟩, st170⟩ := X168.virtualBack hx (y := M_2) (z := M_2) hown (mvT hZ (hw _ (gw 19 rfl))) (mvT hZ (hw _ (gw 20 rfl))) (notFace_of_selects (args := #[]) (mvT hZ (hw _ (gw 22 rfl)))) (mvT hZ (hw _ (gw 22 rfl))) (mvT hZ (hw _ (gw 21 rfl))) (by decide) (backOf (W := 1) (rm3_4 l Z a0 hw [] a155 a162 h0 n0  O0 F163) hZ (hw _ (gw 23 rfl)) (hw _ (gw 6 rfl)) (by decide) (by decide)) q170a q170c (g := (mkF m 54 #[.val (.int p1), .val (.int (8 : Int32)), .val (.ref a155), .val (.int (0 : Int32)), .val (.int (0 : Int32))] [(.ref a155), (.int (0 : Int32))])) rfl (by rw [hml]; rfl) (Steps.refl _) (argsL := []) (rest := [(.int (0 : Int32))]) (lenOf pd_2 rfl) rfl (by show 2 * 0 + _ ≤ _; exact Nat.le_of_eq rfl) (hb hby at_54) (fun _ _ => ⟨rfl, e168, (by decide : 0 + 0 ≤ _), (by decide : 0 + 0 ≤ _)⟩)
    dsimp only [Pt.U, Pt.locs, Pt.cells, Pt.slots] at X170 l170 y170 z170 st170 hQ170
    subst l170 y170 z170
    obtain ⟨rfl, u172, u173⟩ := hQ170
    have N170 := Fr.app N164 u172
    obtain ⟨fs, hr, hrun, hended, hW, hsame⟩ := X170.leave (v := some (.int (1 : Int32))) (fun h => by rw [Bd.returns] at h; cases h)
    refine ⟨_, _, pre4 _ ?_, hrun, hended, _, _, rfl, ?_, ⟨_, rfl⟩, hW, hsame.mono (by decide) (by decide)⟩
    · show Steps p.tables e below (s₁.setTop (mkF m 6 #[.val (.int p1), .unset, .unset, .unset, .unset] [(.int (9 : Int32)), (.int i2)])) _
      refine Jvm.RoadKit.iremM (g := (mkF m 6 #[.val (.int p1), .unset, .unset, .unset, .unset] [(.int (9 : Int32)), (.int i2)])) X0 hx rfl (hb hby at_6) rfl (by decide +kernel : ¬ ((9 : Int32) = (0 : Int32))) ?_
      show Steps p.tables e below (s₁.setTop (mkF m 7 #[.val (.int p1), .unset, .unset, .unset, .unset] [(.int (i2 % (9 : Int32)))])) _
      rw [hq3]
      show Steps p.tables e below (s₁.setTop (mkF m 7 #[.val (.int p1), .unset, .unset, .unset, .unset] [(.int (8 : Int32))])) _
      refine XS.istoreN X0.here hx rfl (hb hby at_7) rfl (l' := #[.val (.int p1), .val (.int (8 : Int32)), .unset, .unset, .unset]) rfl ?_
      show Steps p.tables e below (s₁.setTop (mkF m 8 #[.val (.int p1), .val (.int (8 : Int32)), .unset, .unset, .unset] [])) _
      refine XS.iloadN X0.here hx rfl (hb hby at_8) rfl ?_
      show Steps p.tables e below (s₁.setTop (mkF m 9 #[.val (.int p1), .val (.int (8 : Int32)), .unset, .unset, .unset] [(.int (8 : Int32))])) _
      refine st157 _ ?_
      show Steps p.tables e below (T157.setTop (mkF m 12 #[.val (.int p1), .val (.int (8 : Int32)), .unset, .unset, .unset] [(.ref a155)])) _
      refine XS.astoreN X157.here hx rfl (hb hby at_12) rfl rfl (l' := #[.val (.int p1), .val (.int (8 : Int32)), .val (.ref a155), .unset, .unset]) rfl ?_
      show Steps p.tables e below (T157.setTop (mkF m 13 #[.val (.int p1), .val (.int (8 : Int32)), .val (.ref a155), .unset, .unset] [])) _
      refine XS.aloadN X157.here hx rfl (hb hby at_13) rfl rfl ?_
      show Steps p.tables e below (T157.setTop (mkF m 14 #[.val (.int p1), .val (.int (8 : Int32)), .val (.ref a155), .unset, .unset] [(.ref a155)])) _
      refine st164.trans ?_
      show Steps p.tables e below (T164.setTop (mkF m 17 #[.val (.int p1), .val (.int (8 : Int32)), .val (.ref a155), .unset, .unset] [(.int (0 : Int32))])) _
      refine XS.istoreN X164.here hx rfl (hb hby at_17) rfl (l' := #[.val (.int p1), .val (.int (8 : Int32)), .val (.ref a155), .val (.int (0 : Int32)), .unset]) rfl ?_
      show Steps p.tables e below (T164.setTop (mkF m 18 #[.val (.int p1), .val (.int (8 : Int32)), .val (.ref a155), .val (.int (0 : Int32)), .unset] [])) _
      refine XS.iloadN X164.here hx rfl (hb hby at_18) rfl ?_
      show Steps p.tables e below (T164.setTop (mkF m 19 #[.val (.int p1), .val (.int (8 : Int32)), .val (.ref a155), .val (.int (0 : Int32)), .unset] [(.int (8 : Int32))])) _
      refine XS.iconst X164.here hx rfl (hb hby at_19) ?_
      show Steps p.tables e below (T164.setTop (mkF m 20 #[.val (.int p1), .val (.int (8 : Int32)), .val (.ref a155), .val (.int (0 : Int32)), .unset] [(.int (3 : Int32)), (.int (8 : Int32))])) _
      refine XS.icmpYes X164.here hx rfl (pc0 := 20) (pc' := 27) rfl (hb hby at_20) rfl (feq (by decide +kernel : ¬ ((8 : Int32) = (3 : Int32)))).2 (by decide) (by decide) ?_
      show Steps p.tables e below (T164.setTop (mkF m 27 #[.val (.int p1), .val (.int (8 : Int32)), .val (.ref a155), .val (.int (0 : Int32)), .unset] [])) _
      refine XS.iconst X164.here hx rfl (hb hby at_27) ?_
      show Steps p.tables e below (T164.setTop (mkF m 28 #[.val (.int p1), .val (.int (8 : Int32)), .val (.ref a155), .val (.int (0 : Int32)), .unset] [(.int (0 : Int32))])) _
      refine XS.istore X164.here hx rfl (hb hby at_28) rfl (l' := #[.val (.int p1), .val (.int (8 : Int32)), .val (.ref a155), .val (.int (0 : Int32)), .val (.int (0 : Int32))]) rfl ?_
      show Steps p.tables e below (T164.setTop (mkF m 30 #[.val (.int p1), .val (.int (8 : Int32)), .val (.ref a155), .val (.int (0 : Int32)), .val (.int (0 : Int32))] [])) _
      refine XS.iloadN X164.here hx rfl (hb hby at_30) rfl ?_
      show Steps p.tables e below (T164.setTop (mkF m 31 #[.val (.int p1), .val (.int (8 : Int32)), .val (.ref a155), .val (.int (0 : Int32)), .val (.int (0 : Int32))] [(.int (0 : Int32))])) _
      refine XS.iload X164.here hx rfl (hb hby at_31) rfl ?_
      show Steps p.tables e below (T164.setTop (mkF m 33 #[.val (.int p1), .val (.int (8 : Int32)), .val (.ref a155), .val (.int (0 : Int32)), .val (.int (0 : Int32))] [(.int (0 : Int32)), (.int (0 : Int32))])) _
      refine XS.icmpNo X164.here hx rfl (hb hby at_33) rfl (teq (by decide +kernel : (0 : Int32) = (0 : Int32))).2 ?_
      show Steps p.tables e below (T164.setTop (mkF m 36 #[.val (.int p1), .val (.int (8 : Int32)), .val (.ref a155), .val (.int (0 : Int32)), .val (.int (0 : Int32))] [])) _
      refine XS.iloadN X164.here hx rfl (hb hby at_36) rfl ?_
      show Steps p.tables e below (T164.setTop (mkF m 37 #[.val (.int p1), .val (.int (8 : Int32)), .val (.ref a155), .val (.int (0 : Int32)), .val (.int (0 : Int32))] [(.int (0 : Int32))])) _
      refine XS.aloadN X164.here hx rfl (hb hby at_37) rfl rfl ?_
      show Steps p.tables e below (T164.setTop (mkF m 38 #[.val (.int p1), .val (.int (8 : Int32)), .val (.ref a155), .val (.int (0 : Int32)), .val (.int (0 : Int32))] [(.ref a155), (.int (0 : Int32))])) _
      refine st168 _ ?_
      show Steps p.tables e below (T168.setTop (mkF m 41 #[.val (.int p1), .val (.int (8 : Int32)), .val (.ref a155), .val (.int (0 : Int32)), .val (.int (0 : Int32))] [(.ref a18), (.ref a155), (.int (0 : Int32))])) _
      refine Jvm.RoadKit.acmp (g := (mkF m 41 #[.val (.int p1), .val (.int (8 : Int32)), .val (.ref a155), .val (.int (0 : Int32)), .val (.int (0 : Int32))] [(.ref a18), (.ref a155), (.int (0 : Int32))])) X168 hx rfl rfl rfl (pc0 := 41) (pc' := 48) (same := false) rfl (hb hby at_41) rfl (decide_eq_false fun q => hne169 (Value.ref.inj q)) (by decide) (by decide) ?_
      show Steps p.tables e below (T168.setTop (mkF m 48 #[.val (.int p1), .val (.int (8 : Int32)), .val (.ref a155), .val (.int (0 : Int32)), .val (.int (0 : Int32))] [(.int (0 : Int32))])) _
      refine XS.iconst X168.here hx rfl (hb hby at_48) ?_
      show Steps p.tables e below (T168.setTop (mkF m 49 #[.val (.int p1), .val (.int (8 : Int32)), .val (.ref a155), .val (.int (0 : Int32)), .val (.int (0 : Int32))] [(.int (0 : Int32)), (.int (0 : Int32))])) _
      refine XS.icmpNo X168.here hx rfl (hb hby at_49) rfl (teq (by decide +kernel : (0 : Int32) = (0 : Int32))).2 ?_
      show Steps p.tables e below (T168.setTop (mkF m 52 #[.val (.int p1), .val (.int (8 : Int32)), .val (.ref a155), .val (.int (0 : Int32)), .val (.int (0 : Int32))] [])) _
      refine XS.iloadN X168.here hx rfl (hb hby at_52) rfl ?_
      show Steps p.tables e below (T168.setTop (mkF m 53 #[.val (.int p1), .val (.int (8 : Int32)), .val (.ref a155), .val (.int (0 : Int32)), .val (.int (0 : Int32))] [(.int (0 : Int32))])) _
      refine XS.aloadN X168.here hx rfl (hb hby at_53) rfl rfl ?_
      show Steps p.tables e below (T168.setTop (mkF m 54 #[.val (.int p1), .val (.int (8 : Int32)), .val (.ref a155), .val (.int (0 : Int32)), .val (.int (0 : Int32))] [(.ref a155), (.int (0 : Int32))])) _
      refine st170.trans ?_
      show Steps p.tables e below (T170.setTop (mkF m 57 #[.val (.int p1), .val (.int (8 : Int32)), .val (.ref a155), .val (.int (0 : Int32)), .val (.int (0 : Int32))] [(.ref a162), (.int (0 : Int32))])) _
      refine XS.ifnonnullYes X170.here hx rfl (pc0 := 57) (pc' := 64) rfl (hb hby at_57) rfl (by decide) (by decide) ?_
      show Steps p.tables e below (T170.setTop (mkF m 64 #[.val (.int p1), .val (.int (8 : Int32)), .val (.ref a155), .val (.int (0 : Int32)), .val (.int (0 : Int32))] [(.int (0 : Int32))])) _
      refine XS.iconst X170.here hx rfl (hb hby at_64) ?_
      show Steps p.tables e below (T170.setTop (mkF m 65 #[.val (.int p1), .val (.int (8 : Int32)), .val (.ref a155), .val (.int (0 : Int32)), .val (.int (0 : Int32))] [(.int (0 : Int32)), (.int (0 : Int32))])) _
      refine XS.icmpNo X170.here hx rfl (hb hby at_65) rfl (teq (by decide +kernel : (0 : Int32) = (0 : Int32))).2 ?_
      show Steps p.tables e below (T170.setTop (mkF m 68 #[.val (.int p1), .val (.int (8 : Int32)), .val (.ref a155), .val (.int (0 : Int32)), .val (.int (0 : Int32))] [])) _
      refine XS.iconst X170.here hx rfl (hb hby at_68) ?_
      show Steps p.tables e below (T170.setTop (mkF m 69 #[.val (.int p1), .val (.int (8 : Int32)), .val (.ref a155), .val (.int (0 : Int32)), .val (.int (0 : Int32))] [(.int (1 : Int32))])) _
      refine XS.goto X170.here hx rfl (pc0 := 69) (pc' := 73) rfl (hb hby at_69) (by decide) (by decide) ?_
      show Steps p.tables e below (T170.setTop (mkF m 73 #[.val (.int p1), .val (.int (8 : Int32)), .val (.ref a155), .val (.int (0 : Int32)), .val (.int (0 : Int32))] [(.int (1 : Int32))])) _
      exact retN X170 hx (t := .boolean) Bd.returns (by simp) (hb hby at_73) hr
    · show Q0 Z _ _ _ _ _ _ _ _ _ _ _ _ _ _ _ _ _ _ h0 n0 _ T170.heap _
      rw [u173]
      exact ⟨rfl, N170⟩
set_option maxRecDepth 65536 in
set_option maxHeartbeats 40000000 in
theorem comes_1 {Post : Tables → Env → Array Value → State → Outcome → State → Prop} (hpost : ∀ tb e args s v u, (limb_1_1.after args s (.returned v) u = true ∧ limb_1_2.after args s (.returned v) u = true ∧ True) → FrameEnd s (.returned v) u (Jvm.fieldLocs frame_1_writes args s ++ Jvm.arrayLocs frame_1_arrays args s ++ Jvm.staticLocs frame_1_statics s) 0 0 → Post tb e args s (.returned v) u) :
    ArmFor flags0 classFile x code maxLocals ret World_1 tables_1 room_1 Calls_1 rest_1 Pre_1 Post := by
  intro l hfl _ _ p e ha hc hk s m args below hf hA hF happ hP
  obtain ⟨hcalls, hrest, hpre⟩ := hP
  obtain ⟨-, -, -, hnamed, -, -, -, hat⟩ := (Spec.applies_iff hf).mp happ
  obtain ⟨hg, hn⟩ := and_e (Cond.before_iff.mp (show (Jvm.Cond.and given_1 narrow_1).before args s = true from hpre))
  obtain ⟨h1, hr0⟩ := and_e hg
  obtain ⟨w0, rfl⟩ : ∃ w0 : Value, args = #[w0] := by
    have hs : args.size = 1 := by simpa [Cond.value, given_1] using h1
    obtain ⟨L⟩ := args
    match L, hs with
    | [w0], _ => exact ⟨w0, rfl⟩
  have hwt := fun d (hd : d ∈ tables_1) => atoms_spec (ws := Jvm.Cond.code x code maxLocals ret :: tables_1) hat d (List.mem_cons_of_mem _ hd)
  have hw : ∀ d ∈ own_ws, d.before _ s = true := hwt
  have hfit : Fit s := fun {y c} hc i hi => by
    obtain ⟨ha, rfl⟩ := Array.getElem?_eq_some_iff.mp hc
    have q := List.all_eq_true.mp ((Array.all_eq_true_iff_forall_mem.mp hF) _ (Array.getElem_mem ha)) i (List.mem_range.mpr hi)
    simpa [Array.getElem?_eq_getElem hi] using q
  obtain ⟨i0, ei0⟩ := is_v hr0
  obtain rfl : w0 = (.int i0) := Option.some.inj ei0
  obtain ⟨c1, c2⟩ := and_e hn
  obtain ⟨c3, c4⟩ := and_e c2
  obtain ⟨c5, c6⟩ := and_e c4
  obtain ⟨c7, c8⟩ := and_e c6
  obtain ⟨c9, c10⟩ := and_e c8
  obtain ⟨c11, c12⟩ := and_e c10
  obtain ⟨c13, c14⟩ := and_e c12
  obtain ⟨c15, c16⟩ := and_e c14
  obtain ⟨c17, c18⟩ := and_e c16
  obtain ⟨c19, c20⟩ := and_e c18
  obtain ⟨c21, c22⟩ := and_e c20
  obtain ⟨c23, c24⟩ := and_e c22
  obtain ⟨c25, c26⟩ := and_e c24
  obtain ⟨c27, c28⟩ := and_e c26
  obtain ⟨c29, c30⟩ := and_e c28
  obtain ⟨c31, c32⟩ := and_e c30
  obtain ⟨c33, c34⟩ := and_e c32
  obtain ⟨c35, c36⟩ := and_e c34
  obtain ⟨c37, c38⟩ := and_e c36
  obtain ⟨c39, c40⟩ := and_e c38
  obtain ⟨c41, c42⟩ := and_e c40
  obtain ⟨c43, c44⟩ := and_e c42
  obtain ⟨c45, c46⟩ := and_e c44
  obtain ⟨c47, c48⟩ := and_e c46
  obtain ⟨c49, c50⟩ := and_e c48
  obtain ⟨c51, c52⟩ := and_e c50
  obtain ⟨c53, c54⟩ := and_e c52
  obtain ⟨c55, c56⟩ := and_e c54
  obtain ⟨c57, c58⟩ := and_e c56
  obtain ⟨c59, c60⟩ := and_e c58
  obtain ⟨c61, c62⟩ := and_e c60
  obtain ⟨c63, c64⟩ := and_e c62
  obtain ⟨c65, c66⟩ := and_e c64
  obtain ⟨c67, c68⟩ := and_e c66
  obtain ⟨o1, ev_o1⟩ := exa_v c1
  have S_o1 : Sta s s.heap "com/example/railspan/railspan/game/Card" "BLUE" "Lcom/example/railspan/railspan/game/Card;" (.ref o1) := Sta.start ev_o1 (Or.inr ⟨(hw _ (gw 6 rfl)), (hw _ (gw 7 rfl))⟩)
  have E_o1 : Exa s s.heap o1 "com/example/railspan/railspan/game/Card" := Exa.start ev_o1 c1
  obtain ⟨o2, ev_o2⟩ := exa_v c3
  have S_o2 : Sta s s.heap "com/example/railspan/railspan/board/Colour" "BLUE" "Lcom/example/railspan/railspan/board/Colour;" (.ref o2) := Sta.start ev_o2 (Or.inr ⟨(hw _ (gw 15 rfl)), (hw _ (gw 16 rfl))⟩)
  have E_o2 : Exa s s.heap o2 "com/example/railspan/railspan/board/Colour" := Exa.start ev_o2 c3
  have F69 : Fld s s.heap o1 "com/example/railspan/railspan/game/Card" "colour" "Lcom/example/railspan/railspan/board/Colour;" (.ref o2) := Fld.start ((fld_at ev_o1).symm.trans (own_eqR ev_o2 c5))
  obtain ⟨o3, ev_o3⟩ := exa_v c7
  have S_o3 : Sta s s.heap "com/example/railspan/railspan/game/Card" "LOCOMOTIVE" "Lcom/example/railspan/railspan/game/Card;" (.ref o3) := Sta.start ev_o3 (Or.inr ⟨(hw _ (gw 6 rfl)), (hw _ (gw 18 rfl))⟩)
  have E_o3 : Exa s s.heap o3 "com/example/railspan/railspan/game/Card" := Exa.start ev_o3 c7
  have F70 : Fld s s.heap o1 "java/lang/Enum" "ordinal" "I" (.int (0 : Int32)) := Fld.start ((fld_at ev_o1).symm.trans (own_eqI c9))
  have F71 : Fld s s.heap o3 "java/lang/Enum" "ordinal" "I" (.int (3 : Int32)) := Fld.start ((fld_at ev_o3).symm.trans (own_eqI c11))
  have F72 : Fld s s.heap o3 "com/example/railspan/railspan/game/Card" "colour" "Lcom/example/railspan/railspan/board/Colour;" .null := Fld.start ((fld_at ev_o3).symm.trans (null_v c13))
  obtain ⟨o4, ev_o4⟩ := exa_v c15
  have S_o4 : Sta s s.heap "com/example/railspan/railspan/game/Card" "BLACK" "Lcom/example/railspan/railspan/game/Card;" (.ref o4) := Sta.start ev_o4 (Or.inr ⟨(hw _ (gw 6 rfl)), (hw _ (gw 25 rfl))⟩)
  have E_o4 : Exa s s.heap o4 "com/example/railspan/railspan/game/Card" := Exa.start ev_o4 c15
  obtain ⟨o5, ev_o5⟩ := exa_v c17
  have S_o5 : Sta s s.heap "com/example/railspan/railspan/board/Colour" "BLACK" "Lcom/example/railspan/railspan/board/Colour;" (.ref o5) := Sta.start ev_o5 (Or.inr ⟨(hw _ (gw 15 rfl)), (hw _ (gw 26 rfl))⟩)
  have E_o5 : Exa s s.heap o5 "com/example/railspan/railspan/board/Colour" := Exa.start ev_o5 c17
  have F73 : Fld s s.heap o4 "com/example/railspan/railspan/game/Card" "colour" "Lcom/example/railspan/railspan/board/Colour;" (.ref o5) := Fld.start ((fld_at ev_o4).symm.trans (own_eqR ev_o5 c19))
  have F74 : Fld s s.heap o4 "java/lang/Enum" "ordinal" "I" (.int (2 : Int32)) := Fld.start ((fld_at ev_o4).symm.trans (own_eqI c21))
  obtain ⟨o6, ev_o6⟩ := exa_v c23
  have S_o6 : Sta s s.heap "com/example/railspan/railspan/game/Card" "GREEN" "Lcom/example/railspan/railspan/game/Card;" (.ref o6) := Sta.start ev_o6 (Or.inr ⟨(hw _ (gw 6 rfl)), (hw _ (gw 28 rfl))⟩)
  have E_o6 : Exa s s.heap o6 "com/example/railspan/railspan/game/Card" := Exa.start ev_o6 c23
  obtain ⟨o7, ev_o7⟩ := exa_v c25
  have S_o7 : Sta s s.heap "com/example/railspan/railspan/board/Colour" "GREEN" "Lcom/example/railspan/railspan/board/Colour;" (.ref o7) := Sta.start ev_o7 (Or.inr ⟨(hw _ (gw 15 rfl)), (hw _ (gw 29 rfl))⟩)
  have E_o7 : Exa s s.heap o7 "com/example/railspan/railspan/board/Colour" := Exa.start ev_o7 c25
  have F75 : Fld s s.heap o6 "com/example/railspan/railspan/game/Card" "colour" "Lcom/example/railspan/railspan/board/Colour;" (.ref o7) := Fld.start ((fld_at ev_o6).symm.trans (own_eqR ev_o7 c27))
  have F76 : Fld s s.heap o6 "java/lang/Enum" "ordinal" "I" (.int (1 : Int32)) := Fld.start ((fld_at ev_o6).symm.trans (own_eqI c29))
  obtain ⟨o8, ev_o8⟩ := exa_v c31
  have S_o8 : Sta s s.heap "com/example/railspan/railspan/game/Card" "WHITE" "Lcom/example/railspan/railspan/game/Card;" (.ref o8) := Sta.start ev_o8 (Or.inr ⟨(hw _ (gw 6 rfl)), (hw _ (gw 31 rfl))⟩)
  have E_o8 : Exa s s.heap o8 "com/example/railspan/railspan/game/Card" := Exa.start ev_o8 c31
  obtain ⟨o9, ev_o9⟩ := exa_v c33
  have S_o9 : Sta s s.heap "com/example/railspan/railspan/board/Colour" "WHITE" "Lcom/example/railspan/railspan/board/Colour;" (.ref o9) := Sta.start ev_o9 (Or.inr ⟨(hw _ (gw 15 rfl)), (hw _ (gw 32 rfl))⟩)
  have E_o9 : Exa s s.heap o9 "com/example/railspan/railspan/board/Colour" := Exa.start ev_o9 c33
  have F77 : Fld s s.heap o8 "com/example/railspan/railspan/game/Card" "colour" "Lcom/example/railspan/railspan/board/Colour;" (.ref o9) := Fld.start ((fld_at ev_o8).symm.trans (own_eqR ev_o9 c35))
  have F78 : Fld s s.heap o8 "java/lang/Enum" "ordinal" "I" (.int (7 : Int32)) := Fld.start ((fld_at ev_o8).symm.trans (own_eqI c37))
  obtain ⟨o10, ev_o10⟩ := exa_v c39
  have S_o10 : Sta s s.heap "com/example/railspan/railspan/game/Card" "ORANGE" "Lcom/example/railspan/railspan/game/Card;" (.ref o10) := Sta.start ev_o10 (Or.inr ⟨(hw _ (gw 6 rfl)), (hw _ (gw 34 rfl))⟩)
  have E_o10 : Exa s s.heap o10 "com/example/railspan/railspan/game/Card" := Exa.start ev_o10 c39
  obtain ⟨o11, ev_o11⟩ := exa_v c41
  have S_o11 : Sta s s.heap "com/example/railspan/railspan/board/Colour" "ORANGE" "Lcom/example/railspan/railspan/board/Colour;" (.ref o11) := Sta.start ev_o11 (Or.inr ⟨(hw _ (gw 15 rfl)), (hw _ (gw 35 rfl))⟩)
  have E_o11 : Exa s s.heap o11 "com/example/railspan/railspan/board/Colour" := Exa.start ev_o11 c41
  have F79 : Fld s s.heap o10 "com/example/railspan/railspan/game/Card" "colour" "Lcom/example/railspan/railspan/board/Colour;" (.ref o11) := Fld.start ((fld_at ev_o10).symm.trans (own_eqR ev_o11 c43))
  have F80 : Fld s s.heap o10 "java/lang/Enum" "ordinal" "I" (.int (4 : Int32)) := Fld.start ((fld_at ev_o10).symm.trans (own_eqI c45))
  obtain ⟨o12, ev_o12⟩ := exa_v c47
  have S_o12 : Sta s s.heap "com/example/railspan/railspan/game/Card" "YELLOW" "Lcom/example/railspan/railspan/game/Card;" (.ref o12) := Sta.start ev_o12 (Or.inr ⟨(hw _ (gw 6 rfl)), (hw _ (gw 37 rfl))⟩)
  have E_o12 : Exa s s.heap o12 "com/example/railspan/railspan/game/Card" := Exa.start ev_o12 c47
  obtain ⟨o13, ev_o13⟩ := exa_v c49
  have S_o13 : Sta s s.heap "com/example/railspan/railspan/board/Colour" "YELLOW" "Lcom/example/railspan/railspan/board/Colour;" (.ref o13) := Sta.start ev_o13 (Or.inr ⟨(hw _ (gw 15 rfl)), (hw _ (gw 38 rfl))⟩)
  have E_o13 : Exa s s.heap o13 "com/example/railspan/railspan/board/Colour" := Exa.start ev_o13 c49
  have F81 : Fld s s.heap o12 "com/example/railspan/railspan/game/Card" "colour" "Lcom/example/railspan/railspan/board/Colour;" (.ref o13) := Fld.start ((fld_at ev_o12).symm.trans (own_eqR ev_o13 c51))
  have F82 : Fld s s.heap o12 "java/lang/Enum" "ordinal" "I" (.int (8 : Int32)) := Fld.start ((fld_at ev_o12).symm.trans (own_eqI c53))
  obtain ⟨o14, ev_o14⟩ := exa_v c55
  have S_o14 : Sta s s.heap "com/example/railspan/railspan/game/Card" "RED" "Lcom/example/railspan/railspan/game/Card;" (.ref o14) := Sta.start ev_o14 (Or.inr ⟨(hw _ (gw 6 rfl)), (hw _ (gw 40 rfl))⟩)
  have E_o14 : Exa s s.heap o14 "com/example/railspan/railspan/game/Card" := Exa.start ev_o14 c55
  obtain ⟨o15, ev_o15⟩ := exa_v c57
  have S_o15 : Sta s s.heap "com/example/railspan/railspan/board/Colour" "RED" "Lcom/example/railspan/railspan/board/Colour;" (.ref o15) := Sta.start ev_o15 (Or.inr ⟨(hw _ (gw 15 rfl)), (hw _ (gw 41 rfl))⟩)
  have E_o15 : Exa s s.heap o15 "com/example/railspan/railspan/board/Colour" := Exa.start ev_o15 c57
  have F83 : Fld s s.heap o14 "com/example/railspan/railspan/game/Card" "colour" "Lcom/example/railspan/railspan/board/Colour;" (.ref o15) := Fld.start ((fld_at ev_o14).symm.trans (own_eqR ev_o15 c59))
  have F84 : Fld s s.heap o14 "java/lang/Enum" "ordinal" "I" (.int (6 : Int32)) := Fld.start ((fld_at ev_o14).symm.trans (own_eqI c61))
  obtain ⟨o16, ev_o16⟩ := exa_v c63
  have S_o16 : Sta s s.heap "com/example/railspan/railspan/game/Card" "PURPLE" "Lcom/example/railspan/railspan/game/Card;" (.ref o16) := Sta.start ev_o16 (Or.inr ⟨(hw _ (gw 6 rfl)), (hw _ (gw 43 rfl))⟩)
  have E_o16 : Exa s s.heap o16 "com/example/railspan/railspan/game/Card" := Exa.start ev_o16 c63
  obtain ⟨o17, ev_o17⟩ := exa_v c65
  have S_o17 : Sta s s.heap "com/example/railspan/railspan/board/Colour" "PURPLE" "Lcom/example/railspan/railspan/board/Colour;" (.ref o17) := Sta.start ev_o17 (Or.inr ⟨(hw _ (gw 15 rfl)), (hw _ (gw 44 rfl))⟩)
  have E_o17 : Exa s s.heap o17 "com/example/railspan/railspan/board/Colour" := Exa.start ev_o17 c65
  have F85 : Fld s s.heap o16 "com/example/railspan/railspan/game/Card" "colour" "Lcom/example/railspan/railspan/board/Colour;" (.ref o17) := Fld.start ((fld_at ev_o16).symm.trans (own_eqR ev_o17 c67))
  have F86 : Fld s s.heap o16 "java/lang/Enum" "ordinal" "I" (.int (5 : Int32)) := Fld.start ((fld_at ev_o16).symm.trans (own_eqI c68))
  obtain ⟨n, o, h1, h2, h3, _, L, rfl, ⟨rfl, N⟩, hq⟩ := rm0 l s _ hw tables_1 i0 o1 o2 o3 o6 o7 o4 o5 o10 o11 o16 o17 o14 o15 o8 o9 o12 o13 s.heap s.heap.size (Old.start s) S_o1 E_o1 F69 S_o3 (Fld.ne F70 F71 (by decide +kernel)) S_o6 E_o6 F75 (Fld.ne F76 F71 (by decide +kernel)) S_o4 E_o4 F73 (Fld.ne F74 F71 (by decide +kernel)) E_o3 F72 S_o10 E_o10 F79 (Fld.ne F80 F71 (by decide +kernel)) S_o16 E_o16 F85 (Fld.ne F86 F71 (by decide +kernel)) S_o14 E_o14 F83 (Fld.ne F84 F71 (by decide +kernel)) S_o8 E_o8 F77 (Fld.ne F78 F71 (by decide +kernel)) S_o12 E_o12 F81 (Fld.ne F82 F71 (by decide +kernel)) p e ha hc hk s m _ below hf ((Spec.applies_iff_loose hf).mp happ).1 ⟨rfl, State.Warmed39.refl s, rfl⟩ trivial
  refine ⟨n, _, h1, h2, h3, hpost _ _ _ _ _ _ ⟨Cond.after_iff.mpr rfl, Cond.after_iff.mpr (eq_i res_at (Term.int_eval (1)) rfl), trivial⟩ ⟨hq.1, hq.2.1, (hq.2.2.sift fun y hy => Or.inr (N y hy)).mono (by decide) (by decide)⟩⟩
theorem main_1_1 : Claimed_1_1 := comes_1 fun _ _ _ _ _ _ h hF => ⟨h.1, hF⟩
theorem main_1_2 : Claimed_1_2 := comes_1 fun _ _ _ _ _ _ h hF => ⟨h.2.1, hF⟩
end Jvm.Pilot.@@N@@
namespace Jvm.Pilot.@@N@@
open Jvm Jvm.ClassFile Sem Op Lib Jvm.Free Jvm.Stand Jvm.Pilot.@@N@@.Jvm.D
/-! MADE BY PROGRAM (witnessworld.py) out of the Statement's table words and the real class files: 13 classes; the members and pool entries that the words name. The judged class is class 1, her method 2. -/
namespace start1
open Jvm.ClassFile
def u (s : String) : CpInfo := .utf8 (stringToUtf16 s)
/-- a pool by its gaps: so many unusable entries, then the entry; so many at the end -/
def gap : Nat → List CpInfo → List CpInfo
  | 0, r => r
  | n + 1, r => .unusable :: gap n r
def poolList (es : List (Nat × CpInfo)) (last : Nat) : List CpInfo := es.foldr (fun e r => gap e.1 (e.2 :: r)) (gap last [])
def pool (es : List (Nat × CpInfo)) (last : Nat) : Array CpInfo := ⟨poolList es last⟩
def fileOf (pool : Array CpInfo) (this : Nat) (attrs : Array Attribute := #[]) (ms : Array MethodInfo := #[]) (fl : Nat := 33) (sup : Nat := 0) (ifs : Array Nat := #[]) (fds : Array FieldInfo := #[]) : ClassFile where
  minorVersion := 0
  majorVersion := 65
  constantPool := pool
  accessFlags := fl
  thisClass := this
  superClass := sup
  interfaces := ifs
  fields := fds
  methods := ms
  attributes := attrs
def plain (name : String) (sup : Option ClassId) : Class where
  name := name
  kind := .ordinary
  loader := none
  accessFlags := 33
  super := sup
  interfaces := #[]
  cf := none
  fields := #[]
  methods := #[]
  instanceTypes := #[]
  staticTypes := #[]
  resolved := #[]
  callSites := []
  init := .initialized
  statics := none
  mirror := none

def pool0 : Array CpInfo := pool [(5, u "<init>"), (0, u "()V"), (1, .class_ 10), (1, u "java/lang/Object")] 113

def k0m0 : Method := { name := "<init>", desc := "()V", sig := { parameters := [], returnType := none }, accessFlags := 1, code := none }
/-- java/lang/Object -/
def k0 : Class := { plain "java/lang/Object" none with
  accessFlags := 33
  interfaces := #[]
  cf := some (fileOf pool0 8 #[] #[{ accessFlags := 1, nameIndex := 5, descriptorIndex := 6, attributes := #[] }] 33 0 #[] #[])
  fields := #[]
  methods := #[k0m0]
  instanceTypes := #[]
  staticTypes := #[]
  resolved := Array.replicate 124 none
  statics := none }

def pool1 : Array CpInfo := pool [(2, .class_ 4), (1, u "java/lang/Object"), (0, u "<init>"), (0, u "()V"), (0, .fieldref 8 9), (0, .class_ 10), (0, .nameAndType 11 12), (0, u "com/example/railspan/railspan/game/Card"), (0, u "BLUE"), (0, u "Lcom/example/railspan/railspan/game/Card;"), (0, .fieldref 8 14), (0, .nameAndType 15 12), (0, u "GREEN"), (0, .fieldref 8 17), (0, .nameAndType 18 12), (0, u "BLACK"), (0, .fieldref 8 20), (0, .nameAndType 21 12), (0, u "LOCOMOTIVE"), (0, .fieldref 8 23), (0, .nameAndType 24 12), (0, u "ORANGE"), (0, .fieldref 8 26), (0, .nameAndType 27 12), (0, u "PURPLE"), (0, .fieldref 8 29), (0, .nameAndType 30 12), (0, u "RED"), (0, .fieldref 8 32), (0, .nameAndType 33 12), (0, u "WHITE"), (0, .fieldref 8 35), (0, .nameAndType 36 12), (0, u "YELLOW"), (0, .integer 2147483647), (0, .methodref 39 40), (0, .class_ 41), (0, .nameAndType 42 43), (0, u "com/example/railspan/railspan/game/CardIsLocomotivePinLaw"), (0, u "pick"), (0, u "(I)Lcom/example/railspan/railspan/game/Card;"), (0, .methodref 8 45), (0, .nameAndType 46 47), (0, u "isLocomotive"), (0, u "()Z"), (0, .methodref 8 49), (0, .nameAndType 50 51), (0, u "colour"), (0, u "()Lcom/example/railspan/railspan/board/Colour;"), (3, u "law"), (0, u "(I)Z")] 2

def k1m0 : Method := { name := "<init>", desc := "()V", sig := { parameters := [], returnType := none }, accessFlags := 2, code := none }
def k1c1 : Code := { maxStack := 2, maxLocals := 1, code := method_2_code, exceptionTable := #[], attributes := #[] }
def k1m1 : Method := { name := "pick", desc := "(I)Lcom/example/railspan/railspan/game/Card;", sig := { parameters := [.int], returnType := some (.object "com/example/railspan/railspan/game/Card") }, accessFlags := 10, code := some k1c1 }
def k1c2 : Code := { maxStack := 3, maxLocals := 5, code := code, exceptionTable := #[], attributes := #[] }
def k1m2 : Method := { name := "law", desc := "(I)Z", sig := { parameters := [.int], returnType := some .boolean }, accessFlags := 9, code := some k1c2 }
/-- com/example/railspan/railspan/game/CardIsLocomotivePinLaw -/
def k1 : Class := { plain "com/example/railspan/railspan/game/CardIsLocomotivePinLaw" (some 0) with
  accessFlags := 49
  interfaces := #[]
  cf := some (fileOf pool1 39 #[] #[{ accessFlags := 2, nameIndex := 5, descriptorIndex := 6, attributes := #[] }, { accessFlags := 10, nameIndex := 42, descriptorIndex := 43, attributes := #[] }, { accessFlags := 9, nameIndex := 55, descriptorIndex := 56, attributes := #[] }] 49 2 #[] #[])
  fields := #[]
  methods := #[k1m0, k1m1, k1m2]
  instanceTypes := #[]
  staticTypes := #[]
  resolved := Array.replicate 59 none
  statics := none }

def pool2 : Array CpInfo := pool [(1, .class_ 2), (0, u "java/lang/constant/Constable"), (0, .class_ 4), (0, u "java/lang/Object")] 6

/-- java/lang/constant/Constable -/
def k2 : Class := { plain "java/lang/constant/Constable" (some 0) with
  accessFlags := 1537
  interfaces := #[]
  cf := some (fileOf pool2 1 #[] #[] 1537 3 #[] #[])
  fields := #[]
  methods := #[]
  instanceTypes := #[]
  staticTypes := #[]
  resolved := Array.replicate 11 none
  statics := none }

def pool3 : Array CpInfo := pool [(1, .class_ 2), (0, u "java/lang/Comparable"), (0, .class_ 4), (0, u "java/lang/Object")] 7

/-- java/lang/Comparable -/
def k3 : Class := { plain "java/lang/Comparable" (some 0) with
  accessFlags := 1537
  interfaces := #[]
  cf := some (fileOf pool3 1 #[] #[] 1537 3 #[] #[])
  fields := #[]
  methods := #[]
  instanceTypes := #[]
  staticTypes := #[]
  resolved := Array.replicate 12 none
  statics := none }

def pool4 : Array CpInfo := pool [(1, .class_ 2), (0, u "java/io/Serializable"), (0, .class_ 4), (0, u "java/lang/Object")] 2

/-- java/io/Serializable -/
def k4 : Class := { plain "java/io/Serializable" (some 0) with
  accessFlags := 1537
  interfaces := #[]
  cf := some (fileOf pool4 1 #[] #[] 1537 3 #[] #[])
  fields := #[]
  methods := #[]
  instanceTypes := #[]
  staticTypes := #[]
  resolved := Array.replicate 7 none
  statics := none }

def pool5 : Array CpInfo := pool [(2, .class_ 4), (1, u "java/lang/Enum"), (0, u "name"), (0, u "Ljava/lang/String;"), (2, u "ordinal"), (0, u "I"), (1, .class_ 14), (1, u "java/lang/Object"), (4, u "hash"), (86, .class_ 108), (1, u "java/lang/Enum$EnumDesc"), (2, .class_ 112), (0, u "java/lang/constant/Constable"), (0, .class_ 114), (0, u "java/lang/Comparable"), (0, .class_ 116), (0, u "java/io/Serializable")] 87

/-- java/lang/Enum -/
def k5 : Class := { plain "java/lang/Enum" (some 0) with
  accessFlags := 1057
  interfaces := #[2, 3, 4]
  cf := some (fileOf pool5 2 #[.nestMembers #[106]] #[] 1057 12 #[111, 113, 115] #[{ accessFlags := 18, nameIndex := 5, descriptorIndex := 6, attributes := #[] }, { accessFlags := 18, nameIndex := 9, descriptorIndex := 10, attributes := #[] }, { accessFlags := 2, nameIndex := 19, descriptorIndex := 10, attributes := #[] }])
  fields := #[{ name := "name", type := (.object "java/lang/String"), accessFlags := 18, slot := 0, constantValue := 0 }, { name := "ordinal", type := .int, accessFlags := 18, slot := 1, constantValue := 0 }, { name := "hash", type := .int, accessFlags := 2, slot := 2, constantValue := 0 }]
  methods := #[]
  instanceTypes := #[(.object "java/lang/String"), .int, .int]
  staticTypes := #[]
  resolved := Array.replicate 204 none
  statics := none }

def pool6 : Array CpInfo := pool [(1, .class_ 2), (0, u "com/example/railspan/railspan/game/Card"), (2, u "BLUE"), (0, u "Lcom/example/railspan/railspan/game/Card;"), (2, u "GREEN"), (2, u "BLACK"), (2, u "LOCOMOTIVE"), (2, u "ORANGE"), (2, u "PURPLE"), (2, u "RED"), (2, u "WHITE"), (2, u "YELLOW"), (2, u "$VALUES"), (0, u "[Lcom/example/railspan/railspan/game/Card;"), (6, .class_ 43), (1, u "java/lang/Enum"), (6, .fieldref 1 51), (0, .nameAndType 52 53), (0, u "colour"), (0, u "Lcom/example/railspan/railspan/board/Colour;"), (2, u "isLocomotive"), (0, u "()Z"), (55, u "COLOUR_COPIES"), (0, u "I"), (2, u "LOCOMOTIVE_COPIES"), (7, u "()Lcom/example/railspan/railspan/board/Colour;")] 13

def k6c0 : Code := { maxStack := 1, maxLocals := 1, code := prog_19_method_4_code, exceptionTable := #[], attributes := #[] }
def k6m0 : Method := { name := "colour", desc := "()Lcom/example/railspan/railspan/board/Colour;", sig := { parameters := [], returnType := some (.object "com/example/railspan/railspan/board/Colour") }, accessFlags := 1, code := some k6c0 }
def k6c1 : Code := { maxStack := 1, maxLocals := 1, code := prog_19_method_5_code, exceptionTable := #[], attributes := #[] }
def k6m1 : Method := { name := "isLocomotive", desc := "()Z", sig := { parameters := [], returnType := some .boolean }, accessFlags := 1, code := some k6c1 }
/-- com/example/railspan/railspan/game/Card -/
def k6 : Class := { plain "com/example/railspan/railspan/game/Card" (some 5) with
  accessFlags := 16433
  interfaces := #[]
  cf := some (fileOf pool6 1 #[] #[{ accessFlags := 1, nameIndex := 52, descriptorIndex := 125, attributes := #[] }, { accessFlags := 1, nameIndex := 56, descriptorIndex := 57, attributes := #[] }] 16433 41 #[] #[{ accessFlags := 16409, nameIndex := 5, descriptorIndex := 6, attributes := #[] }, { accessFlags := 16409, nameIndex := 9, descriptorIndex := 6, attributes := #[] }, { accessFlags := 16409, nameIndex := 12, descriptorIndex := 6, attributes := #[] }, { accessFlags := 16409, nameIndex := 15, descriptorIndex := 6, attributes := #[] }, { accessFlags := 16409, nameIndex := 18, descriptorIndex := 6, attributes := #[] }, { accessFlags := 16409, nameIndex := 21, descriptorIndex := 6, attributes := #[] }, { accessFlags := 16409, nameIndex := 24, descriptorIndex := 6, attributes := #[] }, { accessFlags := 16409, nameIndex := 27, descriptorIndex := 6, attributes := #[] }, { accessFlags := 16409, nameIndex := 30, descriptorIndex := 6, attributes := #[] }, { accessFlags := 26, nameIndex := 113, descriptorIndex := 114, attributes := #[] }, { accessFlags := 26, nameIndex := 117, descriptorIndex := 114, attributes := #[] }, { accessFlags := 18, nameIndex := 52, descriptorIndex := 53, attributes := #[] }, { accessFlags := 4122, nameIndex := 33, descriptorIndex := 34, attributes := #[] }])
  fields := #[{ name := "BLUE", type := (.object "com/example/railspan/railspan/game/Card"), accessFlags := 16409, slot := 0, constantValue := 0 }, { name := "GREEN", type := (.object "com/example/railspan/railspan/game/Card"), accessFlags := 16409, slot := 1, constantValue := 0 }, { name := "BLACK", type := (.object "com/example/railspan/railspan/game/Card"), accessFlags := 16409, slot := 2, constantValue := 0 }, { name := "LOCOMOTIVE", type := (.object "com/example/railspan/railspan/game/Card"), accessFlags := 16409, slot := 3, constantValue := 0 }, { name := "ORANGE", type := (.object "com/example/railspan/railspan/game/Card"), accessFlags := 16409, slot := 4, constantValue := 0 }, { name := "PURPLE", type := (.object "com/example/railspan/railspan/game/Card"), accessFlags := 16409, slot := 5, constantValue := 0 }, { name := "RED", type := (.object "com/example/railspan/railspan/game/Card"), accessFlags := 16409, slot := 6, constantValue := 0 }, { name := "WHITE", type := (.object "com/example/railspan/railspan/game/Card"), accessFlags := 16409, slot := 7, constantValue := 0 }, { name := "YELLOW", type := (.object "com/example/railspan/railspan/game/Card"), accessFlags := 16409, slot := 8, constantValue := 0 }, { name := "COLOUR_COPIES", type := .int, accessFlags := 26, slot := 9, constantValue := 0 }, { name := "LOCOMOTIVE_COPIES", type := .int, accessFlags := 26, slot := 10, constantValue := 0 }, { name := "colour", type := (.object "com/example/railspan/railspan/board/Colour"), accessFlags := 18, slot := 3, constantValue := 0 }, { name := "$VALUES", type := (.array (.object "com/example/railspan/railspan/game/Card")), accessFlags := 4122, slot := 11, constantValue := 0 }]
  methods := #[k6m0, k6m1]
  instanceTypes := #[(.object "java/lang/String"), .int, .int, (.object "com/example/railspan/railspan/board/Colour")]
  staticTypes := #[(.object "com/example/railspan/railspan/game/Card"), (.object "com/example/railspan/railspan/game/Card"), (.object "com/example/railspan/railspan/game/Card"), (.object "com/example/railspan/railspan/game/Card"), (.object "com/example/railspan/railspan/game/Card"), (.object "com/example/railspan/railspan/game/Card"), (.object "com/example/railspan/railspan/game/Card"), (.object "com/example/railspan/railspan/game/Card"), (.object "com/example/railspan/railspan/game/Card"), .int, .int, (.array (.object "com/example/railspan/railspan/game/Card"))]
  resolved := Array.replicate 139 none
  statics := some 0 }

def pool7 : Array CpInfo := pool [(1, .class_ 2), (0, u "com/example/railspan/railspan/board/Colour"), (2, u "BLUE"), (0, u "Lcom/example/railspan/railspan/board/Colour;"), (2, u "GREEN"), (2, u "BLACK"), (2, u "ORANGE"), (2, u "PURPLE"), (2, u "RED"), (2, u "WHITE"), (2, u "YELLOW"), (2, u "GREY"), (2, u "$VALUES"), (0, u "[Lcom/example/railspan/railspan/board/Colour;"), (6, .class_ 43), (1, u "java/lang/Enum"), (8, u "letter"), (0, u "C")] 69

/-- com/example/railspan/railspan/board/Colour -/
def k7 : Class := { plain "com/example/railspan/railspan/board/Colour" (some 5) with
  accessFlags := 16433
  interfaces := #[]
  cf := some (fileOf pool7 1 #[] #[] 16433 41 #[] #[{ accessFlags := 16409, nameIndex := 5, descriptorIndex := 6, attributes := #[] }, { accessFlags := 16409, nameIndex := 9, descriptorIndex := 6, attributes := #[] }, { accessFlags := 16409, nameIndex := 12, descriptorIndex := 6, attributes := #[] }, { accessFlags := 16409, nameIndex := 15, descriptorIndex := 6, attributes := #[] }, { accessFlags := 16409, nameIndex := 18, descriptorIndex := 6, attributes := #[] }, { accessFlags := 16409, nameIndex := 21, descriptorIndex := 6, attributes := #[] }, { accessFlags := 16409, nameIndex := 24, descriptorIndex := 6, attributes := #[] }, { accessFlags := 16409, nameIndex := 27, descriptorIndex := 6, attributes := #[] }, { accessFlags := 16409, nameIndex := 30, descriptorIndex := 6, attributes := #[] }, { accessFlags := 18, nameIndex := 52, descriptorIndex := 53, attributes := #[] }, { accessFlags := 4122, nameIndex := 33, descriptorIndex := 34, attributes := #[] }])
  fields := #[{ name := "BLUE", type := (.object "com/example/railspan/railspan/board/Colour"), accessFlags := 16409, slot := 0, constantValue := 0 }, { name := "GREEN", type := (.object "com/example/railspan/railspan/board/Colour"), accessFlags := 16409, slot := 1, constantValue := 0 }, { name := "BLACK", type := (.object "com/example/railspan/railspan/board/Colour"), accessFlags := 16409, slot := 2, constantValue := 0 }, { name := "ORANGE", type := (.object "com/example/railspan/railspan/board/Colour"), accessFlags := 16409, slot := 3, constantValue := 0 }, { name := "PURPLE", type := (.object "com/example/railspan/railspan/board/Colour"), accessFlags := 16409, slot := 4, constantValue := 0 }, { name := "RED", type := (.object "com/example/railspan/railspan/board/Colour"), accessFlags := 16409, slot := 5, constantValue := 0 }, { name := "WHITE", type := (.object "com/example/railspan/railspan/board/Colour"), accessFlags := 16409, slot := 6, constantValue := 0 }, { name := "YELLOW", type := (.object "com/example/railspan/railspan/board/Colour"), accessFlags := 16409, slot := 7, constantValue := 0 }, { name := "GREY", type := (.object "com/example/railspan/railspan/board/Colour"), accessFlags := 16409, slot := 8, constantValue := 0 }, { name := "letter", type := .char, accessFlags := 18, slot := 3, constantValue := 0 }, { name := "$VALUES", type := (.array (.object "com/example/railspan/railspan/board/Colour")), accessFlags := 4122, slot := 9, constantValue := 0 }]
  methods := #[]
  instanceTypes := #[(.object "java/lang/String"), .int, .int, .char]
  staticTypes := #[(.object "com/example/railspan/railspan/board/Colour"), (.object "com/example/railspan/railspan/board/Colour"), (.object "com/example/railspan/railspan/board/Colour"), (.object "com/example/railspan/railspan/board/Colour"), (.object "com/example/railspan/railspan/board/Colour"), (.object "com/example/railspan/railspan/board/Colour"), (.object "com/example/railspan/railspan/board/Colour"), (.object "com/example/railspan/railspan/board/Colour"), (.object "com/example/railspan/railspan/board/Colour"), (.array (.object "com/example/railspan/railspan/board/Colour"))]
  resolved := Array.replicate 123 none
  statics := some 1 }

def pool8 : Array CpInfo := pool [(1, u "java/lang/Cloneable"), (0, .class_ 1), (0, u "java/lang/Object"), (0, .class_ 3)] 3

/-- java/lang/Cloneable -/
def k8 : Class := { plain "java/lang/Cloneable" (some 0) with
  accessFlags := 1537
  interfaces := #[]
  cf := some (fileOf pool8 2 #[] #[] 1537 4 #[] #[])
  fields := #[]
  methods := #[]
  instanceTypes := #[]
  staticTypes := #[]
  resolved := Array.replicate 8 none
  statics := none }

/-- the primitive byte -/
def k9 : Class := { plain "byte" none with kind := .primitive 'B', accessFlags := 0x411 }
/-- [B -/
def k10 : Class := { plain "[B" (some 0) with kind := .array 9 .byte, interfaces := #[8, 4], accessFlags := 1041 }

/-- the primitive int -/
def k11 : Class := { plain "int" none with kind := .primitive 'I', accessFlags := 0x411 }
/-- [I -/
def k12 : Class := { plain "[I" (some 0) with kind := .array 11 .int, interfaces := #[8, 4], accessFlags := 1041 }

def heap : Heap := #[{ cls := 6, slots := #[.ref 2, .ref 7, .ref 5, .ref 4, .ref 11, .ref 17, .ref 15, .ref 9, .ref 13, .int 0, .int 0, .null], vm := .statics 6 },
  { cls := 7, slots := #[.ref 3, .ref 8, .ref 6, .ref 12, .ref 18, .ref 16, .ref 10, .ref 14, .null, .null], vm := .statics 7 },
  { cls := 6, slots := #[.null, .int 0, .int 0, .ref 3], vm := .none },
  { cls := 7, slots := #[.null, .int 0, .int 0, .int 0], vm := .none },
  { cls := 6, slots := #[.null, .int 3, .int 0, .null], vm := .none },
  { cls := 6, slots := #[.null, .int 2, .int 0, .ref 6], vm := .none },
  { cls := 7, slots := #[.null, .int 0, .int 0, .int 0], vm := .none },
  { cls := 6, slots := #[.null, .int 1, .int 0, .ref 8], vm := .none },
  { cls := 7, slots := #[.null, .int 0, .int 0, .int 0], vm := .none },
  { cls := 6, slots := #[.null, .int 7, .int 0, .ref 10], vm := .none },
  { cls := 7, slots := #[.null, .int 0, .int 0, .int 0], vm := .none },
  { cls := 6, slots := #[.null, .int 4, .int 0, .ref 12], vm := .none },
  { cls := 7, slots := #[.null, .int 0, .int 0, .int 0], vm := .none },
  { cls := 6, slots := #[.null, .int 8, .int 0, .ref 14], vm := .none },
  { cls := 7, slots := #[.null, .int 0, .int 0, .int 0], vm := .none },
  { cls := 6, slots := #[.null, .int 6, .int 0, .ref 16], vm := .none },
  { cls := 7, slots := #[.null, .int 0, .int 0, .int 0], vm := .none },
  { cls := 6, slots := #[.null, .int 5, .int 0, .ref 18], vm := .none },
  { cls := 7, slots := #[.null, .int 0, .int 0, .int 0], vm := .none }]
def classes : Array Class := #[k0, k1, k2, k3, k4, k5, k6, k7, k8, k9, k10, k11, k12]
def interned : List (Array UInt16 × Addr) := []
def slotsUsed : Nat := 90
def theMethod : MethodId := ⟨1, 2⟩
def args0 : Array Value := #[.int 3]
def aboutOver (below : List Frame) : State where
  vm := { classes := classes, interned := interned.toArray }
  heap := heap
  slotsUsed := slotsUsed
  threads := #[{ frames := .invoking theMethod args0 :: below }]
def below0 : List Frame := [.native { method := ⟨0, 0⟩, args := #[] }]
def about1 : State := aboutOver below0
def p0 : Program := .bare "" "" ""
def e0 : Env := launch0.env 0 0 0
theorem w_frames : about1.frames = Frame.invoking theMethod args0 :: below0 := rfl
set_option maxRecDepth 65536 in
theorem w_args : argsFit about1.vm theMethod args0 = true := by decide +kernel
set_option maxRecDepth 65536 in
theorem w_heap : heapFits about1 = true := by decide +kernel
set_option maxRecDepth 65536 in
theorem w_runnable : about1.curStatus? = some .runnable := by decide +kernel
set_option maxRecDepth 65536 in
theorem w_alone : about1.alone = true := by decide +kernel
set_option maxRecDepth 65536 in
theorem w_named : about1.methodNamed? x = some theMethod := by decide +kernel
set_option maxRecDepth 65536 in
theorem w_hears : about1.hears theMethod below0 = true := by decide +kernel
set_option maxRecDepth 65536 in
theorem w_ripe : about1.ripe theMethod args0 below0 = true := by decide +kernel
theorem w_running : about1.status = .running := rfl
set_option maxRecDepth 65536 in
theorem w_room : about1.hasRoom e0.platform room_1 = true :=
  launch0.hasRoom_least _ room_1 (by decide +kernel) (by decide +kernel) (by decide +kernel) (by decide +kernel) (by decide +kernel) (by decide +kernel)
theorem allAtoms_all (ts : List Jvm.Cond) (a : Array Jvm.Value) (st : Jvm.State) : (allAtoms ts).before a st = ts.all (fun c => c.before a st) := by
  induction ts with
  | nil => rfl
  | cons c t ih =>
    show (Jvm.Cond.and c (allAtoms t)).before a st = _
    rw [Jvm.Cond.before_and, ih, List.all_cons]
def words1 : List Jvm.Cond := Jvm.Cond.code x code maxLocals ret :: tables_1
/-- a 'code' word, met by the world's own term for the bytes: nothing is compared byte by byte -/
theorem code_word {y : MethodName} {bytes : ByteArray} {mx : Nat} {rt : Option FieldType} {a : Array Value} {s : State} {m : MethodId} {meth : Method} {c : Code} (h1 : s.methodNamed? y = some m) (h2 : s.vm.method? m = some meth) (h3 : meth.code = some c) (h4 : c.code = bytes)
    (h5 : (c.maxLocals == mx && c.exceptionTable.isEmpty && decide (c.maxStack ≤ mostOperands) && decide (meth.sig.returnType = rt) && !meth.locks && decide (parseMethodDescriptor y.desc = some meth.sig)) = true) : (Jvm.Cond.code y bytes mx rt).before a s = true := by
  simp only [Bool.and_eq_true, beq_iff_eq, Bool.not_eq_true', decide_eq_true_eq] at h5
  obtain ⟨⟨⟨⟨⟨g1, g2⟩, g3⟩, g4⟩, g5⟩, g6⟩ := h5
  simp [Cond.before, Cond.holds, Cond.value, h1, h2, h3, h4, g1, g2, g3, g4, g5, g6]
def isCode : Jvm.Cond → Bool
  | .code _ _ _ _ => true
  | _ => false
theorem all_split {L : List Jvm.Cond} {P : Jvm.Cond → Bool} (h1 : L.all (fun c => isCode c || P c) = true) (h2 : ∀ c ∈ L.filter isCode, P c = true) : L.all P = true := by
  refine List.all_eq_true.mpr fun c hc => ?_
  have h := List.all_eq_true.mp h1 c hc
  rcases Bool.eq_false_or_eq_true (isCode c) with hi | hi
  · exact h2 c (List.mem_filter.mpr ⟨hc, hi⟩)
  · simpa [hi] using h
set_option maxRecDepth 65536 in
theorem w_c0 : (Jvm.Cond.code x code maxLocals ret).before args0 about1 = true := code_word (m := ⟨1, 2⟩) (meth := k1m2) (c := k1c2) (by decide +kernel) rfl rfl rfl (by decide +kernel)
set_option maxRecDepth 65536 in
theorem w_c1 : (Jvm.Cond.code ({ cls := "com/example/railspan/railspan/game/CardIsLocomotivePinLaw", name := "pick", desc := "(I)Lcom/example/railspan/railspan/game/Card;" } : Jvm.MethodName) method_2_code (1 : Nat) (Option.some (Jvm.ClassFile.FieldType.object "com/example/railspan/railspan/game/Card"))).before args0 about1 = true := code_word (m := ⟨1, 1⟩) (meth := k1m1) (c := k1c1) (by decide +kernel) rfl rfl rfl (by decide +kernel)
set_option maxRecDepth 65536 in
theorem w_c2 : (Jvm.Cond.code ({ cls := "com/example/railspan/railspan/game/Card", name := "isLocomotive", desc := "()Z" } : Jvm.MethodName) prog_19_method_5_code (1 : Nat) (Option.some Jvm.ClassFile.FieldType.boolean)).before args0 about1 = true := code_word (m := ⟨6, 1⟩) (meth := k6m1) (c := k6c1) (by decide +kernel) rfl rfl rfl (by decide +kernel)
set_option maxRecDepth 65536 in
theorem w_c3 : (Jvm.Cond.code ({ cls := "com/example/railspan/railspan/game/Card", name := "colour", desc := "()Lcom/example/railspan/railspan/board/Colour;" } : Jvm.MethodName) prog_19_method_4_code (1 : Nat) (Option.some (Jvm.ClassFile.FieldType.object "com/example/railspan/railspan/board/Colour"))).before args0 about1 = true := code_word (m := ⟨6, 0⟩) (meth := k6m0) (c := k6c0) (by decide +kernel) rfl rfl rfl (by decide +kernel)
def codes1 : List Jvm.Cond := [Jvm.Cond.code x code maxLocals ret, Jvm.Cond.code ({ cls := "com/example/railspan/railspan/game/CardIsLocomotivePinLaw", name := "pick", desc := "(I)Lcom/example/railspan/railspan/game/Card;" } : Jvm.MethodName) method_2_code (1 : Nat) (Option.some (Jvm.ClassFile.FieldType.object "com/example/railspan/railspan/game/Card")), Jvm.Cond.code ({ cls := "com/example/railspan/railspan/game/Card", name := "isLocomotive", desc := "()Z" } : Jvm.MethodName) prog_19_method_5_code (1 : Nat) (Option.some Jvm.ClassFile.FieldType.boolean), Jvm.Cond.code ({ cls := "com/example/railspan/railspan/game/Card", name := "colour", desc := "()Lcom/example/railspan/railspan/board/Colour;" } : Jvm.MethodName) prog_19_method_4_code (1 : Nat) (Option.some (Jvm.ClassFile.FieldType.object "com/example/railspan/railspan/board/Colour"))]
set_option maxRecDepth 65536 in
theorem codes_eq : words1.filter isCode = codes1 := rfl
theorem w_codes : ∀ c ∈ words1.filter isCode, c.before args0 about1 = true := by
  rw [codes_eq]
  intro c hc
  simp only [codes1, List.mem_cons, List.not_mem_nil, or_false] at hc
  rcases hc with rfl | rfl | rfl | rfl
  · exact w_c0
  · exact w_c1
  · exact w_c2
  · exact w_c3
set_option maxRecDepth 65536 in
theorem w_t1 : (words1.take 24).all (fun c => isCode c || c.before args0 about1) = true := by decide +kernel
set_option maxRecDepth 65536 in
theorem w_t2 : (words1.drop 24).all (fun c => isCode c || c.before args0 about1) = true := by decide +kernel
theorem w_tables : (allAtoms (Jvm.Cond.code x code maxLocals ret :: tables_1)).before args0 about1 = true := by
  rw [allAtoms_all]
  show words1.all (fun c => c.before args0 about1) = true
  refine all_split ?_ w_codes
  rw [← List.take_append_drop 24 words1, List.all_append, w_t1, w_t2]
  rfl
set_option maxRecDepth 65536 in
theorem w_case : (Jvm.Cond.and given_1 narrow_1).before args0 about1 = true := by decide +kernel
theorem w_applies : (headSpec (Jvm.Cond.code x code maxLocals ret :: tables_1) room_1).applies x e0.platform about1 = true :=
  (Spec.applies_iff w_frames).mpr ⟨w_running, w_runnable, w_alone, w_named, w_hears, w_ripe, w_room, w_tables⟩
theorem atStart : AtStart classFile x code maxLocals ret World_1 tables_1 room_1 Calls_1 rest_1 Pre_1 launch0 p0 e0 about1 theMethod args0 below0 :=
  ⟨lists_1, trivial, launch0.admits_env _ _ _, launch0.least_env, fairChoices_fair.cas, fairChoices_fair.clock, w_frames, w_args, w_heap, w_applies, trivial, trivial, w_case⟩
end start1
theorem witness_1 : WitnessClaimed_1 := ⟨start1.p0, start1.e0, start1.about1, start1.theMethod, start1.args0, start1.below0, start1.atStart⟩
end Jvm.Pilot.@@N@@
