import JvmDerived
import JvmDerived.Pilot.@@N@@Statement
import JvmDerived.Pilot.@@N@@Code
set_option linter.unusedVariables false
set_option linter.unusedSimpArgs false
@@BLOCK:NumsL.lean.txt@@
namespace Jvm.RoadKit
open Sem ClassFile Op Lib Jvm.Stand Jvm.Free Jvm.LawKit
section New
variable {p : Program} {l : Launch} {e : Env} {R : Room} {s : State} {m : MethodId} {args : Array Value} {below : List Frame} {meth : Method} {c : Code} {T : State} {locs : List Loc} {cells slots : Nat}
theorem retI (X : Stand p l e R s m args below meth c T locs cells slots) (hx : p.tables.exec = Jvm.exec) {pc : Nat} {Ls : Array Slot} {z : Int32} {rest : List Value} (hret : meth.sig.returnType = some .int) (hd : decode c.code pc = .ok (.ireturn, 1)) {fs : List Frame}
    (hl : ∀ (f : JFrame) (acts : List Action), f.method = m → f.locked = none → f.entered = [] → (doReturn e (T.setTop f) acts (some (.int z))).1 = T.setFrames fs) : Steps p.tables e below (T.setTop (mkF m pc Ls (.int z :: rest))) (T.setFrames fs) := by
  have hm' : T.vm.method? m = some meth := X.method'
  have hn : narrow .int (.int z) = .int z := rfl
  show Steps p.tables e below (T.setTop { method := m, pc := pc, locals := Ls, stack := _ :: rest, locked := none }) _
  jvm_step X.here [X.here.top, hx, hd, hm', hret, hn]
  first | (intro acts; rw [hl _ acts rfl rfl rfl]) | rw [hl _ _ rfl rfl rfl]
  exact Steps.refl _
end New
end Jvm.RoadKit
namespace Jvm.Pilot.@@N@@
open Jvm Jvm.ClassFile Sem Op Lib Jvm.Free Jvm.Stand Jvm.LawKit Jvm.RoadKit Bundle Jvm.Pilot.@@N@@.Jvm.D
theorem own_eqI {args : Array Value} {s : State} {a : Term} {k : Int32} (h : (Cond.eq a (.int k)).value args s none s [] = some true) : a.eval args s none [] s = some (.int k) := by
  obtain ⟨x, y, hx, hy, k1, k2⟩ := cmp_v (Or.inl h)
  obtain rfl : Value.int k = y := Option.some.inj ((Term.int_eval k).symm.trans hy)
  obtain ⟨z, rfl⟩ : ∃ z, x = .int z := k2
  have hz : z = k := gotT (Cond.eq_ints hx hy) h
  rw [hz] at hx; exact hx
theorem own_eqR {args : Array Value} {s : State} {a b : Term} {y : Addr} (hb : b.eval args s none [] s = some (.ref y)) (h : (Cond.eq a b).value args s none s [] = some true) : a.eval args s none [] s = some (.ref y) := by
  obtain ⟨x, y', hx, hy, k1, k2⟩ := cmp_v (Or.inl h)
  obtain rfl : Value.ref y = y' := Option.some.inj (hb.symm.trans hy)
  have hr : x.isRef = true := k2.2
  have hz : x = .ref y := gotT (eq_R hx hy hr rfl) h
  rw [hz] at hx; exact hx
theorem own_z {Z : State} {n0 : Nat} {h : Heap} (O : Old Z n0 h) : n0 ≤ h.size := O.1 ▸ O.2.1
theorem own_len {args : Array Value} {s : State} {t : Term} {x : Addr} {cl : Cell} {ty : FieldType} {n : Int32} (ev : t.eval args s none [] s = some (.ref x)) (A : Arr s s.heap x cl ty) (h : (Term.length t).eval args s none [] s = some (.int n)) : cl.slots.size < 2 ^ 31 ∧ cl.slots.size.toInt32 = n := by
  have ha : s.arrayAt? x = some cl := IntBox.arrayAt_of A.1 A.2.1 A.2.2
  simpa [Term.eval, ev, ha] using h
theorem own_elem {args : Array Value} {s : State} {t : Term} {x : Addr} {cl : Cell} {ty : FieldType} {j : Int32} {v : Value} {i : Nat} (ev : t.eval args s none [] s = some (.ref x)) (A : Arr s s.heap x cl ty) (h : (Term.elem t (.int j)).eval args s none [] s = some v) (hi : j.toNatClampNeg = i) : cl.slots[i]? = some v := by
  have q := (elem_in h ev (Term.int_eval j) A.1).2
  rw [hi] at q; exact q
def own_ws : List Jvm.Cond := tables_1
theorem gw (i : Nat) {d : Jvm.Cond} (h : own_ws[i]? = some d) : d ∈ own_ws := List.mem_of_getElem? h
theorem own_and3 (x : Int32) : x &&& 3 = 0 ∨ x &&& 3 = 1 ∨ x &&& 3 = 2 ∨ x &&& 3 = 3 := by
  have h := Jvm.Kit.i32_mask x 3 (k := 2) (by decide) (by decide +kernel)
  have e0 : (0 : Int32).toInt = 0 := by decide +kernel
  have e1 : (1 : Int32).toInt = 1 := by decide +kernel
  have e2 : (2 : Int32).toInt = 2 := by decide +kernel
  have e3 : (3 : Int32).toInt = 3 := by decide +kernel
  simp only [← Int32.toInt_inj, e0, e1, e2, e3]
  omega
theorem d1_0 : decode prog_60_method_1_code 0 = .ok (.aload_n 0, 1) := by decide +kernel
theorem d1_1 : decode prog_60_method_1_code 1 = .ok (.invokespecial 3, 3) := by decide +kernel
theorem d1_4 : decode prog_60_method_1_code 4 = .ok (.aload_n 0, 1) := by decide +kernel
theorem d1_5 : decode prog_60_method_1_code 5 = .ok (.iconst 1, 1) := by decide +kernel
theorem d1_6 : decode prog_60_method_1_code 6 = .ok (.anewarray 9, 3) := by decide +kernel
theorem d1_9 : decode prog_60_method_1_code 9 = .ok (.putfield 11, 3) := by decide +kernel
theorem d1_12 : decode prog_60_method_1_code 12 = .ok (.return_, 1) := by decide +kernel
abbrev M_0 : MethodName := ⟨"com/example/vestry/vestry/Ints", "<init>", "()V"⟩
theorem pn_0 : plainName "com/example/vestry/vestry/Ints" = true := by first | (simp [plainName, overriddenIn]; done) | decide +kernel
theorem pd_0 : parseMethodDescriptor "()V" = some ⟨[], none⟩ := by decide +kernel
theorem d3_0 : decode prog_60_method_3_code 0 = .ok (.aload_n 0, 1) := by decide +kernel
theorem d3_1 : decode prog_60_method_3_code 1 = .ok (.getfield 15, 3) := by decide +kernel
theorem d3_4 : decode prog_60_method_3_code 4 = .ok (.bipush 12, 2) := by decide +kernel
theorem d3_6 : decode prog_60_method_3_code 6 = .ok (.iushr, 1) := by decide +kernel
theorem d3_7 : decode prog_60_method_3_code 7 = .ok (.istore_n 2, 1) := by decide +kernel
theorem d3_8 : decode prog_60_method_3_code 8 = .ok (.iload_n 2, 1) := by decide +kernel
theorem d3_9 : decode prog_60_method_3_code 9 = .ok (.aload_n 0, 1) := by decide +kernel
theorem d3_10 : decode prog_60_method_3_code 10 = .ok (.getfield 11, 3) := by decide +kernel
theorem d3_13 : decode prog_60_method_3_code 13 = .ok (.arraylength, 1) := by decide +kernel
theorem d3_14 : decode prog_60_method_3_code 14 = .ok (.if_icmp .ne 24, 3) := by decide +kernel
theorem d3_38 : decode prog_60_method_3_code 38 = .ok (.aload_n 0, 1) := by decide +kernel
theorem d3_39 : decode prog_60_method_3_code 39 = .ok (.getfield 11, 3) := by decide +kernel
theorem d3_42 : decode prog_60_method_3_code 42 = .ok (.iload_n 2, 1) := by decide +kernel
theorem d3_43 : decode prog_60_method_3_code 43 = .ok (.aaload, 1) := by decide +kernel
theorem d3_44 : decode prog_60_method_3_code 44 = .ok (.ifnonnull 14, 3) := by decide +kernel
theorem d3_47 : decode prog_60_method_3_code 47 = .ok (.aload_n 0, 1) := by decide +kernel
theorem d3_48 : decode prog_60_method_3_code 48 = .ok (.getfield 11, 3) := by decide +kernel
theorem d3_51 : decode prog_60_method_3_code 51 = .ok (.iload_n 2, 1) := by decide +kernel
theorem d3_52 : decode prog_60_method_3_code 52 = .ok (.sipush 4096, 3) := by decide +kernel
theorem d3_55 : decode prog_60_method_3_code 55 = .ok (.newarray .int, 2) := by decide +kernel
theorem d3_57 : decode prog_60_method_3_code 57 = .ok (.aastore, 1) := by decide +kernel
theorem d3_58 : decode prog_60_method_3_code 58 = .ok (.aload_n 0, 1) := by decide +kernel
theorem d3_59 : decode prog_60_method_3_code 59 = .ok (.getfield 11, 3) := by decide +kernel
theorem d3_62 : decode prog_60_method_3_code 62 = .ok (.iload_n 2, 1) := by decide +kernel
theorem d3_63 : decode prog_60_method_3_code 63 = .ok (.aaload, 1) := by decide +kernel
theorem d3_64 : decode prog_60_method_3_code 64 = .ok (.aload_n 0, 1) := by decide +kernel
theorem d3_65 : decode prog_60_method_3_code 65 = .ok (.getfield 15, 3) := by decide +kernel
theorem d3_68 : decode prog_60_method_3_code 68 = .ok (.sipush 4095, 3) := by decide +kernel
theorem d3_71 : decode prog_60_method_3_code 71 = .ok (.iand, 1) := by decide +kernel
theorem d3_72 : decode prog_60_method_3_code 72 = .ok (.iload_n 1, 1) := by decide +kernel
theorem d3_73 : decode prog_60_method_3_code 73 = .ok (.iastore, 1) := by decide +kernel
theorem d3_74 : decode prog_60_method_3_code 74 = .ok (.aload_n 0, 1) := by decide +kernel
theorem d3_75 : decode prog_60_method_3_code 75 = .ok (.dup, 1) := by decide +kernel
theorem d3_76 : decode prog_60_method_3_code 76 = .ok (.getfield 15, 3) := by decide +kernel
theorem d3_79 : decode prog_60_method_3_code 79 = .ok (.iconst 1, 1) := by decide +kernel
theorem d3_80 : decode prog_60_method_3_code 80 = .ok (.iadd, 1) := by decide +kernel
theorem d3_81 : decode prog_60_method_3_code 81 = .ok (.putfield 15, 3) := by decide +kernel
theorem d3_84 : decode prog_60_method_3_code 84 = .ok (.return_, 1) := by decide +kernel
abbrev M_1 : MethodName := ⟨"com/example/vestry/vestry/Ints", "add", "(I)V"⟩
theorem pd_1 : parseMethodDescriptor "(I)V" = some ⟨[.int], none⟩ := by decide +kernel
theorem d4_0 : decode prog_60_method_4_code 0 = .ok (.aload_n 0, 1) := by decide +kernel
theorem d4_1 : decode prog_60_method_4_code 1 = .ok (.getfield 11, 3) := by decide +kernel
theorem d4_4 : decode prog_60_method_4_code 4 = .ok (.iload_n 1, 1) := by decide +kernel
theorem d4_5 : decode prog_60_method_4_code 5 = .ok (.bipush 12, 2) := by decide +kernel
theorem d4_7 : decode prog_60_method_4_code 7 = .ok (.iushr, 1) := by decide +kernel
theorem d4_8 : decode prog_60_method_4_code 8 = .ok (.aaload, 1) := by decide +kernel
theorem d4_9 : decode prog_60_method_4_code 9 = .ok (.iload_n 1, 1) := by decide +kernel
theorem d4_10 : decode prog_60_method_4_code 10 = .ok (.sipush 4095, 3) := by decide +kernel
theorem d4_13 : decode prog_60_method_4_code 13 = .ok (.iand, 1) := by decide +kernel
theorem d4_14 : decode prog_60_method_4_code 14 = .ok (.iaload, 1) := by decide +kernel
theorem d4_15 : decode prog_60_method_4_code 15 = .ok (.ireturn, 1) := by decide +kernel
abbrev M_2 : MethodName := ⟨"com/example/vestry/vestry/Ints", "get", "(I)I"⟩
theorem pd_2 : parseMethodDescriptor "(I)I" = some ⟨[.int], some .int⟩ := by decide +kernel
theorem d5_0 : decode prog_60_method_5_code 0 = .ok (.aload_n 0, 1) := by decide +kernel
theorem d5_1 : decode prog_60_method_5_code 1 = .ok (.getfield 11, 3) := by decide +kernel
theorem d5_4 : decode prog_60_method_5_code 4 = .ok (.iload_n 1, 1) := by decide +kernel
theorem d5_5 : decode prog_60_method_5_code 5 = .ok (.bipush 12, 2) := by decide +kernel
theorem d5_7 : decode prog_60_method_5_code 7 = .ok (.iushr, 1) := by decide +kernel
theorem d5_8 : decode prog_60_method_5_code 8 = .ok (.aaload, 1) := by decide +kernel
theorem d5_9 : decode prog_60_method_5_code 9 = .ok (.iload_n 1, 1) := by decide +kernel
theorem d5_10 : decode prog_60_method_5_code 10 = .ok (.sipush 4095, 3) := by decide +kernel
theorem d5_13 : decode prog_60_method_5_code 13 = .ok (.iand, 1) := by decide +kernel
theorem d5_14 : decode prog_60_method_5_code 14 = .ok (.iload_n 2, 1) := by decide +kernel
theorem d5_15 : decode prog_60_method_5_code 15 = .ok (.iastore, 1) := by decide +kernel
theorem d5_16 : decode prog_60_method_5_code 16 = .ok (.return_, 1) := by decide +kernel
abbrev M_3 : MethodName := ⟨"com/example/vestry/vestry/Ints", "set", "(II)V"⟩
theorem pd_3 : parseMethodDescriptor "(II)V" = some ⟨[.int, .int], none⟩ := by decide +kernel
theorem pn_1 : plainName "com/example/vestry/vestry/IntsGetPinLaw" = true := by first | (simp [plainName, overriddenIn]; done) | decide +kernel
theorem ef_rm1_2 (m : MethodId) (x0 : Addr) : entryFrame m #[(.ref x0)] 1 = mkF m 0 #[.val (.ref x0)] [] := by first | (simp [entryFrame, mkF, argsToLocals, Value.category]; done) | rfl
def Q1_2 (Z : State) (a1 : Addr) (h0 : Heap) (n0 : Nat) (v : Option Value) (h : Heap) (L : List Loc) : Prop := (∃ (b3 : Addr) (k3 : ClassId), v = none ∧ Fr n0 L ∧ h0.size ≤ b3 ∧ b3 < h.size ∧ Keep h0 h [a1] ∧ Exa Z h a1 "com/example/vestry/vestry/Ints" ∧ Fld Z h a1 "com/example/vestry/vestry/Ints" "blocks" "[[I" (.ref b3) ∧ Fld Z h a1 "com/example/vestry/vestry/Ints" "size" "I" (.int (0 : Int32)) ∧ Exa Z h b3 "[[I" ∧ Arv Z h b3 k3 (.array .int) (1 : Int32) [] .null ∧ OvrA Z k3 .int "[I")
set_option maxRecDepth 65536 in
set_option maxHeartbeats 40000000 in
theorem rm1_2 (l : Launch) (Z : State) (a0 : Array Value) (hw : ∀ d ∈ own_ws, d.before a0 Z = true) (ws : List Jvm.Cond) (a1 : Addr) (h0 : Heap) (n0 : Nat) (O0 : Old Z n0 h0) (E_4 : Exa Z h0 a1 "com/example/vestry/vestry/Ints") (F5 : Fld Z h0 a1 "com/example/vestry/vestry/Ints" "blocks" "[[I" .null) (F6 : Fld Z h0 a1 "com/example/vestry/vestry/Ints" "size" "I" (.int (0 : Int32))) (g_a1 : n0 ≤ a1) (lt_a1 : a1 < h0.size) :
    MetFree l M_0 (head1 (Jvm.Cond.code M_0 prog_60_method_1_code 1 none :: ws) ({ frames := 1, cells := 1, slots := 1, locals := 12 } : Room)) (fun a U => a = #[(.ref a1)] ∧ Z.Warmed39 U.vm ∧ U.heap = h0) (fun _ _ _ _ _ => True) (fun _ U o U' => ∃ v L, o = .returned v ∧ Q1_2 Z a1 h0 n0 v U'.heap L ∧ FrameEnd U o U' L ({ frames := 1, cells := 1, slots := 1, locals := 12 } : Room).cells ({ frames := 1, cells := 1, slots := 1, locals := 12 } : Room).slots) := by
  refine MetFree.of_bodySF (plainFor_of_name pn_0) hisR ?_
  intro p e s m args below meth c s₁ Bd hml0 hP hK
  obtain ⟨rfl, hZ, hh⟩ := hP
  have hx := Bd.exec
  have hby := Bd.bytes
  have hml : c.maxLocals = 1 := hml0
  have hown : s.vm.findClass "com/example/vestry/vestry/Ints" = some m.cls := findClass_of_methodNamed Bd.named
  have hnm := (name_of_methodNamed Bd.named Bd.method).1
  have X0 : Stand p l e ({ frames := 1, cells := 1, slots := 1, locals := 12 } : Room) s m #[(.ref a1)] below meth c s₁ [] 0 0 := Stand.of_body Bd
  have e0 : s₁.heap = h0 := by rw [← hh, Bd.state]; rfl
  have N0 := Fr.nil n0
  have pre0 : ∀ t, Steps p.tables e below (s₁.setTop (mkF m 0 #[.val (.ref a1)] [])) t → Steps p.tables e below (s₁.setTop (entryFrame m #[(.ref a1)] 1)) t := fun t k => castTop (ef_rm1_2 m a1) k
  obtain ⟨T2, X2, e2, st2⟩ := initO X0 hx hZ hown (hw _ (gw 6 rfl)) (hw _ (gw 7 rfl)) (hw _ (gw 8 rfl)) e0 (g := (mkF m 1 #[.val (.ref a1)] [(.ref a1)])) rfl (by rw [hml]; rfl) rfl (hb hby d1_1) (by decide) (W := 0) (by show 2 * 0 + _ ≤ _; exact Nat.le_of_eq rfl) (by decide)
  obtain ⟨T3, h3, k3, X3, e3, E3, A3, Ex3, Ov3, st3⟩ := newRA X2 hx hZ hown (ty := .int) (C := "[I") (by decide +kernel) (hw _ (gw 9 rfl)) (hw _ (gw 10 rfl)) e2 (g := (mkF m 6 #[.val (.ref a1)] [(.int (1 : Int32)), (.ref a1)])) rfl (hb hby d1_6) rfl (by decide +kernel) (cap := 1) (by decide +kernel) (by decide) (by decide) (by decide) (ad := "[[I") (by decide +kernel)
  obtain ⟨b3, g3⟩ : ∃ z, z = h0.size := ⟨_, rfl⟩
  rw [← g3] at A3 Ex3 st3
  have O3 : Old Z n0 h3 := O0.ext E3
  have bd_b3 : h0.size ≤ b3 := Nat.le_of_eq g3.symm
  have g_b3 : n0 ≤ b3 := Nat.le_trans (own_z O0) bd_b3
  have sz_b3 : h0.size ≤ b3 := Nat.le_trans (Nat.le_refl _) bd_b3
  have lt_b3 : b3 < h3.size := A3.lt
  have V3 : Arv Z h3 b3 k3 (.array .int) (1 : Int32) [] .null := Arv.new A3 (by decide +kernel)
  have f7 : Fld Z h3 a1 "com/example/vestry/vestry/Ints" "blocks" "[[I" .null := (Fld.ext E3 F5)
  have f8 : Exa Z h3 a1 "com/example/vestry/vestry/Ints" := (Exa.ext E3 E_4)
  obtain ⟨T9, h9, X9, e9, W9, st9⟩ := putF X3 hx hZ hown (host := "") (Or.inl (hw _ (gw 11 rfl))) Via.refl e3 f7 f8 (Or.inl (hw _ (gw 12 rfl))) (hw _ (gw 1 rfl)) (ty := (.array (.array .int))) (by decide) rfl rfl (g := (mkF m 9 #[.val (.ref a1)] [(.ref b3), (.ref a1)])) rfl rfl (hb hby d1_9)
  have O9 : Old Z n0 h9 := O3.wr W9 g_a1
  have Fw9 : Fld Z h9 a1 "com/example/vestry/vestry/Ints" "blocks" "[[I" (.ref b3) := Fld.same W9 f7
  have N9 := Fr.snoc X9 N0 g_a1
  obtain ⟨fs, hr, hrun, hended, hW, hsame⟩ := X9.leave (v := none) (fun _ => rfl)
  have f10 : Exa Z h9 a1 "com/example/vestry/vestry/Ints" := (Exa.wr W9 f8)
  have f11 : Fld Z h9 a1 "com/example/vestry/vestry/Ints" "size" "I" (.int (0 : Int32)) := (Fld.other W9 (Fld.ext E3 F6) (Or.inr (slot_ne (Or.inl (hw _ (gw 19 rfl))) (Or.inl (hw _ (gw 12 rfl))) (by decide) (t := .int) (t' := (.array (.array .int))) (by decide) (by decide))))
  have f12 : Exa Z h9 b3 "[[I" := (Exa.wr W9 Ex3)
  have f13 : Arv Z h9 b3 k3 (.array .int) (1 : Int32) [] .null := (V3.other W9 (Ne.symm (Nat.ne_of_lt (Nat.lt_of_lt_of_le lt_a1 bd_b3))))
  refine ⟨_, _, pre0 _ ?_, hrun, hended, _, _, rfl, ?_, ⟨_, rfl⟩, hW, hsame.mono (by decide) (by decide)⟩
  · show Steps p.tables e below (s₁.setTop (mkF m 0 #[.val (.ref a1)] [])) _
    refine XS.aloadN X0.here hx rfl (hb hby d1_0) rfl rfl ?_
    show Steps p.tables e below (s₁.setTop (mkF m 1 #[.val (.ref a1)] [(.ref a1)])) _
    refine st2 _ ?_
    show Steps p.tables e below (T2.setTop (mkF m 4 #[.val (.ref a1)] [])) _
    refine XS.aloadN X2.here hx rfl (hb hby d1_4) rfl rfl ?_
    show Steps p.tables e below (T2.setTop (mkF m 5 #[.val (.ref a1)] [(.ref a1)])) _
    refine XS.iconst X2.here hx rfl (hb hby d1_5) ?_
    show Steps p.tables e below (T2.setTop (mkF m 6 #[.val (.ref a1)] [(.int (1 : Int32)), (.ref a1)])) _
    refine st3 _ ?_
    show Steps p.tables e below (T3.setTop (mkF m 9 #[.val (.ref a1)] [(.ref b3), (.ref a1)])) _
    refine st9 _ ?_
    show Steps p.tables e below (T9.setTop (mkF m 12 #[.val (.ref a1)] [])) _
    exact X9.returnOut hx Bd.returns (hb hby d1_12) hr
  · show Q1_2 Z _ h0 n0 _ T9.heap _
    rw [e9]
    exact ⟨b3, k3, rfl, N9, sz_b3, (Nat.lt_of_lt_of_le lt_b3 (Keep.of_wr W9).1), (((Keep.refl h0 [a1]).ext E3).wr W9 (Or.inl (List.mem_of_getElem? (i := 0) rfl))), f10, Fw9, f11, f12, f13, Ov3⟩
theorem ef_rm3_3 (m : MethodId) (x0 : Addr) (x1 : Int32) : entryFrame m #[(.ref x0), (.int x1)] 3 = mkF m 0 #[.val (.ref x0), .val (.int x1), .unset] [] := by first | (simp [entryFrame, mkF, argsToLocals, Value.category]; done) | rfl
def Q3_3 (Z : State) (a1 : Addr) (p2 : Int32) (a5 : Addr) (k8 : ClassId) (h0 : Heap) (n0 : Nat) (v : Option Value) (h : Heap) (L : List Loc) : Prop := (∃ (b14 : Addr) (k14 : ClassId), v = none ∧ Fr n0 L ∧ h0.size ≤ b14 ∧ b14 < h.size ∧ Keep h0 h [a5, a1] ∧ Exa Z h a5 "[[I" ∧ Arv Z h a5 k8 (.array .int) (1 : Int32) [(.ref b14)] .null ∧ OvrA Z k8 .int "[I" ∧ Exa Z h a1 "com/example/vestry/vestry/Ints" ∧ Fld Z h a1 "com/example/vestry/vestry/Ints" "blocks" "[[I" (.ref a5) ∧ Fld Z h a1 "com/example/vestry/vestry/Ints" "size" "I" (.int (1 : Int32)) ∧ Exa Z h b14 "[I" ∧ Arv Z h b14 k14 .int (4096 : Int32) [(.int p2)] (.int (0 : Int32)))
set_option maxRecDepth 65536 in
set_option maxHeartbeats 40000000 in
theorem rm3_3 (l : Launch) (Z : State) (a0 : Array Value) (hw : ∀ d ∈ own_ws, d.before a0 Z = true) (ws : List Jvm.Cond) (a1 : Addr) (p2 : Int32) (a5 : Addr) (k8 : ClassId) (h0 : Heap) (n0 : Nat) (O0 : Old Z n0 h0) (F3 : Fld Z h0 a1 "com/example/vestry/vestry/Ints" "size" "I" (.int (0 : Int32))) (F6 : Fld Z h0 a1 "com/example/vestry/vestry/Ints" "blocks" "[[I" (.ref a5)) (V9 : Arv Z h0 a5 k8 (.array .int) (1 : Int32) [] .null) (Ov18 : OvrA Z k8 .int "[I") (g_a5 : n0 ≤ a5) (E_20 : Exa Z h0 a5 "[[I") (hne21 : a1 ≠ a5) (lt_a5 : a5 < h0.size) (lt_a1 : a1 < h0.size) (E_33 : Exa Z h0 a1 "com/example/vestry/vestry/Ints") (g_a1 : n0 ≤ a1) :
    MetFree l M_1 (head1 (Jvm.Cond.code M_1 prog_60_method_3_code 3 none :: ws) ({ frames := 0, cells := 1, slots := 4096, locals := 0 } : Room)) (fun a U => a = #[(.ref a1), (.int p2)] ∧ Z.Warmed39 U.vm ∧ U.heap = h0) (fun _ _ _ _ _ => True) (fun _ U o U' => ∃ v L, o = .returned v ∧ Q3_3 Z a1 p2 a5 k8 h0 n0 v U'.heap L ∧ FrameEnd U o U' L ({ frames := 0, cells := 1, slots := 4096, locals := 0 } : Room).cells ({ frames := 0, cells := 1, slots := 4096, locals := 0 } : Room).slots) := by
  refine MetFree.of_bodySF (plainFor_of_name pn_0) hisR ?_
  intro p e s m args below meth c s₁ Bd hml0 hP hK
  obtain ⟨rfl, hZ, hh⟩ := hP
  have hx := Bd.exec
  have hby := Bd.bytes
  have hml : c.maxLocals = 3 := hml0
  have hown : s.vm.findClass "com/example/vestry/vestry/Ints" = some m.cls := findClass_of_methodNamed Bd.named
  have hnm := (name_of_methodNamed Bd.named Bd.method).1
  have X0 : Stand p l e ({ frames := 0, cells := 1, slots := 4096, locals := 0 } : Room) s m #[(.ref a1), (.int p2)] below meth c s₁ [] 0 0 := Stand.of_body Bd
  have e0 : s₁.heap = h0 := by rw [← hh, Bd.state]; rfl
  have N0 := Fr.nil n0
  have pre0 : ∀ t, Steps p.tables e below (s₁.setTop (mkF m 0 #[.val (.ref a1), .val (.int p2), .unset] [])) t → Steps p.tables e below (s₁.setTop (entryFrame m #[(.ref a1), (.int p2)] 3)) t := fun t k => castTop (ef_rm3_3 m a1 p2) k
  obtain ⟨T4, X4, e4, st4⟩ := getF X0 hx hZ hown (host := "") (Or.inl (hw _ (gw 18 rfl))) Via.refl e0 F3 (g := (mkF m 1 #[.val (.ref a1), .val (.int p2), .unset] [(.ref a1)])) rfl rfl (hb hby d3_1)
  obtain ⟨T7, X7, e7, st7⟩ := getF X4 hx hZ hown (host := "") (Or.inl (hw _ (gw 11 rfl))) Via.refl e4 F6 (g := (mkF m 10 #[.val (.ref a1), .val (.int p2), .val (.int (0 : Int32))] [(.ref a1), (.int (0 : Int32))])) rfl rfl (hb hby d3_10)
  obtain ⟨cl10, Ar10, -, Sz10, Nn10, -, -⟩ := id V9
  obtain ⟨T11, X11, e11, st11⟩ := getF X7 hx hZ hown (host := "") (Or.inl (hw _ (gw 11 rfl))) Via.refl e7 F6 (g := (mkF m 39 #[.val (.ref a1), .val (.int p2), .val (.int (0 : Int32))] [(.ref a1)])) rfl rfl (hb hby d3_39)
  obtain ⟨cl12, Ar12, -, Sz12, -, Hh12, -⟩ := id V9
  have hin12 : ¬ ((0 : Int32) < 0 ∨ cl12.slots.size ≤ ((0 : Int32)).toNatClampNeg) := inb_of Sz12 ⟨by decide +kernel, by decide +kernel⟩
  have hat12 : cl12.slots[((0 : Int32)).toNatClampNeg]? = some .null := Has.at Hh12 hin12 rfl
  obtain ⟨T13, X13, e13, st13⟩ := getF X11 hx hZ hown (host := "") (Or.inl (hw _ (gw 11 rfl))) Via.refl e11 F6 (g := (mkF m 48 #[.val (.ref a1), .val (.int p2), .val (.int (0 : Int32))] [(.ref a1)])) rfl rfl (hb hby d3_48)
  obtain ⟨T14, h14, k14, X14, e14, E14, A14, Ex14, st14⟩ := newPE X13 hx hZ (hw _ (gw 20 rfl)) e13 (g := (mkF m 55 #[.val (.ref a1), .val (.int p2), .val (.int (0 : Int32))] [(.int (4096 : Int32)), (.int (0 : Int32)), (.ref a5)])) rfl (hb hby d3_55) rfl (by decide +kernel) (cap := 4096) (by decide +kernel) (by decide) (by decide) (by decide) (ad := "[I") (by decide +kernel)
  obtain ⟨b14, g14⟩ : ∃ z, z = h0.size := ⟨_, rfl⟩
  rw [← g14] at A14 Ex14 st14
  have O14 : Old Z n0 h14 := O0.ext E14
  have bd_b14 : h0.size ≤ b14 := Nat.le_of_eq g14.symm
  have g_b14 : n0 ≤ b14 := Nat.le_trans (own_z O0) bd_b14
  have sz_b14 : h0.size ≤ b14 := Nat.le_trans (Nat.le_refl _) bd_b14
  have lt_b14 : b14 < h14.size := A14.lt
  have V14 : Arv Z h14 b14 k14 .int (4096 : Int32) [] (.int (0 : Int32)) := Arv.new A14 (by decide +kernel)
  have f15 : Arv Z h14 a5 k8 (.array .int) (1 : Int32) [] .null := (V9.ext E14)
  have Vp16 : Arv Z h14 a5 k8 (.array .int) (1 : Int32) [.null] .null := f15.pad (pad_rep [] .null 1)
  obtain ⟨cl17, Ar17, qk17, Sz17, Nn17, Hh17, Gg17⟩ := id Vp16
  have hin17 : ¬ ((0 : Int32) < 0 ∨ cl17.slots.size ≤ ((0 : Int32)).toNatClampNeg) := inb_of Sz17 ⟨by decide +kernel, by decide +kernel⟩
  obtain ⟨T19, h19, X19, e19, W19, st19⟩ := stR X14 hx hZ e14 Ar17 (j := (0 : Int32)) hin17 rfl (Sto.ofVA Ar17 qk17 Ov18 (Ins.self Ex14)) (g := (mkF m 57 #[.val (.ref a1), .val (.int p2), .val (.int (0 : Int32))] [(.ref b14), (.int (0 : Int32)), (.ref a5)])) rfl rfl (hb hby d3_57)
  have O19 : Old Z n0 h19 := O14.wr W19 g_a5
  have V19 : Arv Z h19 a5 k8 (.array .int) (1 : Int32) [(.ref b14)] .null := Arv.set Ar17 qk17 Sz17 Nn17 Hh17 Gg17 rfl W19 0 rfl (Nat.le_of_ble_eq_true rfl)
  have N19 := Fr.snoc X19 N0 g_a5
  have f22 : Fld Z h19 a1 "com/example/vestry/vestry/Ints" "blocks" "[[I" (.ref a5) := (Fld.other W19 (Fld.ext E14 F6) (Or.inl hne21))
  obtain ⟨T23, X23, e23, st23⟩ := getF X19 hx hZ hown (host := "") (Or.inl (hw _ (gw 11 rfl))) Via.refl e19 f22 (g := (mkF m 59 #[.val (.ref a1), .val (.int p2), .val (.int (0 : Int32))] [(.ref a1)])) rfl rfl (hb hby d3_59)
  obtain ⟨cl24, Ar24, -, Sz24, -, Hh24, -⟩ := id V19
  have hin24 : ¬ ((0 : Int32) < 0 ∨ cl24.slots.size ≤ ((0 : Int32)).toNatClampNeg) := inb_of Sz24 ⟨by decide +kernel, by decide +kernel⟩
  have hat24 : cl24.slots[((0 : Int32)).toNatClampNeg]? = some (.ref b14) := Has.at Hh24 hin24 rfl
  have f25 : Fld Z h19 a1 "com/example/vestry/vestry/Ints" "size" "I" (.int (0 : Int32)) := (Fld.other W19 (Fld.ext E14 F3) (Or.inl hne21))
  obtain ⟨T26, X26, e26, st26⟩ := getF X23 hx hZ hown (host := "") (Or.inl (hw _ (gw 18 rfl))) Via.refl e23 f25 (g := (mkF m 65 #[.val (.ref a1), .val (.int p2), .val (.int (0 : Int32))] [(.ref a1), (.ref b14)])) rfl rfl (hb hby d3_65)
  have f27 : Arv Z h19 b14 k14 .int (4096 : Int32) [] (.int (0 : Int32)) := (V14.other W19 (Ne.symm (Nat.ne_of_lt (Nat.lt_of_lt_of_le lt_a5 bd_b14))))
  have Vp28 : Arv Z h19 b14 k14 .int (4096 : Int32) [(.int (0 : Int32))] (.int (0 : Int32)) := f27.pad (pad_rep [] (.int (0 : Int32)) 1)
  obtain ⟨cl29, Ar29, qk29, Sz29, Nn29, Hh29, Gg29⟩ := id Vp28
  have hin29 : ¬ ((0 : Int32) < 0 ∨ cl29.slots.size ≤ ((0 : Int32)).toNatClampNeg) := inb_of Sz29 ⟨by decide +kernel, by decide +kernel⟩
  obtain ⟨T30, h30, X30, e30, W30, st30⟩ := stI X26 hx hZ e26 Ar29 (j := (0 : Int32)) hin29 (g := (mkF m 73 #[.val (.ref a1), .val (.int p2), .val (.int (0 : Int32))] [(.int p2), (.int (0 : Int32)), (.ref b14)])) rfl rfl (hb hby d3_73)
  have O30 : Old Z n0 h30 := O19.wr W30 g_b14
  have V30 : Arv Z h30 b14 k14 .int (4096 : Int32) [(.int p2)] (.int (0 : Int32)) := Arv.set Ar29 qk29 Sz29 Nn29 Hh29 Gg29 rfl W30 0 rfl (Nat.le_of_ble_eq_true rfl)
  have N30 := Fr.snoc X30 N19 g_b14
  have f31 : Fld Z h30 a1 "com/example/vestry/vestry/Ints" "size" "I" (.int (0 : Int32)) := (Fld.other W30 f25 (Or.inl (Nat.ne_of_lt (Nat.lt_of_lt_of_le lt_a1 bd_b14))))
  obtain ⟨T32, X32, e32, st32⟩ := getF X30 hx hZ hown (host := "") (Or.inl (hw _ (gw 18 rfl))) Via.refl e30 f31 (g := (mkF m 76 #[.val (.ref a1), .val (.int p2), .val (.int (0 : Int32))] [(.ref a1), (.ref a1)])) rfl rfl (hb hby d3_76)
  have f34 : Exa Z h30 a1 "com/example/vestry/vestry/Ints" := (Exa.wr W30 (Exa.wr W19 (Exa.ext E14 E_33)))
  obtain ⟨T35, h35, X35, e35, W35, st35⟩ := putF X32 hx hZ hown (host := "") (Or.inl (hw _ (gw 18 rfl))) Via.refl e32 f31 f34 (Or.inl (hw _ (gw 19 rfl))) (hw _ (gw 1 rfl)) (ty := .int) (by decide) rfl rfl (g := (mkF m 81 #[.val (.ref a1), .val (.int p2), .val (.int (0 : Int32))] [(.int (1 : Int32)), (.ref a1)])) rfl rfl (hb hby d3_81)
  have O35 : Old Z n0 h35 := O30.wr W35 g_a1
  have Fw35 : Fld Z h35 a1 "com/example/vestry/vestry/Ints" "size" "I" (.int (1 : Int32)) := Fld.same W35 f31
  have N35 := Fr.snoc X35 N30 g_a1
  obtain ⟨fs, hr, hrun, hended, hW, hsame⟩ := X35.leave (v := none) (fun _ => rfl)
  have f36 : Exa Z h35 a5 "[[I" := (Exa.wr W35 (Exa.wr W30 (Exa.wr W19 (Exa.ext E14 E_20))))
  have f37 : Arv Z h35 a5 k8 (.array .int) (1 : Int32) [(.ref b14)] .null := ((V19.other W30 (Nat.ne_of_lt (Nat.lt_of_lt_of_le lt_a5 bd_b14))).other W35 (Ne.symm hne21))
  have f38 : Exa Z h35 a1 "com/example/vestry/vestry/Ints" := (Exa.wr W35 f34)
  have f39 : Fld Z h35 a1 "com/example/vestry/vestry/Ints" "blocks" "[[I" (.ref a5) := (Fld.other W35 (Fld.other W30 f22 (Or.inl (Nat.ne_of_lt (Nat.lt_of_lt_of_le lt_a1 bd_b14)))) (Or.inr (slot_ne (Or.inl (hw _ (gw 12 rfl))) (Or.inl (hw _ (gw 19 rfl))) (by decide) (t := (.array (.array .int))) (t' := .int) (by decide) (by decide))))
  have f40 : Exa Z h35 b14 "[I" := (Exa.wr W35 (Exa.wr W30 (Exa.wr W19 Ex14)))
  have f41 : Arv Z h35 b14 k14 .int (4096 : Int32) [(.int p2)] (.int (0 : Int32)) := (V30.other W35 (Ne.symm (Nat.ne_of_lt (Nat.lt_of_lt_of_le lt_a1 bd_b14))))
  refine ⟨_, _, pre0 _ ?_, hrun, hended, _, _, rfl, ?_, ⟨_, rfl⟩, hW, hsame.mono (by decide) (by decide)⟩
  · show Steps p.tables e below (s₁.setTop (mkF m 0 #[.val (.ref a1), .val (.int p2), .unset] [])) _
    refine XS.aloadN X0.here hx rfl (hb hby d3_0) rfl rfl ?_
    show Steps p.tables e below (s₁.setTop (mkF m 1 #[.val (.ref a1), .val (.int p2), .unset] [(.ref a1)])) _
    refine st4 _ ?_
    show Steps p.tables e below (T4.setTop (mkF m 4 #[.val (.ref a1), .val (.int p2), .unset] [(.int (0 : Int32))])) _
    refine XS.bipush X4.here hx rfl (hb hby d3_4) ?_
    show Steps p.tables e below (T4.setTop (mkF m 6 #[.val (.ref a1), .val (.int p2), .unset] [(.int (12 : Int32)), (.int (0 : Int32))])) _
    refine XS.iushr X4.here hx rfl (hb hby d3_6) rfl ?_
    show Steps p.tables e below (T4.setTop (mkF m 7 #[.val (.ref a1), .val (.int p2), .unset] [(.int (((0 : Int32).toUInt32 >>> ((12 : Int32) &&& 31).toUInt32).toInt32))])) _
    rw [(by decide +kernel : (((0 : Int32).toUInt32 >>> ((12 : Int32) &&& 31).toUInt32).toInt32) = (0 : Int32))]
    show Steps p.tables e below (T4.setTop (mkF m 7 #[.val (.ref a1), .val (.int p2), .unset] [(.int (0 : Int32))])) _
    refine XS.istoreN X4.here hx rfl (hb hby d3_7) rfl (l' := #[.val (.ref a1), .val (.int p2), .val (.int (0 : Int32))]) rfl ?_
    show Steps p.tables e below (T4.setTop (mkF m 8 #[.val (.ref a1), .val (.int p2), .val (.int (0 : Int32))] [])) _
    refine XS.iloadN X4.here hx rfl (hb hby d3_8) rfl ?_
    show Steps p.tables e below (T4.setTop (mkF m 9 #[.val (.ref a1), .val (.int p2), .val (.int (0 : Int32))] [(.int (0 : Int32))])) _
    refine XS.aloadN X4.here hx rfl (hb hby d3_9) rfl rfl ?_
    show Steps p.tables e below (T4.setTop (mkF m 10 #[.val (.ref a1), .val (.int p2), .val (.int (0 : Int32))] [(.ref a1), (.int (0 : Int32))])) _
    refine st7 _ ?_
    show Steps p.tables e below (T7.setTop (mkF m 13 #[.val (.ref a1), .val (.int p2), .val (.int (0 : Int32))] [(.ref a5), (.int (0 : Int32))])) _
    refine X7.arraylength hx (by rw [e7]; exact Ar10.1) (State.isArrayOf_alike hZ.alike Ar10.2.1) (g := (mkF m 13 #[.val (.ref a1), .val (.int p2), .val (.int (0 : Int32))] [(.ref a5), (.int (0 : Int32))])) rfl rfl (hb hby d3_13) _ ?_
    rw [len_of Sz10 Nn10]
    show Steps p.tables e below (T7.setTop (mkF m 14 #[.val (.ref a1), .val (.int p2), .val (.int (0 : Int32))] [(.int (1 : Int32)), (.int (0 : Int32))])) _
    refine XS.icmpYes X7.here hx rfl (pc0 := 14) (pc' := 38) rfl (hb hby d3_14) rfl (feq (by decide +kernel : ¬ ((0 : Int32) = (1 : Int32)))).2 (by decide) (by decide) ?_
    show Steps p.tables e below (T7.setTop (mkF m 38 #[.val (.ref a1), .val (.int p2), .val (.int (0 : Int32))] [])) _
    refine XS.aloadN X7.here hx rfl (hb hby d3_38) rfl rfl ?_
    show Steps p.tables e below (T7.setTop (mkF m 39 #[.val (.ref a1), .val (.int p2), .val (.int (0 : Int32))] [(.ref a1)])) _
    refine st11 _ ?_
    show Steps p.tables e below (T11.setTop (mkF m 42 #[.val (.ref a1), .val (.int p2), .val (.int (0 : Int32))] [(.ref a5)])) _
    refine XS.iloadN X11.here hx rfl (hb hby d3_42) rfl ?_
    show Steps p.tables e below (T11.setTop (mkF m 43 #[.val (.ref a1), .val (.int p2), .val (.int (0 : Int32))] [(.int (0 : Int32)), (.ref a5)])) _
    refine X11.aaload hx (j := (0 : Int32)) (v := .null) (by rw [e11]; exact Ar12.1) (State.isArrayOf_alike hZ.alike Ar12.2.1) rfl Ar12.2.2 hin12 hat12 (g := (mkF m 43 #[.val (.ref a1), .val (.int p2), .val (.int (0 : Int32))] [(.int (0 : Int32)), (.ref a5)])) rfl rfl (hb hby d3_43) _ ?_
    show Steps p.tables e below (T11.setTop (mkF m 44 #[.val (.ref a1), .val (.int p2), .val (.int (0 : Int32))] [.null])) _
    refine XS.ifnonnullNo X11.here hx rfl (hb hby d3_44) rfl ?_
    show Steps p.tables e below (T11.setTop (mkF m 47 #[.val (.ref a1), .val (.int p2), .val (.int (0 : Int32))] [])) _
    refine XS.aloadN X11.here hx rfl (hb hby d3_47) rfl rfl ?_
    show Steps p.tables e below (T11.setTop (mkF m 48 #[.val (.ref a1), .val (.int p2), .val (.int (0 : Int32))] [(.ref a1)])) _
    refine st13 _ ?_
    show Steps p.tables e below (T13.setTop (mkF m 51 #[.val (.ref a1), .val (.int p2), .val (.int (0 : Int32))] [(.ref a5)])) _
    refine XS.iloadN X13.here hx rfl (hb hby d3_51) rfl ?_
    show Steps p.tables e below (T13.setTop (mkF m 52 #[.val (.ref a1), .val (.int p2), .val (.int (0 : Int32))] [(.int (0 : Int32)), (.ref a5)])) _
    refine XS.sipush X13.here hx rfl (hb hby d3_52) ?_
    show Steps p.tables e below (T13.setTop (mkF m 55 #[.val (.ref a1), .val (.int p2), .val (.int (0 : Int32))] [(.int (4096 : Int32)), (.int (0 : Int32)), (.ref a5)])) _
    refine st14 _ ?_
    show Steps p.tables e below (T14.setTop (mkF m 57 #[.val (.ref a1), .val (.int p2), .val (.int (0 : Int32))] [(.ref b14), (.int (0 : Int32)), (.ref a5)])) _
    refine st19 _ ?_
    show Steps p.tables e below (T19.setTop (mkF m 58 #[.val (.ref a1), .val (.int p2), .val (.int (0 : Int32))] [])) _
    refine XS.aloadN X19.here hx rfl (hb hby d3_58) rfl rfl ?_
    show Steps p.tables e below (T19.setTop (mkF m 59 #[.val (.ref a1), .val (.int p2), .val (.int (0 : Int32))] [(.ref a1)])) _
    refine st23 _ ?_
    show Steps p.tables e below (T23.setTop (mkF m 62 #[.val (.ref a1), .val (.int p2), .val (.int (0 : Int32))] [(.ref a5)])) _
    refine XS.iloadN X23.here hx rfl (hb hby d3_62) rfl ?_
    show Steps p.tables e below (T23.setTop (mkF m 63 #[.val (.ref a1), .val (.int p2), .val (.int (0 : Int32))] [(.int (0 : Int32)), (.ref a5)])) _
    refine X23.aaload hx (j := (0 : Int32)) (v := (.ref b14)) (by rw [e23]; exact Ar24.1) (State.isArrayOf_alike hZ.alike Ar24.2.1) rfl Ar24.2.2 hin24 hat24 (g := (mkF m 63 #[.val (.ref a1), .val (.int p2), .val (.int (0 : Int32))] [(.int (0 : Int32)), (.ref a5)])) rfl rfl (hb hby d3_63) _ ?_
    show Steps p.tables e below (T23.setTop (mkF m 64 #[.val (.ref a1), .val (.int p2), .val (.int (0 : Int32))] [(.ref b14)])) _
    refine XS.aloadN X23.here hx rfl (hb hby d3_64) rfl rfl ?_
    show Steps p.tables e below (T23.setTop (mkF m 65 #[.val (.ref a1), .val (.int p2), .val (.int (0 : Int32))] [(.ref a1), (.ref b14)])) _
    refine st26 _ ?_
    show Steps p.tables e below (T26.setTop (mkF m 68 #[.val (.ref a1), .val (.int p2), .val (.int (0 : Int32))] [(.int (0 : Int32)), (.ref b14)])) _
    refine XS.sipush X26.here hx rfl (hb hby d3_68) ?_
    show Steps p.tables e below (T26.setTop (mkF m 71 #[.val (.ref a1), .val (.int p2), .val (.int (0 : Int32))] [(.int (4095 : Int32)), (.int (0 : Int32)), (.ref b14)])) _
    refine XS.iand X26.here hx rfl (hb hby d3_71) rfl ?_
    show Steps p.tables e below (T26.setTop (mkF m 72 #[.val (.ref a1), .val (.int p2), .val (.int (0 : Int32))] [(.int ((0 : Int32) &&& (4095 : Int32))), (.ref b14)])) _
    rw [(by decide +kernel : ((0 : Int32) &&& (4095 : Int32)) = (0 : Int32))]
    show Steps p.tables e below (T26.setTop (mkF m 72 #[.val (.ref a1), .val (.int p2), .val (.int (0 : Int32))] [(.int (0 : Int32)), (.ref b14)])) _
    refine XS.iloadN X26.here hx rfl (hb hby d3_72) rfl ?_
    show Steps p.tables e below (T26.setTop (mkF m 73 #[.val (.ref a1), .val (.int p2), .val (.int (0 : Int32))] [(.int p2), (.int (0 : Int32)), (.ref b14)])) _
    refine st30 _ ?_
    show Steps p.tables e below (T30.setTop (mkF m 74 #[.val (.ref a1), .val (.int p2), .val (.int (0 : Int32))] [])) _
    refine XS.aloadN X30.here hx rfl (hb hby d3_74) rfl rfl ?_
    show Steps p.tables e below (T30.setTop (mkF m 75 #[.val (.ref a1), .val (.int p2), .val (.int (0 : Int32))] [(.ref a1)])) _
    refine XS.dup X30.here hx rfl (hb hby d3_75) rfl rfl ?_
    show Steps p.tables e below (T30.setTop (mkF m 76 #[.val (.ref a1), .val (.int p2), .val (.int (0 : Int32))] [(.ref a1), (.ref a1)])) _
    refine st32 _ ?_
    show Steps p.tables e below (T32.setTop (mkF m 79 #[.val (.ref a1), .val (.int p2), .val (.int (0 : Int32))] [(.int (0 : Int32)), (.ref a1)])) _
    refine XS.iconst X32.here hx rfl (hb hby d3_79) ?_
    show Steps p.tables e below (T32.setTop (mkF m 80 #[.val (.ref a1), .val (.int p2), .val (.int (0 : Int32))] [(.int (1 : Int32)), (.int (0 : Int32)), (.ref a1)])) _
    refine XS.iadd X32.here hx rfl (hb hby d3_80) rfl ?_
    show Steps p.tables e below (T32.setTop (mkF m 81 #[.val (.ref a1), .val (.int p2), .val (.int (0 : Int32))] [(.int ((0 : Int32) + (1 : Int32))), (.ref a1)])) _
    rw [(by decide +kernel : ((0 : Int32) + (1 : Int32)) = (1 : Int32))]
    show Steps p.tables e below (T32.setTop (mkF m 81 #[.val (.ref a1), .val (.int p2), .val (.int (0 : Int32))] [(.int (1 : Int32)), (.ref a1)])) _
    refine st35 _ ?_
    show Steps p.tables e below (T35.setTop (mkF m 84 #[.val (.ref a1), .val (.int p2), .val (.int (0 : Int32))] [])) _
    exact X35.returnOut hx Bd.returns (hb hby d3_84) hr
  · show Q3_3 Z _ _ _ _ h0 n0 _ T35.heap _
    rw [e35]
    exact ⟨b14, k14, rfl, N35, sz_b14, (Nat.lt_of_lt_of_le (Nat.lt_of_lt_of_le (Nat.lt_of_lt_of_le lt_b14 (Keep.of_wr W19).1) (Keep.of_wr W30).1) (Keep.of_wr W35).1), (((((Keep.refl h0 [a5, a1]).ext E14).wr W19 (Or.inl (List.mem_of_getElem? (i := 0) rfl))).wr W30 (Or.inr sz_b14)).wr W35 (Or.inl (List.mem_of_getElem? (i := 1) rfl))), f36, f37, Ov18, f38, f39, Fw35, f40, f41⟩
theorem ef_rm3_4 (m : MethodId) (x0 : Addr) (x1 : Int32) : entryFrame m #[(.ref x0), (.int x1)] 3 = mkF m 0 #[.val (.ref x0), .val (.int x1), .unset] [] := by first | (simp [entryFrame, mkF, argsToLocals, Value.category]; done) | rfl
def Q3_4 (Z : State) (a1 : Addr) (p2 : Int32) (a5 : Addr) (a8 : Addr) (k9 : ClassId) (p17 : Int32) (k18 : ClassId) (h0 : Heap) (n0 : Nat) (v : Option Value) (h : Heap) (L : List Loc) : Prop := (v = none ∧ Fr n0 L ∧ Keep h0 h [a8, a1] ∧ Exa Z h a8 "[I" ∧ Arv Z h a8 k18 .int (4096 : Int32) [(.int p17), (.int p2)] (.int (0 : Int32)) ∧ Exa Z h a1 "com/example/vestry/vestry/Ints" ∧ Fld Z h a1 "com/example/vestry/vestry/Ints" "blocks" "[[I" (.ref a5) ∧ Fld Z h a1 "com/example/vestry/vestry/Ints" "size" "I" (.int (2 : Int32)))
set_option maxRecDepth 65536 in
set_option maxHeartbeats 40000000 in
theorem rm3_4 (l : Launch) (Z : State) (a0 : Array Value) (hw : ∀ d ∈ own_ws, d.before a0 Z = true) (ws : List Jvm.Cond) (a1 : Addr) (p2 : Int32) (a5 : Addr) (a8 : Addr) (k9 : ClassId) (p17 : Int32) (k18 : ClassId) (h0 : Heap) (n0 : Nat) (O0 : Old Z n0 h0) (F3 : Fld Z h0 a1 "com/example/vestry/vestry/Ints" "size" "I" (.int (1 : Int32))) (F6 : Fld Z h0 a1 "com/example/vestry/vestry/Ints" "blocks" "[[I" (.ref a5)) (V10 : Arv Z h0 a5 k9 (.array .int) (1 : Int32) [(.ref a8)] .null) (V19 : Arv Z h0 a8 k18 .int (4096 : Int32) [(.int p17)] (.int (0 : Int32))) (g_a8 : n0 ≤ a8) (E_23 : Exa Z h0 a8 "[I") (hne24 : a1 ≠ a8) (E_27 : Exa Z h0 a1 "com/example/vestry/vestry/Ints") (g_a1 : n0 ≤ a1) :
    MetFree l M_1 (head1 (Jvm.Cond.code M_1 prog_60_method_3_code 3 none :: ws) ({ frames := 0, cells := 0, slots := 0, locals := 0 } : Room)) (fun a U => a = #[(.ref a1), (.int p2)] ∧ Z.Warmed39 U.vm ∧ U.heap = h0) (fun _ _ _ _ _ => True) (fun _ U o U' => ∃ v L, o = .returned v ∧ Q3_4 Z a1 p2 a5 a8 k9 p17 k18 h0 n0 v U'.heap L ∧ FrameEnd U o U' L ({ frames := 0, cells := 0, slots := 0, locals := 0 } : Room).cells ({ frames := 0, cells := 0, slots := 0, locals := 0 } : Room).slots) := by
  refine MetFree.of_bodySF (plainFor_of_name pn_0) hisR ?_
  intro p e s m args below meth c s₁ Bd hml0 hP hK
  obtain ⟨rfl, hZ, hh⟩ := hP
  have hx := Bd.exec
  have hby := Bd.bytes
  have hml : c.maxLocals = 3 := hml0
  have hown : s.vm.findClass "com/example/vestry/vestry/Ints" = some m.cls := findClass_of_methodNamed Bd.named
  have hnm := (name_of_methodNamed Bd.named Bd.method).1
  have X0 : Stand p l e ({ frames := 0, cells := 0, slots := 0, locals := 0 } : Room) s m #[(.ref a1), (.int p2)] below meth c s₁ [] 0 0 := Stand.of_body Bd
  have e0 : s₁.heap = h0 := by rw [← hh, Bd.state]; rfl
  have N0 := Fr.nil n0
  have pre0 : ∀ t, Steps p.tables e below (s₁.setTop (mkF m 0 #[.val (.ref a1), .val (.int p2), .unset] [])) t → Steps p.tables e below (s₁.setTop (entryFrame m #[(.ref a1), (.int p2)] 3)) t := fun t k => castTop (ef_rm3_4 m a1 p2) k
  obtain ⟨T4, X4, e4, st4⟩ := getF X0 hx hZ hown (host := "") (Or.inl (hw _ (gw 18 rfl))) Via.refl e0 F3 (g := (mkF m 1 #[.val (.ref a1), .val (.int p2), .unset] [(.ref a1)])) rfl rfl (hb hby d3_1)
  obtain ⟨T7, X7, e7, st7⟩ := getF X4 hx hZ hown (host := "") (Or.inl (hw _ (gw 11 rfl))) Via.refl e4 F6 (g := (mkF m 10 #[.val (.ref a1), .val (.int p2), .val (.int (0 : Int32))] [(.ref a1), (.int (0 : Int32))])) rfl rfl (hb hby d3_10)
  obtain ⟨cl11, Ar11, -, Sz11, Nn11, -, -⟩ := id V10
  obtain ⟨T12, X12, e12, st12⟩ := getF X7 hx hZ hown (host := "") (Or.inl (hw _ (gw 11 rfl))) Via.refl e7 F6 (g := (mkF m 39 #[.val (.ref a1), .val (.int p2), .val (.int (0 : Int32))] [(.ref a1)])) rfl rfl (hb hby d3_39)
  obtain ⟨cl13, Ar13, -, Sz13, -, Hh13, -⟩ := id V10
  have hin13 : ¬ ((0 : Int32) < 0 ∨ cl13.slots.size ≤ ((0 : Int32)).toNatClampNeg) := inb_of Sz13 ⟨by decide +kernel, by decide +kernel⟩
  have hat13 : cl13.slots[((0 : Int32)).toNatClampNeg]? = some (.ref a8) := Has.at Hh13 hin13 rfl
  obtain ⟨T14, X14, e14, st14⟩ := getF X12 hx hZ hown (host := "") (Or.inl (hw _ (gw 11 rfl))) Via.refl e12 F6 (g := (mkF m 59 #[.val (.ref a1), .val (.int p2), .val (.int (0 : Int32))] [(.ref a1)])) rfl rfl (hb hby d3_59)
  obtain ⟨cl15, Ar15, -, Sz15, -, Hh15, -⟩ := id V10
  have hin15 : ¬ ((0 : Int32) < 0 ∨ cl15.slots.size ≤ ((0 : Int32)).toNatClampNeg) := inb_of Sz15 ⟨by decide +kernel, by decide +kernel⟩
  have hat15 : cl15.slots[((0 : Int32)).toNatClampNeg]? = some (.ref a8) := Has.at Hh15 hin15 rfl
  obtain ⟨T16, X16, e16, st16⟩ := getF X14 hx hZ hown (host := "") (Or.inl (hw _ (gw 18 rfl))) Via.refl e14 F3 (g := (mkF m 65 #[.val (.ref a1), .val (.int p2), .val (.int (0 : Int32))] [(.ref a1), (.ref a8)])) rfl rfl (hb hby d3_65)
  have Vp20 : Arv Z h0 a8 k18 .int (4096 : Int32) [(.int p17), (.int (0 : Int32))] (.int (0 : Int32)) := V19.pad (pad_rep [(.int p17)] (.int (0 : Int32)) 1)
  obtain ⟨cl21, Ar21, qk21, Sz21, Nn21, Hh21, Gg21⟩ := id Vp20
  have hin21 : ¬ ((1 : Int32) < 0 ∨ cl21.slots.size ≤ ((1 : Int32)).toNatClampNeg) := inb_of Sz21 ⟨by decide +kernel, by decide +kernel⟩
  obtain ⟨T22, h22, X22, e22, W22, st22⟩ := stI X16 hx hZ e16 Ar21 (j := (1 : Int32)) hin21 (g := (mkF m 73 #[.val (.ref a1), .val (.int p2), .val (.int (0 : Int32))] [(.int p2), (.int (1 : Int32)), (.ref a8)])) rfl rfl (hb hby d3_73)
  have O22 : Old Z n0 h22 := O0.wr W22 g_a8
  have V22 : Arv Z h22 a8 k18 .int (4096 : Int32) [(.int p17), (.int p2)] (.int (0 : Int32)) := Arv.set Ar21 qk21 Sz21 Nn21 Hh21 Gg21 rfl W22 1 rfl (Nat.le_of_ble_eq_true rfl)
  have N22 := Fr.snoc X22 N0 g_a8
  have f25 : Fld Z h22 a1 "com/example/vestry/vestry/Ints" "size" "I" (.int (1 : Int32)) := (Fld.other W22 F3 (Or.inl hne24))
  obtain ⟨T26, X26, e26, st26⟩ := getF X22 hx hZ hown (host := "") (Or.inl (hw _ (gw 18 rfl))) Via.refl e22 f25 (g := (mkF m 76 #[.val (.ref a1), .val (.int p2), .val (.int (0 : Int32))] [(.ref a1), (.ref a1)])) rfl rfl (hb hby d3_76)
  have f28 : Exa Z h22 a1 "com/example/vestry/vestry/Ints" := (Exa.wr W22 E_27)
  obtain ⟨T29, h29, X29, e29, W29, st29⟩ := putF X26 hx hZ hown (host := "") (Or.inl (hw _ (gw 18 rfl))) Via.refl e26 f25 f28 (Or.inl (hw _ (gw 19 rfl))) (hw _ (gw 1 rfl)) (ty := .int) (by decide) rfl rfl (g := (mkF m 81 #[.val (.ref a1), .val (.int p2), .val (.int (0 : Int32))] [(.int (2 : Int32)), (.ref a1)])) rfl rfl (hb hby d3_81)
  have O29 : Old Z n0 h29 := O22.wr W29 g_a1
  have Fw29 : Fld Z h29 a1 "com/example/vestry/vestry/Ints" "size" "I" (.int (2 : Int32)) := Fld.same W29 f25
  have N29 := Fr.snoc X29 N22 g_a1
  obtain ⟨fs, hr, hrun, hended, hW, hsame⟩ := X29.leave (v := none) (fun _ => rfl)
  have f30 : Exa Z h29 a8 "[I" := (Exa.wr W29 (Exa.wr W22 E_23))
  have f31 : Arv Z h29 a8 k18 .int (4096 : Int32) [(.int p17), (.int p2)] (.int (0 : Int32)) := (V22.other W29 (Ne.symm hne24))
  have f32 : Exa Z h29 a1 "com/example/vestry/vestry/Ints" := (Exa.wr W29 f28)
  have f33 : Fld Z h29 a1 "com/example/vestry/vestry/Ints" "blocks" "[[I" (.ref a5) := (Fld.other W29 (Fld.other W22 F6 (Or.inl hne24)) (Or.inr (slot_ne (Or.inl (hw _ (gw 12 rfl))) (Or.inl (hw _ (gw 19 rfl))) (by decide) (t := (.array (.array .int))) (t' := .int) (by decide) (by decide))))
  refine ⟨_, _, pre0 _ ?_, hrun, hended, _, _, rfl, ?_, ⟨_, rfl⟩, hW, hsame.mono (by decide) (by decide)⟩
  · show Steps p.tables e below (s₁.setTop (mkF m 0 #[.val (.ref a1), .val (.int p2), .unset] [])) _
    refine XS.aloadN X0.here hx rfl (hb hby d3_0) rfl rfl ?_
    show Steps p.tables e below (s₁.setTop (mkF m 1 #[.val (.ref a1), .val (.int p2), .unset] [(.ref a1)])) _
    refine st4 _ ?_
    show Steps p.tables e below (T4.setTop (mkF m 4 #[.val (.ref a1), .val (.int p2), .unset] [(.int (1 : Int32))])) _
    refine XS.bipush X4.here hx rfl (hb hby d3_4) ?_
    show Steps p.tables e below (T4.setTop (mkF m 6 #[.val (.ref a1), .val (.int p2), .unset] [(.int (12 : Int32)), (.int (1 : Int32))])) _
    refine XS.iushr X4.here hx rfl (hb hby d3_6) rfl ?_
    show Steps p.tables e below (T4.setTop (mkF m 7 #[.val (.ref a1), .val (.int p2), .unset] [(.int (((1 : Int32).toUInt32 >>> ((12 : Int32) &&& 31).toUInt32).toInt32))])) _
    rw [(by decide +kernel : (((1 : Int32).toUInt32 >>> ((12 : Int32) &&& 31).toUInt32).toInt32) = (0 : Int32))]
    show Steps p.tables e below (T4.setTop (mkF m 7 #[.val (.ref a1), .val (.int p2), .unset] [(.int (0 : Int32))])) _
    refine XS.istoreN X4.here hx rfl (hb hby d3_7) rfl (l' := #[.val (.ref a1), .val (.int p2), .val (.int (0 : Int32))]) rfl ?_
    show Steps p.tables e below (T4.setTop (mkF m 8 #[.val (.ref a1), .val (.int p2), .val (.int (0 : Int32))] [])) _
    refine XS.iloadN X4.here hx rfl (hb hby d3_8) rfl ?_
    show Steps p.tables e below (T4.setTop (mkF m 9 #[.val (.ref a1), .val (.int p2), .val (.int (0 : Int32))] [(.int (0 : Int32))])) _
    refine XS.aloadN X4.here hx rfl (hb hby d3_9) rfl rfl ?_
    show Steps p.tables e below (T4.setTop (mkF m 10 #[.val (.ref a1), .val (.int p2), .val (.int (0 : Int32))] [(.ref a1), (.int (0 : Int32))])) _
    refine st7 _ ?_
    show Steps p.tables e below (T7.setTop (mkF m 13 #[.val (.ref a1), .val (.int p2), .val (.int (0 : Int32))] [(.ref a5), (.int (0 : Int32))])) _
    refine X7.arraylength hx (by rw [e7]; exact Ar11.1) (State.isArrayOf_alike hZ.alike Ar11.2.1) (g := (mkF m 13 #[.val (.ref a1), .val (.int p2), .val (.int (0 : Int32))] [(.ref a5), (.int (0 : Int32))])) rfl rfl (hb hby d3_13) _ ?_
    rw [len_of Sz11 Nn11]
    show Steps p.tables e below (T7.setTop (mkF m 14 #[.val (.ref a1), .val (.int p2), .val (.int (0 : Int32))] [(.int (1 : Int32)), (.int (0 : Int32))])) _
    refine XS.icmpYes X7.here hx rfl (pc0 := 14) (pc' := 38) rfl (hb hby d3_14) rfl (feq (by decide +kernel : ¬ ((0 : Int32) = (1 : Int32)))).2 (by decide) (by decide) ?_
    show Steps p.tables e below (T7.setTop (mkF m 38 #[.val (.ref a1), .val (.int p2), .val (.int (0 : Int32))] [])) _
    refine XS.aloadN X7.here hx rfl (hb hby d3_38) rfl rfl ?_
    show Steps p.tables e below (T7.setTop (mkF m 39 #[.val (.ref a1), .val (.int p2), .val (.int (0 : Int32))] [(.ref a1)])) _
    refine st12 _ ?_
    show Steps p.tables e below (T12.setTop (mkF m 42 #[.val (.ref a1), .val (.int p2), .val (.int (0 : Int32))] [(.ref a5)])) _
    refine XS.iloadN X12.here hx rfl (hb hby d3_42) rfl ?_
    show Steps p.tables e below (T12.setTop (mkF m 43 #[.val (.ref a1), .val (.int p2), .val (.int (0 : Int32))] [(.int (0 : Int32)), (.ref a5)])) _
    refine X12.aaload hx (j := (0 : Int32)) (v := (.ref a8)) (by rw [e12]; exact Ar13.1) (State.isArrayOf_alike hZ.alike Ar13.2.1) rfl Ar13.2.2 hin13 hat13 (g := (mkF m 43 #[.val (.ref a1), .val (.int p2), .val (.int (0 : Int32))] [(.int (0 : Int32)), (.ref a5)])) rfl rfl (hb hby d3_43) _ ?_
    show Steps p.tables e below (T12.setTop (mkF m 44 #[.val (.ref a1), .val (.int p2), .val (.int (0 : Int32))] [(.ref a8)])) _
    refine XS.ifnonnullYes X12.here hx rfl (pc0 := 44) (pc' := 58) rfl (hb hby d3_44) rfl (by decide) (by decide) ?_
    show Steps p.tables e below (T12.setTop (mkF m 58 #[.val (.ref a1), .val (.int p2), .val (.int (0 : Int32))] [])) _
    refine XS.aloadN X12.here hx rfl (hb hby d3_58) rfl rfl ?_
    show Steps p.tables e below (T12.setTop (mkF m 59 #[.val (.ref a1), .val (.int p2), .val (.int (0 : Int32))] [(.ref a1)])) _
    refine st14 _ ?_
    show Steps p.tables e below (T14.setTop (mkF m 62 #[.val (.ref a1), .val (.int p2), .val (.int (0 : Int32))] [(.ref a5)])) _
    refine XS.iloadN X14.here hx rfl (hb hby d3_62) rfl ?_
    show Steps p.tables e below (T14.setTop (mkF m 63 #[.val (.ref a1), .val (.int p2), .val (.int (0 : Int32))] [(.int (0 : Int32)), (.ref a5)])) _
    refine X14.aaload hx (j := (0 : Int32)) (v := (.ref a8)) (by rw [e14]; exact Ar15.1) (State.isArrayOf_alike hZ.alike Ar15.2.1) rfl Ar15.2.2 hin15 hat15 (g := (mkF m 63 #[.val (.ref a1), .val (.int p2), .val (.int (0 : Int32))] [(.int (0 : Int32)), (.ref a5)])) rfl rfl (hb hby d3_63) _ ?_
    show Steps p.tables e below (T14.setTop (mkF m 64 #[.val (.ref a1), .val (.int p2), .val (.int (0 : Int32))] [(.ref a8)])) _
    refine XS.aloadN X14.here hx rfl (hb hby d3_64) rfl rfl ?_
    show Steps p.tables e below (T14.setTop (mkF m 65 #[.val (.ref a1), .val (.int p2), .val (.int (0 : Int32))] [(.ref a1), (.ref a8)])) _
    refine st16 _ ?_
    show Steps p.tables e below (T16.setTop (mkF m 68 #[.val (.ref a1), .val (.int p2), .val (.int (0 : Int32))] [(.int (1 : Int32)), (.ref a8)])) _
    refine XS.sipush X16.here hx rfl (hb hby d3_68) ?_
    show Steps p.tables e below (T16.setTop (mkF m 71 #[.val (.ref a1), .val (.int p2), .val (.int (0 : Int32))] [(.int (4095 : Int32)), (.int (1 : Int32)), (.ref a8)])) _
    refine XS.iand X16.here hx rfl (hb hby d3_71) rfl ?_
    show Steps p.tables e below (T16.setTop (mkF m 72 #[.val (.ref a1), .val (.int p2), .val (.int (0 : Int32))] [(.int ((1 : Int32) &&& (4095 : Int32))), (.ref a8)])) _
    rw [(by decide +kernel : ((1 : Int32) &&& (4095 : Int32)) = (1 : Int32))]
    show Steps p.tables e below (T16.setTop (mkF m 72 #[.val (.ref a1), .val (.int p2), .val (.int (0 : Int32))] [(.int (1 : Int32)), (.ref a8)])) _
    refine XS.iloadN X16.here hx rfl (hb hby d3_72) rfl ?_
    show Steps p.tables e below (T16.setTop (mkF m 73 #[.val (.ref a1), .val (.int p2), .val (.int (0 : Int32))] [(.int p2), (.int (1 : Int32)), (.ref a8)])) _
    refine st22 _ ?_
    show Steps p.tables e below (T22.setTop (mkF m 74 #[.val (.ref a1), .val (.int p2), .val (.int (0 : Int32))] [])) _
    refine XS.aloadN X22.here hx rfl (hb hby d3_74) rfl rfl ?_
    show Steps p.tables e below (T22.setTop (mkF m 75 #[.val (.ref a1), .val (.int p2), .val (.int (0 : Int32))] [(.ref a1)])) _
    refine XS.dup X22.here hx rfl (hb hby d3_75) rfl rfl ?_
    show Steps p.tables e below (T22.setTop (mkF m 76 #[.val (.ref a1), .val (.int p2), .val (.int (0 : Int32))] [(.ref a1), (.ref a1)])) _
    refine st26 _ ?_
    show Steps p.tables e below (T26.setTop (mkF m 79 #[.val (.ref a1), .val (.int p2), .val (.int (0 : Int32))] [(.int (1 : Int32)), (.ref a1)])) _
    refine XS.iconst X26.here hx rfl (hb hby d3_79) ?_
    show Steps p.tables e below (T26.setTop (mkF m 80 #[.val (.ref a1), .val (.int p2), .val (.int (0 : Int32))] [(.int (1 : Int32)), (.int (1 : Int32)), (.ref a1)])) _
    refine XS.iadd X26.here hx rfl (hb hby d3_80) rfl ?_
    show Steps p.tables e below (T26.setTop (mkF m 81 #[.val (.ref a1), .val (.int p2), .val (.int (0 : Int32))] [(.int ((1 : Int32) + (1 : Int32))), (.ref a1)])) _
    rw [(by decide +kernel : ((1 : Int32) + (1 : Int32)) = (2 : Int32))]
    show Steps p.tables e below (T26.setTop (mkF m 81 #[.val (.ref a1), .val (.int p2), .val (.int (0 : Int32))] [(.int (2 : Int32)), (.ref a1)])) _
    refine st29 _ ?_
    show Steps p.tables e below (T29.setTop (mkF m 84 #[.val (.ref a1), .val (.int p2), .val (.int (0 : Int32))] [])) _
    exact X29.returnOut hx Bd.returns (hb hby d3_84) hr
  · show Q3_4 Z _ _ _ _ _ _ _ h0 n0 _ T29.heap _
    rw [e29]
    exact ⟨rfl, N29, (((Keep.refl h0 [a8, a1]).wr W22 (Or.inl (List.mem_of_getElem? (i := 0) rfl))).wr W29 (Or.inl (List.mem_of_getElem? (i := 1) rfl))), f30, f31, f32, f33, Fw29⟩
theorem ef_rm3_5 (m : MethodId) (x0 : Addr) (x1 : Int32) : entryFrame m #[(.ref x0), (.int x1)] 3 = mkF m 0 #[.val (.ref x0), .val (.int x1), .unset] [] := by first | (simp [entryFrame, mkF, argsToLocals, Value.category]; done) | rfl
def Q3_5 (Z : State) (a1 : Addr) (p2 : Int32) (a5 : Addr) (a8 : Addr) (k9 : ClassId) (p17 : Int32) (p18 : Int32) (k19 : ClassId) (h0 : Heap) (n0 : Nat) (v : Option Value) (h : Heap) (L : List Loc) : Prop := (v = none ∧ Fr n0 L ∧ Keep h0 h [a8, a1] ∧ Exa Z h a8 "[I" ∧ Arv Z h a8 k19 .int (4096 : Int32) [(.int p17), (.int p18), (.int p2)] (.int (0 : Int32)) ∧ Exa Z h a1 "com/example/vestry/vestry/Ints" ∧ Fld Z h a1 "com/example/vestry/vestry/Ints" "blocks" "[[I" (.ref a5) ∧ Fld Z h a1 "com/example/vestry/vestry/Ints" "size" "I" (.int (3 : Int32)))
set_option maxRecDepth 65536 in
set_option maxHeartbeats 40000000 in
theorem rm3_5 (l : Launch) (Z : State) (a0 : Array Value) (hw : ∀ d ∈ own_ws, d.before a0 Z = true) (ws : List Jvm.Cond) (a1 : Addr) (p2 : Int32) (a5 : Addr) (a8 : Addr) (k9 : ClassId) (p17 : Int32) (p18 : Int32) (k19 : ClassId) (h0 : Heap) (n0 : Nat) (O0 : Old Z n0 h0) (F3 : Fld Z h0 a1 "com/example/vestry/vestry/Ints" "size" "I" (.int (2 : Int32))) (F6 : Fld Z h0 a1 "com/example/vestry/vestry/Ints" "blocks" "[[I" (.ref a5)) (V10 : Arv Z h0 a5 k9 (.array .int) (1 : Int32) [(.ref a8)] .null) (V20 : Arv Z h0 a8 k19 .int (4096 : Int32) [(.int p17), (.int p18)] (.int (0 : Int32))) (g_a8 : n0 ≤ a8) (E_24 : Exa Z h0 a8 "[I") (hne25 : a1 ≠ a8) (E_28 : Exa Z h0 a1 "com/example/vestry/vestry/Ints") (g_a1 : n0 ≤ a1) :
    MetFree l M_1 (head1 (Jvm.Cond.code M_1 prog_60_method_3_code 3 none :: ws) ({ frames := 0, cells := 0, slots := 0, locals := 0 } : Room)) (fun a U => a = #[(.ref a1), (.int p2)] ∧ Z.Warmed39 U.vm ∧ U.heap = h0) (fun _ _ _ _ _ => True) (fun _ U o U' => ∃ v L, o = .returned v ∧ Q3_5 Z a1 p2 a5 a8 k9 p17 p18 k19 h0 n0 v U'.heap L ∧ FrameEnd U o U' L ({ frames := 0, cells := 0, slots := 0, locals := 0 } : Room).cells ({ frames := 0, cells := 0, slots := 0, locals := 0 } : Room).slots) := by
  refine MetFree.of_bodySF (plainFor_of_name pn_0) hisR ?_
  intro p e s m args below meth c s₁ Bd hml0 hP hK
  obtain ⟨rfl, hZ, hh⟩ := hP
  have hx := Bd.exec
  have hby := Bd.bytes
  have hml : c.maxLocals = 3 := hml0
  have hown : s.vm.findClass "com/example/vestry/vestry/Ints" = some m.cls := findClass_of_methodNamed Bd.named
  have hnm := (name_of_methodNamed Bd.named Bd.method).1
  have X0 : Stand p l e ({ frames := 0, cells := 0, slots := 0, locals := 0 } : Room) s m #[(.ref a1), (.int p2)] below meth c s₁ [] 0 0 := Stand.of_body Bd
  have e0 : s₁.heap = h0 := by rw [← hh, Bd.state]; rfl
  have N0 := Fr.nil n0
  have pre0 : ∀ t, Steps p.tables e below (s₁.setTop (mkF m 0 #[.val (.ref a1), .val (.int p2), .unset] [])) t → Steps p.tables e below (s₁.setTop (entryFrame m #[(.ref a1), (.int p2)] 3)) t := fun t k => castTop (ef_rm3_5 m a1 p2) k
  obtain ⟨T4, X4, e4, st4⟩ := getF X0 hx hZ hown (host := "") (Or.inl (hw _ (gw 18 rfl))) Via.refl e0 F3 (g := (mkF m 1 #[.val (.ref a1), .val (.int p2), .unset] [(.ref a1)])) rfl rfl (hb hby d3_1)
  obtain ⟨T7, X7, e7, st7⟩ := getF X4 hx hZ hown (host := "") (Or.inl (hw _ (gw 11 rfl))) Via.refl e4 F6 (g := (mkF m 10 #[.val (.ref a1), .val (.int p2), .val (.int (0 : Int32))] [(.ref a1), (.int (0 : Int32))])) rfl rfl (hb hby d3_10)
  obtain ⟨cl11, Ar11, -, Sz11, Nn11, -, -⟩ := id V10
  obtain ⟨T12, X12, e12, st12⟩ := getF X7 hx hZ hown (host := "") (Or.inl (hw _ (gw 11 rfl))) Via.refl e7 F6 (g := (mkF m 39 #[.val (.ref a1), .val (.int p2), .val (.int (0 : Int32))] [(.ref a1)])) rfl rfl (hb hby d3_39)
  obtain ⟨cl13, Ar13, -, Sz13, -, Hh13, -⟩ := id V10
  have hin13 : ¬ ((0 : Int32) < 0 ∨ cl13.slots.size ≤ ((0 : Int32)).toNatClampNeg) := inb_of Sz13 ⟨by decide +kernel, by decide +kernel⟩
  have hat13 : cl13.slots[((0 : Int32)).toNatClampNeg]? = some (.ref a8) := Has.at Hh13 hin13 rfl
  obtain ⟨T14, X14, e14, st14⟩ := getF X12 hx hZ hown (host := "") (Or.inl (hw _ (gw 11 rfl))) Via.refl e12 F6 (g := (mkF m 59 #[.val (.ref a1), .val (.int p2), .val (.int (0 : Int32))] [(.ref a1)])) rfl rfl (hb hby d3_59)
  obtain ⟨cl15, Ar15, -, Sz15, -, Hh15, -⟩ := id V10
  have hin15 : ¬ ((0 : Int32) < 0 ∨ cl15.slots.size ≤ ((0 : Int32)).toNatClampNeg) := inb_of Sz15 ⟨by decide +kernel, by decide +kernel⟩
  have hat15 : cl15.slots[((0 : Int32)).toNatClampNeg]? = some (.ref a8) := Has.at Hh15 hin15 rfl
  obtain ⟨T16, X16, e16, st16⟩ := getF X14 hx hZ hown (host := "") (Or.inl (hw _ (gw 18 rfl))) Via.refl e14 F3 (g := (mkF m 65 #[.val (.ref a1), .val (.int p2), .val (.int (0 : Int32))] [(.ref a1), (.ref a8)])) rfl rfl (hb hby d3_65)
  have Vp21 : Arv Z h0 a8 k19 .int (4096 : Int32) [(.int p17), (.int p18), (.int (0 : Int32))] (.int (0 : Int32)) := V20.pad (pad_rep [(.int p17), (.int p18)] (.int (0 : Int32)) 1)
  obtain ⟨cl22, Ar22, qk22, Sz22, Nn22, Hh22, Gg22⟩ := id Vp21
  have hin22 : ¬ ((2 : Int32) < 0 ∨ cl22.slots.size ≤ ((2 : Int32)).toNatClampNeg) := inb_of Sz22 ⟨by decide +kernel, by decide +kernel⟩
  obtain ⟨T23, h23, X23, e23, W23, st23⟩ := stI X16 hx hZ e16 Ar22 (j := (2 : Int32)) hin22 (g := (mkF m 73 #[.val (.ref a1), .val (.int p2), .val (.int (0 : Int32))] [(.int p2), (.int (2 : Int32)), (.ref a8)])) rfl rfl (hb hby d3_73)
  have O23 : Old Z n0 h23 := O0.wr W23 g_a8
  have V23 : Arv Z h23 a8 k19 .int (4096 : Int32) [(.int p17), (.int p18), (.int p2)] (.int (0 : Int32)) := Arv.set Ar22 qk22 Sz22 Nn22 Hh22 Gg22 rfl W23 2 rfl (Nat.le_of_ble_eq_true rfl)
  have N23 := Fr.snoc X23 N0 g_a8
  have f26 : Fld Z h23 a1 "com/example/vestry/vestry/Ints" "size" "I" (.int (2 : Int32)) := (Fld.other W23 F3 (Or.inl hne25))
  obtain ⟨T27, X27, e27, st27⟩ := getF X23 hx hZ hown (host := "") (Or.inl (hw _ (gw 18 rfl))) Via.refl e23 f26 (g := (mkF m 76 #[.val (.ref a1), .val (.int p2), .val (.int (0 : Int32))] [(.ref a1), (.ref a1)])) rfl rfl (hb hby d3_76)
  have f29 : Exa Z h23 a1 "com/example/vestry/vestry/Ints" := (Exa.wr W23 E_28)
  obtain ⟨T30, h30, X30, e30, W30, st30⟩ := putF X27 hx hZ hown (host := "") (Or.inl (hw _ (gw 18 rfl))) Via.refl e27 f26 f29 (Or.inl (hw _ (gw 19 rfl))) (hw _ (gw 1 rfl)) (ty := .int) (by decide) rfl rfl (g := (mkF m 81 #[.val (.ref a1), .val (.int p2), .val (.int (0 : Int32))] [(.int (3 : Int32)), (.ref a1)])) rfl rfl (hb hby d3_81)
  have O30 : Old Z n0 h30 := O23.wr W30 g_a1
  have Fw30 : Fld Z h30 a1 "com/example/vestry/vestry/Ints" "size" "I" (.int (3 : Int32)) := Fld.same W30 f26
  have N30 := Fr.snoc X30 N23 g_a1
  obtain ⟨fs, hr, hrun, hended, hW, hsame⟩ := X30.leave (v := none) (fun _ => rfl)
  have f31 : Exa Z h30 a8 "[I" := (Exa.wr W30 (Exa.wr W23 E_24))
  have f32 : Arv Z h30 a8 k19 .int (4096 : Int32) [(.int p17), (.int p18), (.int p2)] (.int (0 : Int32)) := (V23.other W30 (Ne.symm hne25))
  have f33 : Exa Z h30 a1 "com/example/vestry/vestry/Ints" := (Exa.wr W30 f29)
  have f34 : Fld Z h30 a1 "com/example/vestry/vestry/Ints" "blocks" "[[I" (.ref a5) := (Fld.other W30 (Fld.other W23 F6 (Or.inl hne25)) (Or.inr (slot_ne (Or.inl (hw _ (gw 12 rfl))) (Or.inl (hw _ (gw 19 rfl))) (by decide) (t := (.array (.array .int))) (t' := .int) (by decide) (by decide))))
  refine ⟨_, _, pre0 _ ?_, hrun, hended, _, _, rfl, ?_, ⟨_, rfl⟩, hW, hsame.mono (by decide) (by decide)⟩
  · show Steps p.tables e below (s₁.setTop (mkF m 0 #[.val (.ref a1), .val (.int p2), .unset] [])) _
    refine XS.aloadN X0.here hx rfl (hb hby d3_0) rfl rfl ?_
    show Steps p.tables e below (s₁.setTop (mkF m 1 #[.val (.ref a1), .val (.int p2), .unset] [(.ref a1)])) _
    refine st4 _ ?_
    show Steps p.tables e below (T4.setTop (mkF m 4 #[.val (.ref a1), .val (.int p2), .unset] [(.int (2 : Int32))])) _
    refine XS.bipush X4.here hx rfl (hb hby d3_4) ?_
    show Steps p.tables e below (T4.setTop (mkF m 6 #[.val (.ref a1), .val (.int p2), .unset] [(.int (12 : Int32)), (.int (2 : Int32))])) _
    refine XS.iushr X4.here hx rfl (hb hby d3_6) rfl ?_
    show Steps p.tables e below (T4.setTop (mkF m 7 #[.val (.ref a1), .val (.int p2), .unset] [(.int (((2 : Int32).toUInt32 >>> ((12 : Int32) &&& 31).toUInt32).toInt32))])) _
    rw [(by decide +kernel : (((2 : Int32).toUInt32 >>> ((12 : Int32) &&& 31).toUInt32).toInt32) = (0 : Int32))]
    show Steps p.tables e below (T4.setTop (mkF m 7 #[.val (.ref a1), .val (.int p2), .unset] [(.int (0 : Int32))])) _
    refine XS.istoreN X4.here hx rfl (hb hby d3_7) rfl (l' := #[.val (.ref a1), .val (.int p2), .val (.int (0 : Int32))]) rfl ?_
    show Steps p.tables e below (T4.setTop (mkF m 8 #[.val (.ref a1), .val (.int p2), .val (.int (0 : Int32))] [])) _
    refine XS.iloadN X4.here hx rfl (hb hby d3_8) rfl ?_
    show Steps p.tables e below (T4.setTop (mkF m 9 #[.val (.ref a1), .val (.int p2), .val (.int (0 : Int32))] [(.int (0 : Int32))])) _
    refine XS.aloadN X4.here hx rfl (hb hby d3_9) rfl rfl ?_
    show Steps p.tables e below (T4.setTop (mkF m 10 #[.val (.ref a1), .val (.int p2), .val (.int (0 : Int32))] [(.ref a1), (.int (0 : Int32))])) _
    refine st7 _ ?_
    show Steps p.tables e below (T7.setTop (mkF m 13 #[.val (.ref a1), .val (.int p2), .val (.int (0 : Int32))] [(.ref a5), (.int (0 : Int32))])) _
    refine X7.arraylength hx (by rw [e7]; exact Ar11.1) (State.isArrayOf_alike hZ.alike Ar11.2.1) (g := (mkF m 13 #[.val (.ref a1), .val (.int p2), .val (.int (0 : Int32))] [(.ref a5), (.int (0 : Int32))])) rfl rfl (hb hby d3_13) _ ?_
    rw [len_of Sz11 Nn11]
    show Steps p.tables e below (T7.setTop (mkF m 14 #[.val (.ref a1), .val (.int p2), .val (.int (0 : Int32))] [(.int (1 : Int32)), (.int (0 : Int32))])) _
    refine XS.icmpYes X7.here hx rfl (pc0 := 14) (pc' := 38) rfl (hb hby d3_14) rfl (feq (by decide +kernel : ¬ ((0 : Int32) = (1 : Int32)))).2 (by decide) (by decide) ?_
    show Steps p.tables e below (T7.setTop (mkF m 38 #[.val (.ref a1), .val (.int p2), .val (.int (0 : Int32))] [])) _
    refine XS.aloadN X7.here hx rfl (hb hby d3_38) rfl rfl ?_
    show Steps p.tables e below (T7.setTop (mkF m 39 #[.val (.ref a1), .val (.int p2), .val (.int (0 : Int32))] [(.ref a1)])) _
    refine st12 _ ?_
    show Steps p.tables e below (T12.setTop (mkF m 42 #[.val (.ref a1), .val (.int p2), .val (.int (0 : Int32))] [(.ref a5)])) _
    refine XS.iloadN X12.here hx rfl (hb hby d3_42) rfl ?_
    show Steps p.tables e below (T12.setTop (mkF m 43 #[.val (.ref a1), .val (.int p2), .val (.int (0 : Int32))] [(.int (0 : Int32)), (.ref a5)])) _
    refine X12.aaload hx (j := (0 : Int32)) (v := (.ref a8)) (by rw [e12]; exact Ar13.1) (State.isArrayOf_alike hZ.alike Ar13.2.1) rfl Ar13.2.2 hin13 hat13 (g := (mkF m 43 #[.val (.ref a1), .val (.int p2), .val (.int (0 : Int32))] [(.int (0 : Int32)), (.ref a5)])) rfl rfl (hb hby d3_43) _ ?_
    show Steps p.tables e below (T12.setTop (mkF m 44 #[.val (.ref a1), .val (.int p2), .val (.int (0 : Int32))] [(.ref a8)])) _
    refine XS.ifnonnullYes X12.here hx rfl (pc0 := 44) (pc' := 58) rfl (hb hby d3_44) rfl (by decide) (by decide) ?_
    show Steps p.tables e below (T12.setTop (mkF m 58 #[.val (.ref a1), .val (.int p2), .val (.int (0 : Int32))] [])) _
    refine XS.aloadN X12.here hx rfl (hb hby d3_58) rfl rfl ?_
    show Steps p.tables e below (T12.setTop (mkF m 59 #[.val (.ref a1), .val (.int p2), .val (.int (0 : Int32))] [(.ref a1)])) _
    refine st14 _ ?_
    show Steps p.tables e below (T14.setTop (mkF m 62 #[.val (.ref a1), .val (.int p2), .val (.int (0 : Int32))] [(.ref a5)])) _
    refine XS.iloadN X14.here hx rfl (hb hby d3_62) rfl ?_
    show Steps p.tables e below (T14.setTop (mkF m 63 #[.val (.ref a1), .val (.int p2), .val (.int (0 : Int32))] [(.int (0 : Int32)), (.ref a5)])) _
    refine X14.aaload hx (j := (0 : Int32)) (v := (.ref a8)) (by rw [e14]; exact Ar15.1) (State.isArrayOf_alike hZ.alike Ar15.2.1) rfl Ar15.2.2 hin15 hat15 (g := (mkF m 63 #[.val (.ref a1), .val (.int p2), .val (.int (0 : Int32))] [(.int (0 : Int32)), (.ref a5)])) rfl rfl (hb hby d3_63) _ ?_
    show Steps p.tables e below (T14.setTop (mkF m 64 #[.val (.ref a1), .val (.int p2), .val (.int (0 : Int32))] [(.ref a8)])) _
    refine XS.aloadN X14.here hx rfl (hb hby d3_64) rfl rfl ?_
    show Steps p.tables e below (T14.setTop (mkF m 65 #[.val (.ref a1), .val (.int p2), .val (.int (0 : Int32))] [(.ref a1), (.ref a8)])) _
    refine st16 _ ?_
    show Steps p.tables e below (T16.setTop (mkF m 68 #[.val (.ref a1), .val (.int p2), .val (.int (0 : Int32))] [(.int (2 : Int32)), (.ref a8)])) _
    refine XS.sipush X16.here hx rfl (hb hby d3_68) ?_
    show Steps p.tables e below (T16.setTop (mkF m 71 #[.val (.ref a1), .val (.int p2), .val (.int (0 : Int32))] [(.int (4095 : Int32)), (.int (2 : Int32)), (.ref a8)])) _
    refine XS.iand X16.here hx rfl (hb hby d3_71) rfl ?_
    show Steps p.tables e below (T16.setTop (mkF m 72 #[.val (.ref a1), .val (.int p2), .val (.int (0 : Int32))] [(.int ((2 : Int32) &&& (4095 : Int32))), (.ref a8)])) _
    rw [(by decide +kernel : ((2 : Int32) &&& (4095 : Int32)) = (2 : Int32))]
    show Steps p.tables e below (T16.setTop (mkF m 72 #[.val (.ref a1), .val (.int p2), .val (.int (0 : Int32))] [(.int (2 : Int32)), (.ref a8)])) _
    refine XS.iloadN X16.here hx rfl (hb hby d3_72) rfl ?_
    show Steps p.tables e below (T16.setTop (mkF m 73 #[.val (.ref a1), .val (.int p2), .val (.int (0 : Int32))] [(.int p2), (.int (2 : Int32)), (.ref a8)])) _
    refine st23 _ ?_
    show Steps p.tables e below (T23.setTop (mkF m 74 #[.val (.ref a1), .val (.int p2), .val (.int (0 : Int32))] [])) _
    refine XS.aloadN X23.here hx rfl (hb hby d3_74) rfl rfl ?_
    show Steps p.tables e below (T23.setTop (mkF m 75 #[.val (.ref a1), .val (.int p2), .val (.int (0 : Int32))] [(.ref a1)])) _
    refine XS.dup X23.here hx rfl (hb hby d3_75) rfl rfl ?_
    show Steps p.tables e below (T23.setTop (mkF m 76 #[.val (.ref a1), .val (.int p2), .val (.int (0 : Int32))] [(.ref a1), (.ref a1)])) _
    refine st27 _ ?_
    show Steps p.tables e below (T27.setTop (mkF m 79 #[.val (.ref a1), .val (.int p2), .val (.int (0 : Int32))] [(.int (2 : Int32)), (.ref a1)])) _
    refine XS.iconst X27.here hx rfl (hb hby d3_79) ?_
    show Steps p.tables e below (T27.setTop (mkF m 80 #[.val (.ref a1), .val (.int p2), .val (.int (0 : Int32))] [(.int (1 : Int32)), (.int (2 : Int32)), (.ref a1)])) _
    refine XS.iadd X27.here hx rfl (hb hby d3_80) rfl ?_
    show Steps p.tables e below (T27.setTop (mkF m 81 #[.val (.ref a1), .val (.int p2), .val (.int (0 : Int32))] [(.int ((2 : Int32) + (1 : Int32))), (.ref a1)])) _
    rw [(by decide +kernel : ((2 : Int32) + (1 : Int32)) = (3 : Int32))]
    show Steps p.tables e below (T27.setTop (mkF m 81 #[.val (.ref a1), .val (.int p2), .val (.int (0 : Int32))] [(.int (3 : Int32)), (.ref a1)])) _
    refine st30 _ ?_
    show Steps p.tables e below (T30.setTop (mkF m 84 #[.val (.ref a1), .val (.int p2), .val (.int (0 : Int32))] [])) _
    exact X30.returnOut hx Bd.returns (hb hby d3_84) hr
  · show Q3_5 Z _ _ _ _ _ _ _ _ h0 n0 _ T30.heap _
    rw [e30]
    exact ⟨rfl, N30, (((Keep.refl h0 [a8, a1]).wr W23 (Or.inl (List.mem_of_getElem? (i := 0) rfl))).wr W30 (Or.inl (List.mem_of_getElem? (i := 1) rfl))), f31, f32, f33, f34, Fw30⟩
theorem ef_rm3_6 (m : MethodId) (x0 : Addr) (x1 : Int32) : entryFrame m #[(.ref x0), (.int x1)] 3 = mkF m 0 #[.val (.ref x0), .val (.int x1), .unset] [] := by first | (simp [entryFrame, mkF, argsToLocals, Value.category]; done) | rfl
def Q3_6 (Z : State) (a1 : Addr) (p2 : Int32) (a5 : Addr) (a8 : Addr) (k9 : ClassId) (p17 : Int32) (p18 : Int32) (p19 : Int32) (k20 : ClassId) (h0 : Heap) (n0 : Nat) (v : Option Value) (h : Heap) (L : List Loc) : Prop := (v = none ∧ Fr n0 L ∧ Keep h0 h [a8, a1] ∧ Exa Z h a8 "[I" ∧ Arv Z h a8 k20 .int (4096 : Int32) [(.int p17), (.int p18), (.int p19), (.int p2)] (.int (0 : Int32)) ∧ Exa Z h a1 "com/example/vestry/vestry/Ints" ∧ Fld Z h a1 "com/example/vestry/vestry/Ints" "blocks" "[[I" (.ref a5) ∧ Fld Z h a1 "com/example/vestry/vestry/Ints" "size" "I" (.int (4 : Int32)))
set_option maxRecDepth 65536 in
set_option maxHeartbeats 40000000 in
theorem rm3_6 (l : Launch) (Z : State) (a0 : Array Value) (hw : ∀ d ∈ own_ws, d.before a0 Z = true) (ws : List Jvm.Cond) (a1 : Addr) (p2 : Int32) (a5 : Addr) (a8 : Addr) (k9 : ClassId) (p17 : Int32) (p18 : Int32) (p19 : Int32) (k20 : ClassId) (h0 : Heap) (n0 : Nat) (O0 : Old Z n0 h0) (F3 : Fld Z h0 a1 "com/example/vestry/vestry/Ints" "size" "I" (.int (3 : Int32))) (F6 : Fld Z h0 a1 "com/example/vestry/vestry/Ints" "blocks" "[[I" (.ref a5)) (V10 : Arv Z h0 a5 k9 (.array .int) (1 : Int32) [(.ref a8)] .null) (V21 : Arv Z h0 a8 k20 .int (4096 : Int32) [(.int p17), (.int p18), (.int p19)] (.int (0 : Int32))) (g_a8 : n0 ≤ a8) (E_25 : Exa Z h0 a8 "[I") (hne26 : a1 ≠ a8) (E_29 : Exa Z h0 a1 "com/example/vestry/vestry/Ints") (g_a1 : n0 ≤ a1) :
    MetFree l M_1 (head1 (Jvm.Cond.code M_1 prog_60_method_3_code 3 none :: ws) ({ frames := 0, cells := 0, slots := 0, locals := 0 } : Room)) (fun a U => a = #[(.ref a1), (.int p2)] ∧ Z.Warmed39 U.vm ∧ U.heap = h0) (fun _ _ _ _ _ => True) (fun _ U o U' => ∃ v L, o = .returned v ∧ Q3_6 Z a1 p2 a5 a8 k9 p17 p18 p19 k20 h0 n0 v U'.heap L ∧ FrameEnd U o U' L ({ frames := 0, cells := 0, slots := 0, locals := 0 } : Room).cells ({ frames := 0, cells := 0, slots := 0, locals := 0 } : Room).slots) := by
  refine MetFree.of_bodySF (plainFor_of_name pn_0) hisR ?_
  intro p e s m args below meth c s₁ Bd hml0 hP hK
  obtain ⟨rfl, hZ, hh⟩ := hP
  have hx := Bd.exec
  have hby := Bd.bytes
  have hml : c.maxLocals = 3 := hml0
  have hown : s.vm.findClass "com/example/vestry/vestry/Ints" = some m.cls := findClass_of_methodNamed Bd.named
  have hnm := (name_of_methodNamed Bd.named Bd.method).1
  have X0 : Stand p l e ({ frames := 0, cells := 0, slots := 0, locals := 0 } : Room) s m #[(.ref a1), (.int p2)] below meth c s₁ [] 0 0 := Stand.of_body Bd
  have e0 : s₁.heap = h0 := by rw [← hh, Bd.state]; rfl
  have N0 := Fr.nil n0
  have pre0 : ∀ t, Steps p.tables e below (s₁.setTop (mkF m 0 #[.val (.ref a1), .val (.int p2), .unset] [])) t → Steps p.tables e below (s₁.setTop (entryFrame m #[(.ref a1), (.int p2)] 3)) t := fun t k => castTop (ef_rm3_6 m a1 p2) k
  obtain ⟨T4, X4, e4, st4⟩ := getF X0 hx hZ hown (host := "") (Or.inl (hw _ (gw 18 rfl))) Via.refl e0 F3 (g := (mkF m 1 #[.val (.ref a1), .val (.int p2), .unset] [(.ref a1)])) rfl rfl (hb hby d3_1)
  obtain ⟨T7, X7, e7, st7⟩ := getF X4 hx hZ hown (host := "") (Or.inl (hw _ (gw 11 rfl))) Via.refl e4 F6 (g := (mkF m 10 #[.val (.ref a1), .val (.int p2), .val (.int (0 : Int32))] [(.ref a1), (.int (0 : Int32))])) rfl rfl (hb hby d3_10)
  obtain ⟨cl11, Ar11, -, Sz11, Nn11, -, -⟩ := id V10
  obtain ⟨T12, X12, e12, st12⟩ := getF X7 hx hZ hown (host := "") (Or.inl (hw _ (gw 11 rfl))) Via.refl e7 F6 (g := (mkF m 39 #[.val (.ref a1), .val (.int p2), .val (.int (0 : Int32))] [(.ref a1)])) rfl rfl (hb hby d3_39)
  obtain ⟨cl13, Ar13, -, Sz13, -, Hh13, -⟩ := id V10
  have hin13 : ¬ ((0 : Int32) < 0 ∨ cl13.slots.size ≤ ((0 : Int32)).toNatClampNeg) := inb_of Sz13 ⟨by decide +kernel, by decide +kernel⟩
  have hat13 : cl13.slots[((0 : Int32)).toNatClampNeg]? = some (.ref a8) := Has.at Hh13 hin13 rfl
  obtain ⟨T14, X14, e14, st14⟩ := getF X12 hx hZ hown (host := "") (Or.inl (hw _ (gw 11 rfl))) Via.refl e12 F6 (g := (mkF m 59 #[.val (.ref a1), .val (.int p2), .val (.int (0 : Int32))] [(.ref a1)])) rfl rfl (hb hby d3_59)
  obtain ⟨cl15, Ar15, -, Sz15, -, Hh15, -⟩ := id V10
  have hin15 : ¬ ((0 : Int32) < 0 ∨ cl15.slots.size ≤ ((0 : Int32)).toNatClampNeg) := inb_of Sz15 ⟨by decide +kernel, by decide +kernel⟩
  have hat15 : cl15.slots[((0 : Int32)).toNatClampNeg]? = some (.ref a8) := Has.at Hh15 hin15 rfl
  obtain ⟨T16, X16, e16, st16⟩ := getF X14 hx hZ hown (host := "") (Or.inl (hw _ (gw 18 rfl))) Via.refl e14 F3 (g := (mkF m 65 #[.val (.ref a1), .val (.int p2), .val (.int (0 : Int32))] [(.ref a1), (.ref a8)])) rfl rfl (hb hby d3_65)
  have Vp22 : Arv Z h0 a8 k20 .int (4096 : Int32) [(.int p17), (.int p18), (.int p19), (.int (0 : Int32))] (.int (0 : Int32)) := V21.pad (pad_rep [(.int p17), (.int p18), (.int p19)] (.int (0 : Int32)) 1)
  obtain ⟨cl23, Ar23, qk23, Sz23, Nn23, Hh23, Gg23⟩ := id Vp22
  have hin23 : ¬ ((3 : Int32) < 0 ∨ cl23.slots.size ≤ ((3 : Int32)).toNatClampNeg) := inb_of Sz23 ⟨by decide +kernel, by decide +kernel⟩
  obtain ⟨T24, h24, X24, e24, W24, st24⟩ := stI X16 hx hZ e16 Ar23 (j := (3 : Int32)) hin23 (g := (mkF m 73 #[.val (.ref a1), .val (.int p2), .val (.int (0 : Int32))] [(.int p2), (.int (3 : Int32)), (.ref a8)])) rfl rfl (hb hby d3_73)
  have O24 : Old Z n0 h24 := O0.wr W24 g_a8
  have V24 : Arv Z h24 a8 k20 .int (4096 : Int32) [(.int p17), (.int p18), (.int p19), (.int p2)] (.int (0 : Int32)) := Arv.set Ar23 qk23 Sz23 Nn23 Hh23 Gg23 rfl W24 3 rfl (Nat.le_of_ble_eq_true rfl)
  have N24 := Fr.snoc X24 N0 g_a8
  have f27 : Fld Z h24 a1 "com/example/vestry/vestry/Ints" "size" "I" (.int (3 : Int32)) := (Fld.other W24 F3 (Or.inl hne26))
  obtain ⟨T28, X28, e28, st28⟩ := getF X24 hx hZ hown (host := "") (Or.inl (hw _ (gw 18 rfl))) Via.refl e24 f27 (g := (mkF m 76 #[.val (.ref a1), .val (.int p2), .val (.int (0 : Int32))] [(.ref a1), (.ref a1)])) rfl rfl (hb hby d3_76)
  have f30 : Exa Z h24 a1 "com/example/vestry/vestry/Ints" := (Exa.wr W24 E_29)
  obtain ⟨T31, h31, X31, e31, W31, st31⟩ := putF X28 hx hZ hown (host := "") (Or.inl (hw _ (gw 18 rfl))) Via.refl e28 f27 f30 (Or.inl (hw _ (gw 19 rfl))) (hw _ (gw 1 rfl)) (ty := .int) (by decide) rfl rfl (g := (mkF m 81 #[.val (.ref a1), .val (.int p2), .val (.int (0 : Int32))] [(.int (4 : Int32)), (.ref a1)])) rfl rfl (hb hby d3_81)
  have O31 : Old Z n0 h31 := O24.wr W31 g_a1
  have Fw31 : Fld Z h31 a1 "com/example/vestry/vestry/Ints" "size" "I" (.int (4 : Int32)) := Fld.same W31 f27
  have N31 := Fr.snoc X31 N24 g_a1
  obtain ⟨fs, hr, hrun, hended, hW, hsame⟩ := X31.leave (v := none) (fun _ => rfl)
  have f32 : Exa Z h31 a8 "[I" := (Exa.wr W31 (Exa.wr W24 E_25))
  have f33 : Arv Z h31 a8 k20 .int (4096 : Int32) [(.int p17), (.int p18), (.int p19), (.int p2)] (.int (0 : Int32)) := (V24.other W31 (Ne.symm hne26))
  have f34 : Exa Z h31 a1 "com/example/vestry/vestry/Ints" := (Exa.wr W31 f30)
  have f35 : Fld Z h31 a1 "com/example/vestry/vestry/Ints" "blocks" "[[I" (.ref a5) := (Fld.other W31 (Fld.other W24 F6 (Or.inl hne26)) (Or.inr (slot_ne (Or.inl (hw _ (gw 12 rfl))) (Or.inl (hw _ (gw 19 rfl))) (by decide) (t := (.array (.array .int))) (t' := .int) (by decide) (by decide))))
  refine ⟨_, _, pre0 _ ?_, hrun, hended, _, _, rfl, ?_, ⟨_, rfl⟩, hW, hsame.mono (by decide) (by decide)⟩
  · show Steps p.tables e below (s₁.setTop (mkF m 0 #[.val (.ref a1), .val (.int p2), .unset] [])) _
    refine XS.aloadN X0.here hx rfl (hb hby d3_0) rfl rfl ?_
    show Steps p.tables e below (s₁.setTop (mkF m 1 #[.val (.ref a1), .val (.int p2), .unset] [(.ref a1)])) _
    refine st4 _ ?_
    show Steps p.tables e below (T4.setTop (mkF m 4 #[.val (.ref a1), .val (.int p2), .unset] [(.int (3 : Int32))])) _
    refine XS.bipush X4.here hx rfl (hb hby d3_4) ?_
    show Steps p.tables e below (T4.setTop (mkF m 6 #[.val (.ref a1), .val (.int p2), .unset] [(.int (12 : Int32)), (.int (3 : Int32))])) _
    refine XS.iushr X4.here hx rfl (hb hby d3_6) rfl ?_
    show Steps p.tables e below (T4.setTop (mkF m 7 #[.val (.ref a1), .val (.int p2), .unset] [(.int (((3 : Int32).toUInt32 >>> ((12 : Int32) &&& 31).toUInt32).toInt32))])) _
    rw [(by decide +kernel : (((3 : Int32).toUInt32 >>> ((12 : Int32) &&& 31).toUInt32).toInt32) = (0 : Int32))]
    show Steps p.tables e below (T4.setTop (mkF m 7 #[.val (.ref a1), .val (.int p2), .unset] [(.int (0 : Int32))])) _
    refine XS.istoreN X4.here hx rfl (hb hby d3_7) rfl (l' := #[.val (.ref a1), .val (.int p2), .val (.int (0 : Int32))]) rfl ?_
    show Steps p.tables e below (T4.setTop (mkF m 8 #[.val (.ref a1), .val (.int p2), .val (.int (0 : Int32))] [])) _
    refine XS.iloadN X4.here hx rfl (hb hby d3_8) rfl ?_
    show Steps p.tables e below (T4.setTop (mkF m 9 #[.val (.ref a1), .val (.int p2), .val (.int (0 : Int32))] [(.int (0 : Int32))])) _
    refine XS.aloadN X4.here hx rfl (hb hby d3_9) rfl rfl ?_
    show Steps p.tables e below (T4.setTop (mkF m 10 #[.val (.ref a1), .val (.int p2), .val (.int (0 : Int32))] [(.ref a1), (.int (0 : Int32))])) _
    refine st7 _ ?_
    show Steps p.tables e below (T7.setTop (mkF m 13 #[.val (.ref a1), .val (.int p2), .val (.int (0 : Int32))] [(.ref a5), (.int (0 : Int32))])) _
    refine X7.arraylength hx (by rw [e7]; exact Ar11.1) (State.isArrayOf_alike hZ.alike Ar11.2.1) (g := (mkF m 13 #[.val (.ref a1), .val (.int p2), .val (.int (0 : Int32))] [(.ref a5), (.int (0 : Int32))])) rfl rfl (hb hby d3_13) _ ?_
    rw [len_of Sz11 Nn11]
    show Steps p.tables e below (T7.setTop (mkF m 14 #[.val (.ref a1), .val (.int p2), .val (.int (0 : Int32))] [(.int (1 : Int32)), (.int (0 : Int32))])) _
    refine XS.icmpYes X7.here hx rfl (pc0 := 14) (pc' := 38) rfl (hb hby d3_14) rfl (feq (by decide +kernel : ¬ ((0 : Int32) = (1 : Int32)))).2 (by decide) (by decide) ?_
    show Steps p.tables e below (T7.setTop (mkF m 38 #[.val (.ref a1), .val (.int p2), .val (.int (0 : Int32))] [])) _
    refine XS.aloadN X7.here hx rfl (hb hby d3_38) rfl rfl ?_
    show Steps p.tables e below (T7.setTop (mkF m 39 #[.val (.ref a1), .val (.int p2), .val (.int (0 : Int32))] [(.ref a1)])) _
    refine st12 _ ?_
    show Steps p.tables e below (T12.setTop (mkF m 42 #[.val (.ref a1), .val (.int p2), .val (.int (0 : Int32))] [(.ref a5)])) _
    refine XS.iloadN X12.here hx rfl (hb hby d3_42) rfl ?_
    show Steps p.tables e below (T12.setTop (mkF m 43 #[.val (.ref a1), .val (.int p2), .val (.int (0 : Int32))] [(.int (0 : Int32)), (.ref a5)])) _
    refine X12.aaload hx (j := (0 : Int32)) (v := (.ref a8)) (by rw [e12]; exact Ar13.1) (State.isArrayOf_alike hZ.alike Ar13.2.1) rfl Ar13.2.2 hin13 hat13 (g := (mkF m 43 #[.val (.ref a1), .val (.int p2), .val (.int (0 : Int32))] [(.int (0 : Int32)), (.ref a5)])) rfl rfl (hb hby d3_43) _ ?_
    show Steps p.tables e below (T12.setTop (mkF m 44 #[.val (.ref a1), .val (.int p2), .val (.int (0 : Int32))] [(.ref a8)])) _
    refine XS.ifnonnullYes X12.here hx rfl (pc0 := 44) (pc' := 58) rfl (hb hby d3_44) rfl (by decide) (by decide) ?_
    show Steps p.tables e below (T12.setTop (mkF m 58 #[.val (.ref a1), .val (.int p2), .val (.int (0 : Int32))] [])) _
    refine XS.aloadN X12.here hx rfl (hb hby d3_58) rfl rfl ?_
    show Steps p.tables e below (T12.setTop (mkF m 59 #[.val (.ref a1), .val (.int p2), .val (.int (0 : Int32))] [(.ref a1)])) _
    refine st14 _ ?_
    show Steps p.tables e below (T14.setTop (mkF m 62 #[.val (.ref a1), .val (.int p2), .val (.int (0 : Int32))] [(.ref a5)])) _
    refine XS.iloadN X14.here hx rfl (hb hby d3_62) rfl ?_
    show Steps p.tables e below (T14.setTop (mkF m 63 #[.val (.ref a1), .val (.int p2), .val (.int (0 : Int32))] [(.int (0 : Int32)), (.ref a5)])) _
    refine X14.aaload hx (j := (0 : Int32)) (v := (.ref a8)) (by rw [e14]; exact Ar15.1) (State.isArrayOf_alike hZ.alike Ar15.2.1) rfl Ar15.2.2 hin15 hat15 (g := (mkF m 63 #[.val (.ref a1), .val (.int p2), .val (.int (0 : Int32))] [(.int (0 : Int32)), (.ref a5)])) rfl rfl (hb hby d3_63) _ ?_
    show Steps p.tables e below (T14.setTop (mkF m 64 #[.val (.ref a1), .val (.int p2), .val (.int (0 : Int32))] [(.ref a8)])) _
    refine XS.aloadN X14.here hx rfl (hb hby d3_64) rfl rfl ?_
    show Steps p.tables e below (T14.setTop (mkF m 65 #[.val (.ref a1), .val (.int p2), .val (.int (0 : Int32))] [(.ref a1), (.ref a8)])) _
    refine st16 _ ?_
    show Steps p.tables e below (T16.setTop (mkF m 68 #[.val (.ref a1), .val (.int p2), .val (.int (0 : Int32))] [(.int (3 : Int32)), (.ref a8)])) _
    refine XS.sipush X16.here hx rfl (hb hby d3_68) ?_
    show Steps p.tables e below (T16.setTop (mkF m 71 #[.val (.ref a1), .val (.int p2), .val (.int (0 : Int32))] [(.int (4095 : Int32)), (.int (3 : Int32)), (.ref a8)])) _
    refine XS.iand X16.here hx rfl (hb hby d3_71) rfl ?_
    show Steps p.tables e below (T16.setTop (mkF m 72 #[.val (.ref a1), .val (.int p2), .val (.int (0 : Int32))] [(.int ((3 : Int32) &&& (4095 : Int32))), (.ref a8)])) _
    rw [(by decide +kernel : ((3 : Int32) &&& (4095 : Int32)) = (3 : Int32))]
    show Steps p.tables e below (T16.setTop (mkF m 72 #[.val (.ref a1), .val (.int p2), .val (.int (0 : Int32))] [(.int (3 : Int32)), (.ref a8)])) _
    refine XS.iloadN X16.here hx rfl (hb hby d3_72) rfl ?_
    show Steps p.tables e below (T16.setTop (mkF m 73 #[.val (.ref a1), .val (.int p2), .val (.int (0 : Int32))] [(.int p2), (.int (3 : Int32)), (.ref a8)])) _
    refine st24 _ ?_
    show Steps p.tables e below (T24.setTop (mkF m 74 #[.val (.ref a1), .val (.int p2), .val (.int (0 : Int32))] [])) _
    refine XS.aloadN X24.here hx rfl (hb hby d3_74) rfl rfl ?_
    show Steps p.tables e below (T24.setTop (mkF m 75 #[.val (.ref a1), .val (.int p2), .val (.int (0 : Int32))] [(.ref a1)])) _
    refine XS.dup X24.here hx rfl (hb hby d3_75) rfl rfl ?_
    show Steps p.tables e below (T24.setTop (mkF m 76 #[.val (.ref a1), .val (.int p2), .val (.int (0 : Int32))] [(.ref a1), (.ref a1)])) _
    refine st28 _ ?_
    show Steps p.tables e below (T28.setTop (mkF m 79 #[.val (.ref a1), .val (.int p2), .val (.int (0 : Int32))] [(.int (3 : Int32)), (.ref a1)])) _
    refine XS.iconst X28.here hx rfl (hb hby d3_79) ?_
    show Steps p.tables e below (T28.setTop (mkF m 80 #[.val (.ref a1), .val (.int p2), .val (.int (0 : Int32))] [(.int (1 : Int32)), (.int (3 : Int32)), (.ref a1)])) _
    refine XS.iadd X28.here hx rfl (hb hby d3_80) rfl ?_
    show Steps p.tables e below (T28.setTop (mkF m 81 #[.val (.ref a1), .val (.int p2), .val (.int (0 : Int32))] [(.int ((3 : Int32) + (1 : Int32))), (.ref a1)])) _
    rw [(by decide +kernel : ((3 : Int32) + (1 : Int32)) = (4 : Int32))]
    show Steps p.tables e below (T28.setTop (mkF m 81 #[.val (.ref a1), .val (.int p2), .val (.int (0 : Int32))] [(.int (4 : Int32)), (.ref a1)])) _
    refine st31 _ ?_
    show Steps p.tables e below (T31.setTop (mkF m 84 #[.val (.ref a1), .val (.int p2), .val (.int (0 : Int32))] [])) _
    exact X31.returnOut hx Bd.returns (hb hby d3_84) hr
  · show Q3_6 Z _ _ _ _ _ _ _ _ _ h0 n0 _ T31.heap _
    rw [e31]
    exact ⟨rfl, N31, (((Keep.refl h0 [a8, a1]).wr W24 (Or.inl (List.mem_of_getElem? (i := 0) rfl))).wr W31 (Or.inl (List.mem_of_getElem? (i := 1) rfl))), f32, f33, f34, f35, Fw31⟩
theorem ef_rm4_7 (m : MethodId) (x0 : Addr) : entryFrame m #[(.ref x0), (.int (0 : Int32))] 2 = mkF m 0 #[.val (.ref x0), .val (.int (0 : Int32))] [] := by first | (simp [entryFrame, mkF, argsToLocals, Value.category]; done) | rfl
def Q4_7 (Z : State) (a1 : Addr) (a2 : Addr) (a5 : Addr) (k6 : ClassId) (p9 : Int32) (p10 : Int32) (p11 : Int32) (p12 : Int32) (k13 : ClassId) (h0 : Heap) (n0 : Nat) (v : Option Value) (h : Heap) (L : List Loc) : Prop := (v = some (.int p9) ∧ Fr n0 L ∧ h = h0)
set_option maxRecDepth 65536 in
set_option maxHeartbeats 40000000 in
theorem rm4_7 (l : Launch) (Z : State) (a0 : Array Value) (hw : ∀ d ∈ own_ws, d.before a0 Z = true) (ws : List Jvm.Cond) (a1 : Addr) (a2 : Addr) (a5 : Addr) (k6 : ClassId) (p9 : Int32) (p10 : Int32) (p11 : Int32) (p12 : Int32) (k13 : ClassId) (h0 : Heap) (n0 : Nat) (O0 : Old Z n0 h0) (F3 : Fld Z h0 a1 "com/example/vestry/vestry/Ints" "blocks" "[[I" (.ref a2)) (V7 : Arv Z h0 a2 k6 (.array .int) (1 : Int32) [(.ref a5)] .null) (V14 : Arv Z h0 a5 k13 .int (4096 : Int32) [(.int p9), (.int p10), (.int p11), (.int p12)] (.int (0 : Int32))) :
    MetFree l M_2 (head1 (Jvm.Cond.code M_2 prog_60_method_4_code 2 (some .int) :: ws) ({ frames := 0, cells := 0, slots := 0, locals := 0 } : Room)) (fun a U => a = #[(.ref a1), (.int (0 : Int32))] ∧ Z.Warmed39 U.vm ∧ U.heap = h0) (fun _ _ _ _ _ => True) (fun _ U o U' => ∃ v L, o = .returned v ∧ Q4_7 Z a1 a2 a5 k6 p9 p10 p11 p12 k13 h0 n0 v U'.heap L ∧ FrameEnd U o U' L ({ frames := 0, cells := 0, slots := 0, locals := 0 } : Room).cells ({ frames := 0, cells := 0, slots := 0, locals := 0 } : Room).slots) := by
  refine MetFree.of_bodySF (plainFor_of_name pn_0) hisR ?_
  intro p e s m args below meth c s₁ Bd hml0 hP hK
  obtain ⟨rfl, hZ, hh⟩ := hP
  have hx := Bd.exec
  have hby := Bd.bytes
  have hml : c.maxLocals = 2 := hml0
  have hown : s.vm.findClass "com/example/vestry/vestry/Ints" = some m.cls := findClass_of_methodNamed Bd.named
  have hnm := (name_of_methodNamed Bd.named Bd.method).1
  have X0 : Stand p l e ({ frames := 0, cells := 0, slots := 0, locals := 0 } : Room) s m #[(.ref a1), (.int (0 : Int32))] below meth c s₁ [] 0 0 := Stand.of_body Bd
  have e0 : s₁.heap = h0 := by rw [← hh, Bd.state]; rfl
  have N0 := Fr.nil n0
  have pre0 : ∀ t, Steps p.tables e below (s₁.setTop (mkF m 0 #[.val (.ref a1), .val (.int (0 : Int32))] [])) t → Steps p.tables e below (s₁.setTop (entryFrame m #[(.ref a1), (.int (0 : Int32))] 2)) t := fun t k => castTop (ef_rm4_7 m a1) k
  obtain ⟨T4, X4, e4, st4⟩ := getF X0 hx hZ hown (host := "") (Or.inl (hw _ (gw 11 rfl))) Via.refl e0 F3 (g := (mkF m 1 #[.val (.ref a1), .val (.int (0 : Int32))] [(.ref a1)])) rfl rfl (hb hby d4_1)
  obtain ⟨cl8, Ar8, -, Sz8, -, Hh8, -⟩ := id V7
  have hin8 : ¬ ((0 : Int32) < 0 ∨ cl8.slots.size ≤ ((0 : Int32)).toNatClampNeg) := inb_of Sz8 ⟨by decide +kernel, by decide +kernel⟩
  have hat8 : cl8.slots[((0 : Int32)).toNatClampNeg]? = some (.ref a5) := Has.at Hh8 hin8 rfl
  obtain ⟨cl15, Ar15, -, Sz15, -, Hh15, -⟩ := id V14
  have hin15 : ¬ ((0 : Int32) < 0 ∨ cl15.slots.size ≤ ((0 : Int32)).toNatClampNeg) := inb_of Sz15 ⟨by decide +kernel, by decide +kernel⟩
  have hat15 : cl15.slots[((0 : Int32)).toNatClampNeg]? = some (.int p9) := Has.at Hh15 hin15 rfl
  obtain ⟨fs, hr, hrun, hended, hW, hsame⟩ := X4.leave (v := some (.int p9)) (fun h => by rw [Bd.returns] at h; cases h)
  refine ⟨_, _, pre0 _ ?_, hrun, hended, _, _, rfl, ?_, ⟨_, rfl⟩, hW, hsame.mono (by decide) (by decide)⟩
  · show Steps p.tables e below (s₁.setTop (mkF m 0 #[.val (.ref a1), .val (.int (0 : Int32))] [])) _
    refine XS.aloadN X0.here hx rfl (hb hby d4_0) rfl rfl ?_
    show Steps p.tables e below (s₁.setTop (mkF m 1 #[.val (.ref a1), .val (.int (0 : Int32))] [(.ref a1)])) _
    refine st4 _ ?_
    show Steps p.tables e below (T4.setTop (mkF m 4 #[.val (.ref a1), .val (.int (0 : Int32))] [(.ref a2)])) _
    refine XS.iloadN X4.here hx rfl (hb hby d4_4) rfl ?_
    show Steps p.tables e below (T4.setTop (mkF m 5 #[.val (.ref a1), .val (.int (0 : Int32))] [(.int (0 : Int32)), (.ref a2)])) _
    refine XS.bipush X4.here hx rfl (hb hby d4_5) ?_
    show Steps p.tables e below (T4.setTop (mkF m 7 #[.val (.ref a1), .val (.int (0 : Int32))] [(.int (12 : Int32)), (.int (0 : Int32)), (.ref a2)])) _
    refine XS.iushr X4.here hx rfl (hb hby d4_7) rfl ?_
    show Steps p.tables e below (T4.setTop (mkF m 8 #[.val (.ref a1), .val (.int (0 : Int32))] [(.int (((0 : Int32).toUInt32 >>> ((12 : Int32) &&& 31).toUInt32).toInt32)), (.ref a2)])) _
    rw [(by decide +kernel : (((0 : Int32).toUInt32 >>> ((12 : Int32) &&& 31).toUInt32).toInt32) = (0 : Int32))]
    show Steps p.tables e below (T4.setTop (mkF m 8 #[.val (.ref a1), .val (.int (0 : Int32))] [(.int (0 : Int32)), (.ref a2)])) _
    refine X4.aaload hx (j := (0 : Int32)) (v := (.ref a5)) (by rw [e4]; exact Ar8.1) (State.isArrayOf_alike hZ.alike Ar8.2.1) rfl Ar8.2.2 hin8 hat8 (g := (mkF m 8 #[.val (.ref a1), .val (.int (0 : Int32))] [(.int (0 : Int32)), (.ref a2)])) rfl rfl (hb hby d4_8) _ ?_
    show Steps p.tables e below (T4.setTop (mkF m 9 #[.val (.ref a1), .val (.int (0 : Int32))] [(.ref a5)])) _
    refine XS.iloadN X4.here hx rfl (hb hby d4_9) rfl ?_
    show Steps p.tables e below (T4.setTop (mkF m 10 #[.val (.ref a1), .val (.int (0 : Int32))] [(.int (0 : Int32)), (.ref a5)])) _
    refine XS.sipush X4.here hx rfl (hb hby d4_10) ?_
    show Steps p.tables e below (T4.setTop (mkF m 13 #[.val (.ref a1), .val (.int (0 : Int32))] [(.int (4095 : Int32)), (.int (0 : Int32)), (.ref a5)])) _
    refine XS.iand X4.here hx rfl (hb hby d4_13) rfl ?_
    show Steps p.tables e below (T4.setTop (mkF m 14 #[.val (.ref a1), .val (.int (0 : Int32))] [(.int ((0 : Int32) &&& (4095 : Int32))), (.ref a5)])) _
    rw [(by decide +kernel : ((0 : Int32) &&& (4095 : Int32)) = (0 : Int32))]
    show Steps p.tables e below (T4.setTop (mkF m 14 #[.val (.ref a1), .val (.int (0 : Int32))] [(.int (0 : Int32)), (.ref a5)])) _
    refine X4.iaload hx (j := (0 : Int32)) (v := (.int p9)) (by rw [e4]; exact Ar15.1) (State.isArrayOf_alike hZ.alike Ar15.2.1) Ar15.2.2 hin15 hat15 (g := (mkF m 14 #[.val (.ref a1), .val (.int (0 : Int32))] [(.int (0 : Int32)), (.ref a5)])) rfl rfl (hb hby d4_14) _ ?_
    show Steps p.tables e below (T4.setTop (mkF m 15 #[.val (.ref a1), .val (.int (0 : Int32))] [(.int p9)])) _
    exact retI X4 hx Bd.returns (hb hby d4_15) hr
  · show Q4_7 Z _ _ _ _ _ _ _ _ _ h0 n0 _ T4.heap _
    rw [e4]
    exact ⟨rfl, N0, rfl⟩
theorem ef_rm4_8 (m : MethodId) (x0 : Addr) : entryFrame m #[(.ref x0), (.int (1 : Int32))] 2 = mkF m 0 #[.val (.ref x0), .val (.int (1 : Int32))] [] := by first | (simp [entryFrame, mkF, argsToLocals, Value.category]; done) | rfl
def Q4_8 (Z : State) (a1 : Addr) (a2 : Addr) (a5 : Addr) (k6 : ClassId) (p9 : Int32) (p10 : Int32) (p11 : Int32) (p12 : Int32) (k13 : ClassId) (h0 : Heap) (n0 : Nat) (v : Option Value) (h : Heap) (L : List Loc) : Prop := (v = some (.int p10) ∧ Fr n0 L ∧ h = h0)
set_option maxRecDepth 65536 in
set_option maxHeartbeats 40000000 in
theorem rm4_8 (l : Launch) (Z : State) (a0 : Array Value) (hw : ∀ d ∈ own_ws, d.before a0 Z = true) (ws : List Jvm.Cond) (a1 : Addr) (a2 : Addr) (a5 : Addr) (k6 : ClassId) (p9 : Int32) (p10 : Int32) (p11 : Int32) (p12 : Int32) (k13 : ClassId) (h0 : Heap) (n0 : Nat) (O0 : Old Z n0 h0) (F3 : Fld Z h0 a1 "com/example/vestry/vestry/Ints" "blocks" "[[I" (.ref a2)) (V7 : Arv Z h0 a2 k6 (.array .int) (1 : Int32) [(.ref a5)] .null) (V14 : Arv Z h0 a5 k13 .int (4096 : Int32) [(.int p9), (.int p10), (.int p11), (.int p12)] (.int (0 : Int32))) :
    MetFree l M_2 (head1 (Jvm.Cond.code M_2 prog_60_method_4_code 2 (some .int) :: ws) ({ frames := 0, cells := 0, slots := 0, locals := 0 } : Room)) (fun a U => a = #[(.ref a1), (.int (1 : Int32))] ∧ Z.Warmed39 U.vm ∧ U.heap = h0) (fun _ _ _ _ _ => True) (fun _ U o U' => ∃ v L, o = .returned v ∧ Q4_8 Z a1 a2 a5 k6 p9 p10 p11 p12 k13 h0 n0 v U'.heap L ∧ FrameEnd U o U' L ({ frames := 0, cells := 0, slots := 0, locals := 0 } : Room).cells ({ frames := 0, cells := 0, slots := 0, locals := 0 } : Room).slots) := by
  refine MetFree.of_bodySF (plainFor_of_name pn_0) hisR ?_
  intro p e s m args below meth c s₁ Bd hml0 hP hK
  obtain ⟨rfl, hZ, hh⟩ := hP
  have hx := Bd.exec
  have hby := Bd.bytes
  have hml : c.maxLocals = 2 := hml0
  have hown : s.vm.findClass "com/example/vestry/vestry/Ints" = some m.cls := findClass_of_methodNamed Bd.named
  have hnm := (name_of_methodNamed Bd.named Bd.method).1
  have X0 : Stand p l e ({ frames := 0, cells := 0, slots := 0, locals := 0 } : Room) s m #[(.ref a1), (.int (1 : Int32))] below meth c s₁ [] 0 0 := Stand.of_body Bd
  have e0 : s₁.heap = h0 := by rw [← hh, Bd.state]; rfl
  have N0 := Fr.nil n0
  have pre0 : ∀ t, Steps p.tables e below (s₁.setTop (mkF m 0 #[.val (.ref a1), .val (.int (1 : Int32))] [])) t → Steps p.tables e below (s₁.setTop (entryFrame m #[(.ref a1), (.int (1 : Int32))] 2)) t := fun t k => castTop (ef_rm4_8 m a1) k
  obtain ⟨T4, X4, e4, st4⟩ := getF X0 hx hZ hown (host := "") (Or.inl (hw _ (gw 11 rfl))) Via.refl e0 F3 (g := (mkF m 1 #[.val (.ref a1), .val (.int (1 : Int32))] [(.ref a1)])) rfl rfl (hb hby d4_1)
  obtain ⟨cl8, Ar8, -, Sz8, -, Hh8, -⟩ := id V7
  have hin8 : ¬ ((0 : Int32) < 0 ∨ cl8.slots.size ≤ ((0 : Int32)).toNatClampNeg) := inb_of Sz8 ⟨by decide +kernel, by decide +kernel⟩
  have hat8 : cl8.slots[((0 : Int32)).toNatClampNeg]? = some (.ref a5) := Has.at Hh8 hin8 rfl
  obtain ⟨cl15, Ar15, -, Sz15, -, Hh15, -⟩ := id V14
  have hin15 : ¬ ((1 : Int32) < 0 ∨ cl15.slots.size ≤ ((1 : Int32)).toNatClampNeg) := inb_of Sz15 ⟨by decide +kernel, by decide +kernel⟩
  have hat15 : cl15.slots[((1 : Int32)).toNatClampNeg]? = some (.int p10) := Has.at Hh15 hin15 rfl
  obtain ⟨fs, hr, hrun, hended, hW, hsame⟩ := X4.leave (v := some (.int p10)) (fun h => by rw [Bd.returns] at h; cases h)
  refine ⟨_, _, pre0 _ ?_, hrun, hended, _, _, rfl, ?_, ⟨_, rfl⟩, hW, hsame.mono (by decide) (by decide)⟩
  · show Steps p.tables e below (s₁.setTop (mkF m 0 #[.val (.ref a1), .val (.int (1 : Int32))] [])) _
    refine XS.aloadN X0.here hx rfl (hb hby d4_0) rfl rfl ?_
    show Steps p.tables e below (s₁.setTop (mkF m 1 #[.val (.ref a1), .val (.int (1 : Int32))] [(.ref a1)])) _
    refine st4 _ ?_
    show Steps p.tables e below (T4.setTop (mkF m 4 #[.val (.ref a1), .val (.int (1 : Int32))] [(.ref a2)])) _
    refine XS.iloadN X4.here hx rfl (hb hby d4_4) rfl ?_
    show Steps p.tables e below (T4.setTop (mkF m 5 #[.val (.ref a1), .val (.int (1 : Int32))] [(.int (1 : Int32)), (.ref a2)])) _
    refine XS.bipush X4.here hx rfl (hb hby d4_5) ?_
    show Steps p.tables e below (T4.setTop (mkF m 7 #[.val (.ref a1), .val (.int (1 : Int32))] [(.int (12 : Int32)), (.int (1 : Int32)), (.ref a2)])) _
    refine XS.iushr X4.here hx rfl (hb hby d4_7) rfl ?_
    show Steps p.tables e below (T4.setTop (mkF m 8 #[.val (.ref a1), .val (.int (1 : Int32))] [(.int (((1 : Int32).toUInt32 >>> ((12 : Int32) &&& 31).toUInt32).toInt32)), (.ref a2)])) _
    rw [(by decide +kernel : (((1 : Int32).toUInt32 >>> ((12 : Int32) &&& 31).toUInt32).toInt32) = (0 : Int32))]
    show Steps p.tables e below (T4.setTop (mkF m 8 #[.val (.ref a1), .val (.int (1 : Int32))] [(.int (0 : Int32)), (.ref a2)])) _
    refine X4.aaload hx (j := (0 : Int32)) (v := (.ref a5)) (by rw [e4]; exact Ar8.1) (State.isArrayOf_alike hZ.alike Ar8.2.1) rfl Ar8.2.2 hin8 hat8 (g := (mkF m 8 #[.val (.ref a1), .val (.int (1 : Int32))] [(.int (0 : Int32)), (.ref a2)])) rfl rfl (hb hby d4_8) _ ?_
    show Steps p.tables e below (T4.setTop (mkF m 9 #[.val (.ref a1), .val (.int (1 : Int32))] [(.ref a5)])) _
    refine XS.iloadN X4.here hx rfl (hb hby d4_9) rfl ?_
    show Steps p.tables e below (T4.setTop (mkF m 10 #[.val (.ref a1), .val (.int (1 : Int32))] [(.int (1 : Int32)), (.ref a5)])) _
    refine XS.sipush X4.here hx rfl (hb hby d4_10) ?_
    show Steps p.tables e below (T4.setTop (mkF m 13 #[.val (.ref a1), .val (.int (1 : Int32))] [(.int (4095 : Int32)), (.int (1 : Int32)), (.ref a5)])) _
    refine XS.iand X4.here hx rfl (hb hby d4_13) rfl ?_
    show Steps p.tables e below (T4.setTop (mkF m 14 #[.val (.ref a1), .val (.int (1 : Int32))] [(.int ((1 : Int32) &&& (4095 : Int32))), (.ref a5)])) _
    rw [(by decide +kernel : ((1 : Int32) &&& (4095 : Int32)) = (1 : Int32))]
    show Steps p.tables e below (T4.setTop (mkF m 14 #[.val (.ref a1), .val (.int (1 : Int32))] [(.int (1 : Int32)), (.ref a5)])) _
    refine X4.iaload hx (j := (1 : Int32)) (v := (.int p10)) (by rw [e4]; exact Ar15.1) (State.isArrayOf_alike hZ.alike Ar15.2.1) Ar15.2.2 hin15 hat15 (g := (mkF m 14 #[.val (.ref a1), .val (.int (1 : Int32))] [(.int (1 : Int32)), (.ref a5)])) rfl rfl (hb hby d4_14) _ ?_
    show Steps p.tables e below (T4.setTop (mkF m 15 #[.val (.ref a1), .val (.int (1 : Int32))] [(.int p10)])) _
    exact retI X4 hx Bd.returns (hb hby d4_15) hr
  · show Q4_8 Z _ _ _ _ _ _ _ _ _ h0 n0 _ T4.heap _
    rw [e4]
    exact ⟨rfl, N0, rfl⟩
theorem ef_rm4_9 (m : MethodId) (x0 : Addr) : entryFrame m #[(.ref x0), (.int (2 : Int32))] 2 = mkF m 0 #[.val (.ref x0), .val (.int (2 : Int32))] [] := by first | (simp [entryFrame, mkF, argsToLocals, Value.category]; done) | rfl
def Q4_9 (Z : State) (a1 : Addr) (a2 : Addr) (a5 : Addr) (k6 : ClassId) (p9 : Int32) (p10 : Int32) (p11 : Int32) (p12 : Int32) (k13 : ClassId) (h0 : Heap) (n0 : Nat) (v : Option Value) (h : Heap) (L : List Loc) : Prop := (v = some (.int p11) ∧ Fr n0 L ∧ h = h0)
set_option maxRecDepth 65536 in
set_option maxHeartbeats 40000000 in
theorem rm4_9 (l : Launch) (Z : State) (a0 : Array Value) (hw : ∀ d ∈ own_ws, d.before a0 Z = true) (ws : List Jvm.Cond) (a1 : Addr) (a2 : Addr) (a5 : Addr) (k6 : ClassId) (p9 : Int32) (p10 : Int32) (p11 : Int32) (p12 : Int32) (k13 : ClassId) (h0 : Heap) (n0 : Nat) (O0 : Old Z n0 h0) (F3 : Fld Z h0 a1 "com/example/vestry/vestry/Ints" "blocks" "[[I" (.ref a2)) (V7 : Arv Z h0 a2 k6 (.array .int) (1 : Int32) [(.ref a5)] .null) (V14 : Arv Z h0 a5 k13 .int (4096 : Int32) [(.int p9), (.int p10), (.int p11), (.int p12)] (.int (0 : Int32))) :
    MetFree l M_2 (head1 (Jvm.Cond.code M_2 prog_60_method_4_code 2 (some .int) :: ws) ({ frames := 0, cells := 0, slots := 0, locals := 0 } : Room)) (fun a U => a = #[(.ref a1), (.int (2 : Int32))] ∧ Z.Warmed39 U.vm ∧ U.heap = h0) (fun _ _ _ _ _ => True) (fun _ U o U' => ∃ v L, o = .returned v ∧ Q4_9 Z a1 a2 a5 k6 p9 p10 p11 p12 k13 h0 n0 v U'.heap L ∧ FrameEnd U o U' L ({ frames := 0, cells := 0, slots := 0, locals := 0 } : Room).cells ({ frames := 0, cells := 0, slots := 0, locals := 0 } : Room).slots) := by
  refine MetFree.of_bodySF (plainFor_of_name pn_0) hisR ?_
  intro p e s m args below meth c s₁ Bd hml0 hP hK
  obtain ⟨rfl, hZ, hh⟩ := hP
  have hx := Bd.exec
  have hby := Bd.bytes
  have hml : c.maxLocals = 2 := hml0
  have hown : s.vm.findClass "com/example/vestry/vestry/Ints" = some m.cls := findClass_of_methodNamed Bd.named
  have hnm := (name_of_methodNamed Bd.named Bd.method).1
  have X0 : Stand p l e ({ frames := 0, cells := 0, slots := 0, locals := 0 } : Room) s m #[(.ref a1), (.int (2 : Int32))] below meth c s₁ [] 0 0 := Stand.of_body Bd
  have e0 : s₁.heap = h0 := by rw [← hh, Bd.state]; rfl
  have N0 := Fr.nil n0
  have pre0 : ∀ t, Steps p.tables e below (s₁.setTop (mkF m 0 #[.val (.ref a1), .val (.int (2 : Int32))] [])) t → Steps p.tables e below (s₁.setTop (entryFrame m #[(.ref a1), (.int (2 : Int32))] 2)) t := fun t k => castTop (ef_rm4_9 m a1) k
  obtain ⟨T4, X4, e4, st4⟩ := getF X0 hx hZ hown (host := "") (Or.inl (hw _ (gw 11 rfl))) Via.refl e0 F3 (g := (mkF m 1 #[.val (.ref a1), .val (.int (2 : Int32))] [(.ref a1)])) rfl rfl (hb hby d4_1)
  obtain ⟨cl8, Ar8, -, Sz8, -, Hh8, -⟩ := id V7
  have hin8 : ¬ ((0 : Int32) < 0 ∨ cl8.slots.size ≤ ((0 : Int32)).toNatClampNeg) := inb_of Sz8 ⟨by decide +kernel, by decide +kernel⟩
  have hat8 : cl8.slots[((0 : Int32)).toNatClampNeg]? = some (.ref a5) := Has.at Hh8 hin8 rfl
  obtain ⟨cl15, Ar15, -, Sz15, -, Hh15, -⟩ := id V14
  have hin15 : ¬ ((2 : Int32) < 0 ∨ cl15.slots.size ≤ ((2 : Int32)).toNatClampNeg) := inb_of Sz15 ⟨by decide +kernel, by decide +kernel⟩
  have hat15 : cl15.slots[((2 : Int32)).toNatClampNeg]? = some (.int p11) := Has.at Hh15 hin15 rfl
  obtain ⟨fs, hr, hrun, hended, hW, hsame⟩ := X4.leave (v := some (.int p11)) (fun h => by rw [Bd.returns] at h; cases h)
  refine ⟨_, _, pre0 _ ?_, hrun, hended, _, _, rfl, ?_, ⟨_, rfl⟩, hW, hsame.mono (by decide) (by decide)⟩
  · show Steps p.tables e below (s₁.setTop (mkF m 0 #[.val (.ref a1), .val (.int (2 : Int32))] [])) _
    refine XS.aloadN X0.here hx rfl (hb hby d4_0) rfl rfl ?_
    show Steps p.tables e below (s₁.setTop (mkF m 1 #[.val (.ref a1), .val (.int (2 : Int32))] [(.ref a1)])) _
    refine st4 _ ?_
    show Steps p.tables e below (T4.setTop (mkF m 4 #[.val (.ref a1), .val (.int (2 : Int32))] [(.ref a2)])) _
    refine XS.iloadN X4.here hx rfl (hb hby d4_4) rfl ?_
    show Steps p.tables e below (T4.setTop (mkF m 5 #[.val (.ref a1), .val (.int (2 : Int32))] [(.int (2 : Int32)), (.ref a2)])) _
    refine XS.bipush X4.here hx rfl (hb hby d4_5) ?_
    show Steps p.tables e below (T4.setTop (mkF m 7 #[.val (.ref a1), .val (.int (2 : Int32))] [(.int (12 : Int32)), (.int (2 : Int32)), (.ref a2)])) _
    refine XS.iushr X4.here hx rfl (hb hby d4_7) rfl ?_
    show Steps p.tables e below (T4.setTop (mkF m 8 #[.val (.ref a1), .val (.int (2 : Int32))] [(.int (((2 : Int32).toUInt32 >>> ((12 : Int32) &&& 31).toUInt32).toInt32)), (.ref a2)])) _
    rw [(by decide +kernel : (((2 : Int32).toUInt32 >>> ((12 : Int32) &&& 31).toUInt32).toInt32) = (0 : Int32))]
    show Steps p.tables e below (T4.setTop (mkF m 8 #[.val (.ref a1), .val (.int (2 : Int32))] [(.int (0 : Int32)), (.ref a2)])) _
    refine X4.aaload hx (j := (0 : Int32)) (v := (.ref a5)) (by rw [e4]; exact Ar8.1) (State.isArrayOf_alike hZ.alike Ar8.2.1) rfl Ar8.2.2 hin8 hat8 (g := (mkF m 8 #[.val (.ref a1), .val (.int (2 : Int32))] [(.int (0 : Int32)), (.ref a2)])) rfl rfl (hb hby d4_8) _ ?_
    show Steps p.tables e below (T4.setTop (mkF m 9 #[.val (.ref a1), .val (.int (2 : Int32))] [(.ref a5)])) _
    refine XS.iloadN X4.here hx rfl (hb hby d4_9) rfl ?_
    show Steps p.tables e below (T4.setTop (mkF m 10 #[.val (.ref a1), .val (.int (2 : Int32))] [(.int (2 : Int32)), (.ref a5)])) _
    refine XS.sipush X4.here hx rfl (hb hby d4_10) ?_
    show Steps p.tables e below (T4.setTop (mkF m 13 #[.val (.ref a1), .val (.int (2 : Int32))] [(.int (4095 : Int32)), (.int (2 : Int32)), (.ref a5)])) _
    refine XS.iand X4.here hx rfl (hb hby d4_13) rfl ?_
    show Steps p.tables e below (T4.setTop (mkF m 14 #[.val (.ref a1), .val (.int (2 : Int32))] [(.int ((2 : Int32) &&& (4095 : Int32))), (.ref a5)])) _
    rw [(by decide +kernel : ((2 : Int32) &&& (4095 : Int32)) = (2 : Int32))]
    show Steps p.tables e below (T4.setTop (mkF m 14 #[.val (.ref a1), .val (.int (2 : Int32))] [(.int (2 : Int32)), (.ref a5)])) _
    refine X4.iaload hx (j := (2 : Int32)) (v := (.int p11)) (by rw [e4]; exact Ar15.1) (State.isArrayOf_alike hZ.alike Ar15.2.1) Ar15.2.2 hin15 hat15 (g := (mkF m 14 #[.val (.ref a1), .val (.int (2 : Int32))] [(.int (2 : Int32)), (.ref a5)])) rfl rfl (hb hby d4_14) _ ?_
    show Steps p.tables e below (T4.setTop (mkF m 15 #[.val (.ref a1), .val (.int (2 : Int32))] [(.int p11)])) _
    exact retI X4 hx Bd.returns (hb hby d4_15) hr
  · show Q4_9 Z _ _ _ _ _ _ _ _ _ h0 n0 _ T4.heap _
    rw [e4]
    exact ⟨rfl, N0, rfl⟩
theorem ef_rm4_10 (m : MethodId) (x0 : Addr) : entryFrame m #[(.ref x0), (.int (3 : Int32))] 2 = mkF m 0 #[.val (.ref x0), .val (.int (3 : Int32))] [] := by first | (simp [entryFrame, mkF, argsToLocals, Value.category]; done) | rfl
def Q4_10 (Z : State) (a1 : Addr) (a2 : Addr) (a5 : Addr) (k6 : ClassId) (p9 : Int32) (p10 : Int32) (p11 : Int32) (p12 : Int32) (k13 : ClassId) (h0 : Heap) (n0 : Nat) (v : Option Value) (h : Heap) (L : List Loc) : Prop := (v = some (.int p12) ∧ Fr n0 L ∧ h = h0)
set_option maxRecDepth 65536 in
set_option maxHeartbeats 40000000 in
theorem rm4_10 (l : Launch) (Z : State) (a0 : Array Value) (hw : ∀ d ∈ own_ws, d.before a0 Z = true) (ws : List Jvm.Cond) (a1 : Addr) (a2 : Addr) (a5 : Addr) (k6 : ClassId) (p9 : Int32) (p10 : Int32) (p11 : Int32) (p12 : Int32) (k13 : ClassId) (h0 : Heap) (n0 : Nat) (O0 : Old Z n0 h0) (F3 : Fld Z h0 a1 "com/example/vestry/vestry/Ints" "blocks" "[[I" (.ref a2)) (V7 : Arv Z h0 a2 k6 (.array .int) (1 : Int32) [(.ref a5)] .null) (V14 : Arv Z h0 a5 k13 .int (4096 : Int32) [(.int p9), (.int p10), (.int p11), (.int p12)] (.int (0 : Int32))) :
    MetFree l M_2 (head1 (Jvm.Cond.code M_2 prog_60_method_4_code 2 (some .int) :: ws) ({ frames := 0, cells := 0, slots := 0, locals := 0 } : Room)) (fun a U => a = #[(.ref a1), (.int (3 : Int32))] ∧ Z.Warmed39 U.vm ∧ U.heap = h0) (fun _ _ _ _ _ => True) (fun _ U o U' => ∃ v L, o = .returned v ∧ Q4_10 Z a1 a2 a5 k6 p9 p10 p11 p12 k13 h0 n0 v U'.heap L ∧ FrameEnd U o U' L ({ frames := 0, cells := 0, slots := 0, locals := 0 } : Room).cells ({ frames := 0, cells := 0, slots := 0, locals := 0 } : Room).slots) := by
  refine MetFree.of_bodySF (plainFor_of_name pn_0) hisR ?_
  intro p e s m args below meth c s₁ Bd hml0 hP hK
  obtain ⟨rfl, hZ, hh⟩ := hP
  have hx := Bd.exec
  have hby := Bd.bytes
  have hml : c.maxLocals = 2 := hml0
  have hown : s.vm.findClass "com/example/vestry/vestry/Ints" = some m.cls := findClass_of_methodNamed Bd.named
  have hnm := (name_of_methodNamed Bd.named Bd.method).1
  have X0 : Stand p l e ({ frames := 0, cells := 0, slots := 0, locals := 0 } : Room) s m #[(.ref a1), (.int (3 : Int32))] below meth c s₁ [] 0 0 := Stand.of_body Bd
  have e0 : s₁.heap = h0 := by rw [← hh, Bd.state]; rfl
  have N0 := Fr.nil n0
  have pre0 : ∀ t, Steps p.tables e below (s₁.setTop (mkF m 0 #[.val (.ref a1), .val (.int (3 : Int32))] [])) t → Steps p.tables e below (s₁.setTop (entryFrame m #[(.ref a1), (.int (3 : Int32))] 2)) t := fun t k => castTop (ef_rm4_10 m a1) k
  obtain ⟨T4, X4, e4, st4⟩ := getF X0 hx hZ hown (host := "") (Or.inl (hw _ (gw 11 rfl))) Via.refl e0 F3 (g := (mkF m 1 #[.val (.ref a1), .val (.int (3 : Int32))] [(.ref a1)])) rfl rfl (hb hby d4_1)
  obtain ⟨cl8, Ar8, -, Sz8, -, Hh8, -⟩ := id V7
  have hin8 : ¬ ((0 : Int32) < 0 ∨ cl8.slots.size ≤ ((0 : Int32)).toNatClampNeg) := inb_of Sz8 ⟨by decide +kernel, by decide +kernel⟩
  have hat8 : cl8.slots[((0 : Int32)).toNatClampNeg]? = some (.ref a5) := Has.at Hh8 hin8 rfl
  obtain ⟨cl15, Ar15, -, Sz15, -, Hh15, -⟩ := id V14
  have hin15 : ¬ ((3 : Int32) < 0 ∨ cl15.slots.size ≤ ((3 : Int32)).toNatClampNeg) := inb_of Sz15 ⟨by decide +kernel, by decide +kernel⟩
  have hat15 : cl15.slots[((3 : Int32)).toNatClampNeg]? = some (.int p12) := Has.at Hh15 hin15 rfl
  obtain ⟨fs, hr, hrun, hended, hW, hsame⟩ := X4.leave (v := some (.int p12)) (fun h => by rw [Bd.returns] at h; cases h)
  refine ⟨_, _, pre0 _ ?_, hrun, hended, _, _, rfl, ?_, ⟨_, rfl⟩, hW, hsame.mono (by decide) (by decide)⟩
  · show Steps p.tables e below (s₁.setTop (mkF m 0 #[.val (.ref a1), .val (.int (3 : Int32))] [])) _
    refine XS.aloadN X0.here hx rfl (hb hby d4_0) rfl rfl ?_
    show Steps p.tables e below (s₁.setTop (mkF m 1 #[.val (.ref a1), .val (.int (3 : Int32))] [(.ref a1)])) _
    refine st4 _ ?_
    show Steps p.tables e below (T4.setTop (mkF m 4 #[.val (.ref a1), .val (.int (3 : Int32))] [(.ref a2)])) _
    refine XS.iloadN X4.here hx rfl (hb hby d4_4) rfl ?_
    show Steps p.tables e below (T4.setTop (mkF m 5 #[.val (.ref a1), .val (.int (3 : Int32))] [(.int (3 : Int32)), (.ref a2)])) _
    refine XS.bipush X4.here hx rfl (hb hby d4_5) ?_
    show Steps p.tables e below (T4.setTop (mkF m 7 #[.val (.ref a1), .val (.int (3 : Int32))] [(.int (12 : Int32)), (.int (3 : Int32)), (.ref a2)])) _
    refine XS.iushr X4.here hx rfl (hb hby d4_7) rfl ?_
    show Steps p.tables e below (T4.setTop (mkF m 8 #[.val (.ref a1), .val (.int (3 : Int32))] [(.int (((3 : Int32).toUInt32 >>> ((12 : Int32) &&& 31).toUInt32).toInt32)), (.ref a2)])) _
    rw [(by decide +kernel : (((3 : Int32).toUInt32 >>> ((12 : Int32) &&& 31).toUInt32).toInt32) = (0 : Int32))]
    show Steps p.tables e below (T4.setTop (mkF m 8 #[.val (.ref a1), .val (.int (3 : Int32))] [(.int (0 : Int32)), (.ref a2)])) _
    refine X4.aaload hx (j := (0 : Int32)) (v := (.ref a5)) (by rw [e4]; exact Ar8.1) (State.isArrayOf_alike hZ.alike Ar8.2.1) rfl Ar8.2.2 hin8 hat8 (g := (mkF m 8 #[.val (.ref a1), .val (.int (3 : Int32))] [(.int (0 : Int32)), (.ref a2)])) rfl rfl (hb hby d4_8) _ ?_
    show Steps p.tables e below (T4.setTop (mkF m 9 #[.val (.ref a1), .val (.int (3 : Int32))] [(.ref a5)])) _
    refine XS.iloadN X4.here hx rfl (hb hby d4_9) rfl ?_
    show Steps p.tables e below (T4.setTop (mkF m 10 #[.val (.ref a1), .val (.int (3 : Int32))] [(.int (3 : Int32)), (.ref a5)])) _
    refine XS.sipush X4.here hx rfl (hb hby d4_10) ?_
    show Steps p.tables e below (T4.setTop (mkF m 13 #[.val (.ref a1), .val (.int (3 : Int32))] [(.int (4095 : Int32)), (.int (3 : Int32)), (.ref a5)])) _
    refine XS.iand X4.here hx rfl (hb hby d4_13) rfl ?_
    show Steps p.tables e below (T4.setTop (mkF m 14 #[.val (.ref a1), .val (.int (3 : Int32))] [(.int ((3 : Int32) &&& (4095 : Int32))), (.ref a5)])) _
    rw [(by decide +kernel : ((3 : Int32) &&& (4095 : Int32)) = (3 : Int32))]
    show Steps p.tables e below (T4.setTop (mkF m 14 #[.val (.ref a1), .val (.int (3 : Int32))] [(.int (3 : Int32)), (.ref a5)])) _
    refine X4.iaload hx (j := (3 : Int32)) (v := (.int p12)) (by rw [e4]; exact Ar15.1) (State.isArrayOf_alike hZ.alike Ar15.2.1) Ar15.2.2 hin15 hat15 (g := (mkF m 14 #[.val (.ref a1), .val (.int (3 : Int32))] [(.int (3 : Int32)), (.ref a5)])) rfl rfl (hb hby d4_14) _ ?_
    show Steps p.tables e below (T4.setTop (mkF m 15 #[.val (.ref a1), .val (.int (3 : Int32))] [(.int p12)])) _
    exact retI X4 hx Bd.returns (hb hby d4_15) hr
  · show Q4_10 Z _ _ _ _ _ _ _ _ _ h0 n0 _ T4.heap _
    rw [e4]
    exact ⟨rfl, N0, rfl⟩
theorem ef_rm5_11 (m : MethodId) (x0 : Addr) (x2 : Int32) : entryFrame m #[(.ref x0), (.int (0 : Int32)), (.int x2)] 3 = mkF m 0 #[.val (.ref x0), .val (.int (0 : Int32)), .val (.int x2)] [] := by first | (simp [entryFrame, mkF, argsToLocals, Value.category]; done) | rfl
def Q5_11 (Z : State) (a1 : Addr) (p2 : Int32) (a3 : Addr) (a6 : Addr) (k7 : ClassId) (p10 : Int32) (p11 : Int32) (p12 : Int32) (p13 : Int32) (k14 : ClassId) (h0 : Heap) (n0 : Nat) (v : Option Value) (h : Heap) (L : List Loc) : Prop := (v = none ∧ Fr n0 L ∧ Keep h0 h [a6] ∧ Exa Z h a6 "[I" ∧ Arv Z h a6 k14 .int (4096 : Int32) [(.int p2), (.int p11), (.int p12), (.int p13)] (.int (0 : Int32)))
set_option maxRecDepth 65536 in
set_option maxHeartbeats 40000000 in
theorem rm5_11 (l : Launch) (Z : State) (a0 : Array Value) (hw : ∀ d ∈ own_ws, d.before a0 Z = true) (ws : List Jvm.Cond) (a1 : Addr) (p2 : Int32) (a3 : Addr) (a6 : Addr) (k7 : ClassId) (p10 : Int32) (p11 : Int32) (p12 : Int32) (p13 : Int32) (k14 : ClassId) (h0 : Heap) (n0 : Nat) (O0 : Old Z n0 h0) (F4 : Fld Z h0 a1 "com/example/vestry/vestry/Ints" "blocks" "[[I" (.ref a3)) (V8 : Arv Z h0 a3 k7 (.array .int) (1 : Int32) [(.ref a6)] .null) (V15 : Arv Z h0 a6 k14 .int (4096 : Int32) [(.int p10), (.int p11), (.int p12), (.int p13)] (.int (0 : Int32))) (g_a6 : n0 ≤ a6) (E_18 : Exa Z h0 a6 "[I") :
    MetFree l M_3 (head1 (Jvm.Cond.code M_3 prog_60_method_5_code 3 none :: ws) ({ frames := 0, cells := 0, slots := 0, locals := 0 } : Room)) (fun a U => a = #[(.ref a1), (.int (0 : Int32)), (.int p2)] ∧ Z.Warmed39 U.vm ∧ U.heap = h0) (fun _ _ _ _ _ => True) (fun _ U o U' => ∃ v L, o = .returned v ∧ Q5_11 Z a1 p2 a3 a6 k7 p10 p11 p12 p13 k14 h0 n0 v U'.heap L ∧ FrameEnd U o U' L ({ frames := 0, cells := 0, slots := 0, locals := 0 } : Room).cells ({ frames := 0, cells := 0, slots := 0, locals := 0 } : Room).slots) := by
  refine MetFree.of_bodySF (plainFor_of_name pn_0) hisR ?_
  intro p e s m args below meth c s₁ Bd hml0 hP hK
  obtain ⟨rfl, hZ, hh⟩ := hP
  have hx := Bd.exec
  have hby := Bd.bytes
  have hml : c.maxLocals = 3 := hml0
  have hown : s.vm.findClass "com/example/vestry/vestry/Ints" = some m.cls := findClass_of_methodNamed Bd.named
  have hnm := (name_of_methodNamed Bd.named Bd.method).1
  have X0 : Stand p l e ({ frames := 0, cells := 0, slots := 0, locals := 0 } : Room) s m #[(.ref a1), (.int (0 : Int32)), (.int p2)] below meth c s₁ [] 0 0 := Stand.of_body Bd
  have e0 : s₁.heap = h0 := by rw [← hh, Bd.state]; rfl
  have N0 := Fr.nil n0
  have pre0 : ∀ t, Steps p.tables e below (s₁.setTop (mkF m 0 #[.val (.ref a1), .val (.int (0 : Int32)), .val (.int p2)] [])) t → Steps p.tables e below (s₁.setTop (entryFrame m #[(.ref a1), (.int (0 : Int32)), (.int p2)] 3)) t := fun t k => castTop (ef_rm5_11 m a1 p2) k
  obtain ⟨T5, X5, e5, st5⟩ := getF X0 hx hZ hown (host := "") (Or.inl (hw _ (gw 11 rfl))) Via.refl e0 F4 (g := (mkF m 1 #[.val (.ref a1), .val (.int (0 : Int32)), .val (.int p2)] [(.ref a1)])) rfl rfl (hb hby d5_1)
  obtain ⟨cl9, Ar9, -, Sz9, -, Hh9, -⟩ := id V8
  have hin9 : ¬ ((0 : Int32) < 0 ∨ cl9.slots.size ≤ ((0 : Int32)).toNatClampNeg) := inb_of Sz9 ⟨by decide +kernel, by decide +kernel⟩
  have hat9 : cl9.slots[((0 : Int32)).toNatClampNeg]? = some (.ref a6) := Has.at Hh9 hin9 rfl
  obtain ⟨cl16, Ar16, qk16, Sz16, Nn16, Hh16, Gg16⟩ := id V15
  have hin16 : ¬ ((0 : Int32) < 0 ∨ cl16.slots.size ≤ ((0 : Int32)).toNatClampNeg) := inb_of Sz16 ⟨by decide +kernel, by decide +kernel⟩
  obtain ⟨T17, h17, X17, e17, W17, st17⟩ := stI X5 hx hZ e5 Ar16 (j := (0 : Int32)) hin16 (g := (mkF m 15 #[.val (.ref a1), .val (.int (0 : Int32)), .val (.int p2)] [(.int p2), (.int (0 : Int32)), (.ref a6)])) rfl rfl (hb hby d5_15)
  have O17 : Old Z n0 h17 := O0.wr W17 g_a6
  have V17 : Arv Z h17 a6 k14 .int (4096 : Int32) [(.int p2), (.int p11), (.int p12), (.int p13)] (.int (0 : Int32)) := Arv.set Ar16 qk16 Sz16 Nn16 Hh16 Gg16 rfl W17 0 rfl (Nat.le_of_ble_eq_true rfl)
  have N17 := Fr.snoc X17 N0 g_a6
  obtain ⟨fs, hr, hrun, hended, hW, hsame⟩ := X17.leave (v := none) (fun _ => rfl)
  have f19 : Exa Z h17 a6 "[I" := (Exa.wr W17 E_18)
  refine ⟨_, _, pre0 _ ?_, hrun, hended, _, _, rfl, ?_, ⟨_, rfl⟩, hW, hsame.mono (by decide) (by decide)⟩
  · show Steps p.tables e below (s₁.setTop (mkF m 0 #[.val (.ref a1), .val (.int (0 : Int32)), .val (.int p2)] [])) _
    refine XS.aloadN X0.here hx rfl (hb hby d5_0) rfl rfl ?_
    show Steps p.tables e below (s₁.setTop (mkF m 1 #[.val (.ref a1), .val (.int (0 : Int32)), .val (.int p2)] [(.ref a1)])) _
    refine st5 _ ?_
    show Steps p.tables e below (T5.setTop (mkF m 4 #[.val (.ref a1), .val (.int (0 : Int32)), .val (.int p2)] [(.ref a3)])) _
    refine XS.iloadN X5.here hx rfl (hb hby d5_4) rfl ?_
    show Steps p.tables e below (T5.setTop (mkF m 5 #[.val (.ref a1), .val (.int (0 : Int32)), .val (.int p2)] [(.int (0 : Int32)), (.ref a3)])) _
    refine XS.bipush X5.here hx rfl (hb hby d5_5) ?_
    show Steps p.tables e below (T5.setTop (mkF m 7 #[.val (.ref a1), .val (.int (0 : Int32)), .val (.int p2)] [(.int (12 : Int32)), (.int (0 : Int32)), (.ref a3)])) _
    refine XS.iushr X5.here hx rfl (hb hby d5_7) rfl ?_
    show Steps p.tables e below (T5.setTop (mkF m 8 #[.val (.ref a1), .val (.int (0 : Int32)), .val (.int p2)] [(.int (((0 : Int32).toUInt32 >>> ((12 : Int32) &&& 31).toUInt32).toInt32)), (.ref a3)])) _
    rw [(by decide +kernel : (((0 : Int32).toUInt32 >>> ((12 : Int32) &&& 31).toUInt32).toInt32) = (0 : Int32))]
    show Steps p.tables e below (T5.setTop (mkF m 8 #[.val (.ref a1), .val (.int (0 : Int32)), .val (.int p2)] [(.int (0 : Int32)), (.ref a3)])) _
    refine X5.aaload hx (j := (0 : Int32)) (v := (.ref a6)) (by rw [e5]; exact Ar9.1) (State.isArrayOf_alike hZ.alike Ar9.2.1) rfl Ar9.2.2 hin9 hat9 (g := (mkF m 8 #[.val (.ref a1), .val (.int (0 : Int32)), .val (.int p2)] [(.int (0 : Int32)), (.ref a3)])) rfl rfl (hb hby d5_8) _ ?_
    show Steps p.tables e below (T5.setTop (mkF m 9 #[.val (.ref a1), .val (.int (0 : Int32)), .val (.int p2)] [(.ref a6)])) _
    refine XS.iloadN X5.here hx rfl (hb hby d5_9) rfl ?_
    show Steps p.tables e below (T5.setTop (mkF m 10 #[.val (.ref a1), .val (.int (0 : Int32)), .val (.int p2)] [(.int (0 : Int32)), (.ref a6)])) _
    refine XS.sipush X5.here hx rfl (hb hby d5_10) ?_
    show Steps p.tables e below (T5.setTop (mkF m 13 #[.val (.ref a1), .val (.int (0 : Int32)), .val (.int p2)] [(.int (4095 : Int32)), (.int (0 : Int32)), (.ref a6)])) _
    refine XS.iand X5.here hx rfl (hb hby d5_13) rfl ?_
    show Steps p.tables e below (T5.setTop (mkF m 14 #[.val (.ref a1), .val (.int (0 : Int32)), .val (.int p2)] [(.int ((0 : Int32) &&& (4095 : Int32))), (.ref a6)])) _
    rw [(by decide +kernel : ((0 : Int32) &&& (4095 : Int32)) = (0 : Int32))]
    show Steps p.tables e below (T5.setTop (mkF m 14 #[.val (.ref a1), .val (.int (0 : Int32)), .val (.int p2)] [(.int (0 : Int32)), (.ref a6)])) _
    refine XS.iloadN X5.here hx rfl (hb hby d5_14) rfl ?_
    show Steps p.tables e below (T5.setTop (mkF m 15 #[.val (.ref a1), .val (.int (0 : Int32)), .val (.int p2)] [(.int p2), (.int (0 : Int32)), (.ref a6)])) _
    refine st17 _ ?_
    show Steps p.tables e below (T17.setTop (mkF m 16 #[.val (.ref a1), .val (.int (0 : Int32)), .val (.int p2)] [])) _
    exact X17.returnOut hx Bd.returns (hb hby d5_16) hr
  · show Q5_11 Z _ _ _ _ _ _ _ _ _ _ h0 n0 _ T17.heap _
    rw [e17]
    exact ⟨rfl, N17, ((Keep.refl h0 [a6]).wr W17 (Or.inl (List.mem_of_getElem? (i := 0) rfl))), f19, V17⟩
theorem ef_rm5_12 (m : MethodId) (x0 : Addr) (x2 : Int32) : entryFrame m #[(.ref x0), (.int (1 : Int32)), (.int x2)] 3 = mkF m 0 #[.val (.ref x0), .val (.int (1 : Int32)), .val (.int x2)] [] := by first | (simp [entryFrame, mkF, argsToLocals, Value.category]; done) | rfl
def Q5_12 (Z : State) (a1 : Addr) (p2 : Int32) (a3 : Addr) (a6 : Addr) (k7 : ClassId) (p10 : Int32) (p11 : Int32) (p12 : Int32) (p13 : Int32) (k14 : ClassId) (h0 : Heap) (n0 : Nat) (v : Option Value) (h : Heap) (L : List Loc) : Prop := (v = none ∧ Fr n0 L ∧ Keep h0 h [a6] ∧ Exa Z h a6 "[I" ∧ Arv Z h a6 k14 .int (4096 : Int32) [(.int p10), (.int p2), (.int p12), (.int p13)] (.int (0 : Int32)))
set_option maxRecDepth 65536 in
set_option maxHeartbeats 40000000 in
theorem rm5_12 (l : Launch) (Z : State) (a0 : Array Value) (hw : ∀ d ∈ own_ws, d.before a0 Z = true) (ws : List Jvm.Cond) (a1 : Addr) (p2 : Int32) (a3 : Addr) (a6 : Addr) (k7 : ClassId) (p10 : Int32) (p11 : Int32) (p12 : Int32) (p13 : Int32) (k14 : ClassId) (h0 : Heap) (n0 : Nat) (O0 : Old Z n0 h0) (F4 : Fld Z h0 a1 "com/example/vestry/vestry/Ints" "blocks" "[[I" (.ref a3)) (V8 : Arv Z h0 a3 k7 (.array .int) (1 : Int32) [(.ref a6)] .null) (V15 : Arv Z h0 a6 k14 .int (4096 : Int32) [(.int p10), (.int p11), (.int p12), (.int p13)] (.int (0 : Int32))) (g_a6 : n0 ≤ a6) (E_18 : Exa Z h0 a6 "[I") :
    MetFree l M_3 (head1 (Jvm.Cond.code M_3 prog_60_method_5_code 3 none :: ws) ({ frames := 0, cells := 0, slots := 0, locals := 0 } : Room)) (fun a U => a = #[(.ref a1), (.int (1 : Int32)), (.int p2)] ∧ Z.Warmed39 U.vm ∧ U.heap = h0) (fun _ _ _ _ _ => True) (fun _ U o U' => ∃ v L, o = .returned v ∧ Q5_12 Z a1 p2 a3 a6 k7 p10 p11 p12 p13 k14 h0 n0 v U'.heap L ∧ FrameEnd U o U' L ({ frames := 0, cells := 0, slots := 0, locals := 0 } : Room).cells ({ frames := 0, cells := 0, slots := 0, locals := 0 } : Room).slots) := by
  refine MetFree.of_bodySF (plainFor_of_name pn_0) hisR ?_
  intro p e s m args below meth c s₁ Bd hml0 hP hK
  obtain ⟨rfl, hZ, hh⟩ := hP
  have hx := Bd.exec
  have hby := Bd.bytes
  have hml : c.maxLocals = 3 := hml0
  have hown : s.vm.findClass "com/example/vestry/vestry/Ints" = some m.cls := findClass_of_methodNamed Bd.named
  have hnm := (name_of_methodNamed Bd.named Bd.method).1
  have X0 : Stand p l e ({ frames := 0, cells := 0, slots := 0, locals := 0 } : Room) s m #[(.ref a1), (.int (1 : Int32)), (.int p2)] below meth c s₁ [] 0 0 := Stand.of_body Bd
  have e0 : s₁.heap = h0 := by rw [← hh, Bd.state]; rfl
  have N0 := Fr.nil n0
  have pre0 : ∀ t, Steps p.tables e below (s₁.setTop (mkF m 0 #[.val (.ref a1), .val (.int (1 : Int32)), .val (.int p2)] [])) t → Steps p.tables e below (s₁.setTop (entryFrame m #[(.ref a1), (.int (1 : Int32)), (.int p2)] 3)) t := fun t k => castTop (ef_rm5_12 m a1 p2) k
  obtain ⟨T5, X5, e5, st5⟩ := getF X0 hx hZ hown (host := "") (Or.inl (hw _ (gw 11 rfl))) Via.refl e0 F4 (g := (mkF m 1 #[.val (.ref a1), .val (.int (1 : Int32)), .val (.int p2)] [(.ref a1)])) rfl rfl (hb hby d5_1)
  obtain ⟨cl9, Ar9, -, Sz9, -, Hh9, -⟩ := id V8
  have hin9 : ¬ ((0 : Int32) < 0 ∨ cl9.slots.size ≤ ((0 : Int32)).toNatClampNeg) := inb_of Sz9 ⟨by decide +kernel, by decide +kernel⟩
  have hat9 : cl9.slots[((0 : Int32)).toNatClampNeg]? = some (.ref a6) := Has.at Hh9 hin9 rfl
  obtain ⟨cl16, Ar16, qk16, Sz16, Nn16, Hh16, Gg16⟩ := id V15
  have hin16 : ¬ ((1 : Int32) < 0 ∨ cl16.slots.size ≤ ((1 : Int32)).toNatClampNeg) := inb_of Sz16 ⟨by decide +kernel, by decide +kernel⟩
  obtain ⟨T17, h17, X17, e17, W17, st17⟩ := stI X5 hx hZ e5 Ar16 (j := (1 : Int32)) hin16 (g := (mkF m 15 #[.val (.ref a1), .val (.int (1 : Int32)), .val (.int p2)] [(.int p2), (.int (1 : Int32)), (.ref a6)])) rfl rfl (hb hby d5_15)
  have O17 : Old Z n0 h17 := O0.wr W17 g_a6
  have V17 : Arv Z h17 a6 k14 .int (4096 : Int32) [(.int p10), (.int p2), (.int p12), (.int p13)] (.int (0 : Int32)) := Arv.set Ar16 qk16 Sz16 Nn16 Hh16 Gg16 rfl W17 1 rfl (Nat.le_of_ble_eq_true rfl)
  have N17 := Fr.snoc X17 N0 g_a6
  obtain ⟨fs, hr, hrun, hended, hW, hsame⟩ := X17.leave (v := none) (fun _ => rfl)
  have f19 : Exa Z h17 a6 "[I" := (Exa.wr W17 E_18)
  refine ⟨_, _, pre0 _ ?_, hrun, hended, _, _, rfl, ?_, ⟨_, rfl⟩, hW, hsame.mono (by decide) (by decide)⟩
  · show Steps p.tables e below (s₁.setTop (mkF m 0 #[.val (.ref a1), .val (.int (1 : Int32)), .val (.int p2)] [])) _
    refine XS.aloadN X0.here hx rfl (hb hby d5_0) rfl rfl ?_
    show Steps p.tables e below (s₁.setTop (mkF m 1 #[.val (.ref a1), .val (.int (1 : Int32)), .val (.int p2)] [(.ref a1)])) _
    refine st5 _ ?_
    show Steps p.tables e below (T5.setTop (mkF m 4 #[.val (.ref a1), .val (.int (1 : Int32)), .val (.int p2)] [(.ref a3)])) _
    refine XS.iloadN X5.here hx rfl (hb hby d5_4) rfl ?_
    show Steps p.tables e below (T5.setTop (mkF m 5 #[.val (.ref a1), .val (.int (1 : Int32)), .val (.int p2)] [(.int (1 : Int32)), (.ref a3)])) _
    refine XS.bipush X5.here hx rfl (hb hby d5_5) ?_
    show Steps p.tables e below (T5.setTop (mkF m 7 #[.val (.ref a1), .val (.int (1 : Int32)), .val (.int p2)] [(.int (12 : Int32)), (.int (1 : Int32)), (.ref a3)])) _
    refine XS.iushr X5.here hx rfl (hb hby d5_7) rfl ?_
    show Steps p.tables e below (T5.setTop (mkF m 8 #[.val (.ref a1), .val (.int (1 : Int32)), .val (.int p2)] [(.int (((1 : Int32).toUInt32 >>> ((12 : Int32) &&& 31).toUInt32).toInt32)), (.ref a3)])) _
    rw [(by decide +kernel : (((1 : Int32).toUInt32 >>> ((12 : Int32) &&& 31).toUInt32).toInt32) = (0 : Int32))]
    show Steps p.tables e below (T5.setTop (mkF m 8 #[.val (.ref a1), .val (.int (1 : Int32)), .val (.int p2)] [(.int (0 : Int32)), (.ref a3)])) _
    refine X5.aaload hx (j := (0 : Int32)) (v := (.ref a6)) (by rw [e5]; exact Ar9.1) (State.isArrayOf_alike hZ.alike Ar9.2.1) rfl Ar9.2.2 hin9 hat9 (g := (mkF m 8 #[.val (.ref a1), .val (.int (1 : Int32)), .val (.int p2)] [(.int (0 : Int32)), (.ref a3)])) rfl rfl (hb hby d5_8) _ ?_
    show Steps p.tables e below (T5.setTop (mkF m 9 #[.val (.ref a1), .val (.int (1 : Int32)), .val (.int p2)] [(.ref a6)])) _
    refine XS.iloadN X5.here hx rfl (hb hby d5_9) rfl ?_
    show Steps p.tables e below (T5.setTop (mkF m 10 #[.val (.ref a1), .val (.int (1 : Int32)), .val (.int p2)] [(.int (1 : Int32)), (.ref a6)])) _
    refine XS.sipush X5.here hx rfl (hb hby d5_10) ?_
    show Steps p.tables e below (T5.setTop (mkF m 13 #[.val (.ref a1), .val (.int (1 : Int32)), .val (.int p2)] [(.int (4095 : Int32)), (.int (1 : Int32)), (.ref a6)])) _
    refine XS.iand X5.here hx rfl (hb hby d5_13) rfl ?_
    show Steps p.tables e below (T5.setTop (mkF m 14 #[.val (.ref a1), .val (.int (1 : Int32)), .val (.int p2)] [(.int ((1 : Int32) &&& (4095 : Int32))), (.ref a6)])) _
    rw [(by decide +kernel : ((1 : Int32) &&& (4095 : Int32)) = (1 : Int32))]
    show Steps p.tables e below (T5.setTop (mkF m 14 #[.val (.ref a1), .val (.int (1 : Int32)), .val (.int p2)] [(.int (1 : Int32)), (.ref a6)])) _
    refine XS.iloadN X5.here hx rfl (hb hby d5_14) rfl ?_
    show Steps p.tables e below (T5.setTop (mkF m 15 #[.val (.ref a1), .val (.int (1 : Int32)), .val (.int p2)] [(.int p2), (.int (1 : Int32)), (.ref a6)])) _
    refine st17 _ ?_
    show Steps p.tables e below (T17.setTop (mkF m 16 #[.val (.ref a1), .val (.int (1 : Int32)), .val (.int p2)] [])) _
    exact X17.returnOut hx Bd.returns (hb hby d5_16) hr
  · show Q5_12 Z _ _ _ _ _ _ _ _ _ _ h0 n0 _ T17.heap _
    rw [e17]
    exact ⟨rfl, N17, ((Keep.refl h0 [a6]).wr W17 (Or.inl (List.mem_of_getElem? (i := 0) rfl))), f19, V17⟩
theorem ef_rm5_13 (m : MethodId) (x0 : Addr) (x2 : Int32) : entryFrame m #[(.ref x0), (.int (2 : Int32)), (.int x2)] 3 = mkF m 0 #[.val (.ref x0), .val (.int (2 : Int32)), .val (.int x2)] [] := by first | (simp [entryFrame, mkF, argsToLocals, Value.category]; done) | rfl
def Q5_13 (Z : State) (a1 : Addr) (p2 : Int32) (a3 : Addr) (a6 : Addr) (k7 : ClassId) (p10 : Int32) (p11 : Int32) (p12 : Int32) (p13 : Int32) (k14 : ClassId) (h0 : Heap) (n0 : Nat) (v : Option Value) (h : Heap) (L : List Loc) : Prop := (v = none ∧ Fr n0 L ∧ Keep h0 h [a6] ∧ Exa Z h a6 "[I" ∧ Arv Z h a6 k14 .int (4096 : Int32) [(.int p10), (.int p11), (.int p2), (.int p13)] (.int (0 : Int32)))
set_option maxRecDepth 65536 in
set_option maxHeartbeats 40000000 in
theorem rm5_13 (l : Launch) (Z : State) (a0 : Array Value) (hw : ∀ d ∈ own_ws, d.before a0 Z = true) (ws : List Jvm.Cond) (a1 : Addr) (p2 : Int32) (a3 : Addr) (a6 : Addr) (k7 : ClassId) (p10 : Int32) (p11 : Int32) (p12 : Int32) (p13 : Int32) (k14 : ClassId) (h0 : Heap) (n0 : Nat) (O0 : Old Z n0 h0) (F4 : Fld Z h0 a1 "com/example/vestry/vestry/Ints" "blocks" "[[I" (.ref a3)) (V8 : Arv Z h0 a3 k7 (.array .int) (1 : Int32) [(.ref a6)] .null) (V15 : Arv Z h0 a6 k14 .int (4096 : Int32) [(.int p10), (.int p11), (.int p12), (.int p13)] (.int (0 : Int32))) (g_a6 : n0 ≤ a6) (E_18 : Exa Z h0 a6 "[I") :
    MetFree l M_3 (head1 (Jvm.Cond.code M_3 prog_60_method_5_code 3 none :: ws) ({ frames := 0, cells := 0, slots := 0, locals := 0 } : Room)) (fun a U => a = #[(.ref a1), (.int (2 : Int32)), (.int p2)] ∧ Z.Warmed39 U.vm ∧ U.heap = h0) (fun _ _ _ _ _ => True) (fun _ U o U' => ∃ v L, o = .returned v ∧ Q5_13 Z a1 p2 a3 a6 k7 p10 p11 p12 p13 k14 h0 n0 v U'.heap L ∧ FrameEnd U o U' L ({ frames := 0, cells := 0, slots := 0, locals := 0 } : Room).cells ({ frames := 0, cells := 0, slots := 0, locals := 0 } : Room).slots) := by
  refine MetFree.of_bodySF (plainFor_of_name pn_0) hisR ?_
  intro p e s m args below meth c s₁ Bd hml0 hP hK
  obtain ⟨rfl, hZ, hh⟩ := hP
  have hx := Bd.exec
  have hby := Bd.bytes
  have hml : c.maxLocals = 3 := hml0
  have hown : s.vm.findClass "com/example/vestry/vestry/Ints" = some m.cls := findClass_of_methodNamed Bd.named
  have hnm := (name_of_methodNamed Bd.named Bd.method).1
  have X0 : Stand p l e ({ frames := 0, cells := 0, slots := 0, locals := 0 } : Room) s m #[(.ref a1), (.int (2 : Int32)), (.int p2)] below meth c s₁ [] 0 0 := Stand.of_body Bd
  have e0 : s₁.heap = h0 := by rw [← hh, Bd.state]; rfl
  have N0 := Fr.nil n0
  have pre0 : ∀ t, Steps p.tables e below (s₁.setTop (mkF m 0 #[.val (.ref a1), .val (.int (2 : Int32)), .val (.int p2)] [])) t → Steps p.tables e below (s₁.setTop (entryFrame m #[(.ref a1), (.int (2 : Int32)), (.int p2)] 3)) t := fun t k => castTop (ef_rm5_13 m a1 p2) k
  obtain ⟨T5, X5, e5, st5⟩ := getF X0 hx hZ hown (host := "") (Or.inl (hw _ (gw 11 rfl))) Via.refl e0 F4 (g := (mkF m 1 #[.val (.ref a1), .val (.int (2 : Int32)), .val (.int p2)] [(.ref a1)])) rfl rfl (hb hby d5_1)
  obtain ⟨cl9, Ar9, -, Sz9, -, Hh9, -⟩ := id V8
  have hin9 : ¬ ((0 : Int32) < 0 ∨ cl9.slots.size ≤ ((0 : Int32)).toNatClampNeg) := inb_of Sz9 ⟨by decide +kernel, by decide +kernel⟩
  have hat9 : cl9.slots[((0 : Int32)).toNatClampNeg]? = some (.ref a6) := Has.at Hh9 hin9 rfl
  obtain ⟨cl16, Ar16, qk16, Sz16, Nn16, Hh16, Gg16⟩ := id V15
  have hin16 : ¬ ((2 : Int32) < 0 ∨ cl16.slots.size ≤ ((2 : Int32)).toNatClampNeg) := inb_of Sz16 ⟨by decide +kernel, by decide +kernel⟩
  obtain ⟨T17, h17, X17, e17, W17, st17⟩ := stI X5 hx hZ e5 Ar16 (j := (2 : Int32)) hin16 (g := (mkF m 15 #[.val (.ref a1), .val (.int (2 : Int32)), .val (.int p2)] [(.int p2), (.int (2 : Int32)), (.ref a6)])) rfl rfl (hb hby d5_15)
  have O17 : Old Z n0 h17 := O0.wr W17 g_a6
  have V17 : Arv Z h17 a6 k14 .int (4096 : Int32) [(.int p10), (.int p11), (.int p2), (.int p13)] (.int (0 : Int32)) := Arv.set Ar16 qk16 Sz16 Nn16 Hh16 Gg16 rfl W17 2 rfl (Nat.le_of_ble_eq_true rfl)
  have N17 := Fr.snoc X17 N0 g_a6
  obtain ⟨fs, hr, hrun, hended, hW, hsame⟩ := X17.leave (v := none) (fun _ => rfl)
  have f19 : Exa Z h17 a6 "[I" := (Exa.wr W17 E_18)
  refine ⟨_, _, pre0 _ ?_, hrun, hended, _, _, rfl, ?_, ⟨_, rfl⟩, hW, hsame.mono (by decide) (by decide)⟩
  · show Steps p.tables e below (s₁.setTop (mkF m 0 #[.val (.ref a1), .val (.int (2 : Int32)), .val (.int p2)] [])) _
    refine XS.aloadN X0.here hx rfl (hb hby d5_0) rfl rfl ?_
    show Steps p.tables e below (s₁.setTop (mkF m 1 #[.val (.ref a1), .val (.int (2 : Int32)), .val (.int p2)] [(.ref a1)])) _
    refine st5 _ ?_
    show Steps p.tables e below (T5.setTop (mkF m 4 #[.val (.ref a1), .val (.int (2 : Int32)), .val (.int p2)] [(.ref a3)])) _
    refine XS.iloadN X5.here hx rfl (hb hby d5_4) rfl ?_
    show Steps p.tables e below (T5.setTop (mkF m 5 #[.val (.ref a1), .val (.int (2 : Int32)), .val (.int p2)] [(.int (2 : Int32)), (.ref a3)])) _
    refine XS.bipush X5.here hx rfl (hb hby d5_5) ?_
    show Steps p.tables e below (T5.setTop (mkF m 7 #[.val (.ref a1), .val (.int (2 : Int32)), .val (.int p2)] [(.int (12 : Int32)), (.int (2 : Int32)), (.ref a3)])) _
    refine XS.iushr X5.here hx rfl (hb hby d5_7) rfl ?_
    show Steps p.tables e below (T5.setTop (mkF m 8 #[.val (.ref a1), .val (.int (2 : Int32)), .val (.int p2)] [(.int (((2 : Int32).toUInt32 >>> ((12 : Int32) &&& 31).toUInt32).toInt32)), (.ref a3)])) _
    rw [(by decide +kernel : (((2 : Int32).toUInt32 >>> ((12 : Int32) &&& 31).toUInt32).toInt32) = (0 : Int32))]
    show Steps p.tables e below (T5.setTop (mkF m 8 #[.val (.ref a1), .val (.int (2 : Int32)), .val (.int p2)] [(.int (0 : Int32)), (.ref a3)])) _
    refine X5.aaload hx (j := (0 : Int32)) (v := (.ref a6)) (by rw [e5]; exact Ar9.1) (State.isArrayOf_alike hZ.alike Ar9.2.1) rfl Ar9.2.2 hin9 hat9 (g := (mkF m 8 #[.val (.ref a1), .val (.int (2 : Int32)), .val (.int p2)] [(.int (0 : Int32)), (.ref a3)])) rfl rfl (hb hby d5_8) _ ?_
    show Steps p.tables e below (T5.setTop (mkF m 9 #[.val (.ref a1), .val (.int (2 : Int32)), .val (.int p2)] [(.ref a6)])) _
    refine XS.iloadN X5.here hx rfl (hb hby d5_9) rfl ?_
    show Steps p.tables e below (T5.setTop (mkF m 10 #[.val (.ref a1), .val (.int (2 : Int32)), .val (.int p2)] [(.int (2 : Int32)), (.ref a6)])) _
    refine XS.sipush X5.here hx rfl (hb hby d5_10) ?_
    show Steps p.tables e below (T5.setTop (mkF m 13 #[.val (.ref a1), .val (.int (2 : Int32)), .val (.int p2)] [(.int (4095 : Int32)), (.int (2 : Int32)), (.ref a6)])) _
    refine XS.iand X5.here hx rfl (hb hby d5_13) rfl ?_
    show Steps p.tables e below (T5.setTop (mkF m 14 #[.val (.ref a1), .val (.int (2 : Int32)), .val (.int p2)] [(.int ((2 : Int32) &&& (4095 : Int32))), (.ref a6)])) _
    rw [(by decide +kernel : ((2 : Int32) &&& (4095 : Int32)) = (2 : Int32))]
    show Steps p.tables e below (T5.setTop (mkF m 14 #[.val (.ref a1), .val (.int (2 : Int32)), .val (.int p2)] [(.int (2 : Int32)), (.ref a6)])) _
    refine XS.iloadN X5.here hx rfl (hb hby d5_14) rfl ?_
    show Steps p.tables e below (T5.setTop (mkF m 15 #[.val (.ref a1), .val (.int (2 : Int32)), .val (.int p2)] [(.int p2), (.int (2 : Int32)), (.ref a6)])) _
    refine st17 _ ?_
    show Steps p.tables e below (T17.setTop (mkF m 16 #[.val (.ref a1), .val (.int (2 : Int32)), .val (.int p2)] [])) _
    exact X17.returnOut hx Bd.returns (hb hby d5_16) hr
  · show Q5_13 Z _ _ _ _ _ _ _ _ _ _ h0 n0 _ T17.heap _
    rw [e17]
    exact ⟨rfl, N17, ((Keep.refl h0 [a6]).wr W17 (Or.inl (List.mem_of_getElem? (i := 0) rfl))), f19, V17⟩
theorem ef_rm5_14 (m : MethodId) (x0 : Addr) (x2 : Int32) : entryFrame m #[(.ref x0), (.int (3 : Int32)), (.int x2)] 3 = mkF m 0 #[.val (.ref x0), .val (.int (3 : Int32)), .val (.int x2)] [] := by first | (simp [entryFrame, mkF, argsToLocals, Value.category]; done) | rfl
def Q5_14 (Z : State) (a1 : Addr) (p2 : Int32) (a3 : Addr) (a6 : Addr) (k7 : ClassId) (p10 : Int32) (p11 : Int32) (p12 : Int32) (p13 : Int32) (k14 : ClassId) (h0 : Heap) (n0 : Nat) (v : Option Value) (h : Heap) (L : List Loc) : Prop := (v = none ∧ Fr n0 L ∧ Keep h0 h [a6] ∧ Exa Z h a6 "[I" ∧ Arv Z h a6 k14 .int (4096 : Int32) [(.int p10), (.int p11), (.int p12), (.int p2)] (.int (0 : Int32)))
set_option maxRecDepth 65536 in
set_option maxHeartbeats 40000000 in
theorem rm5_14 (l : Launch) (Z : State) (a0 : Array Value) (hw : ∀ d ∈ own_ws, d.before a0 Z = true) (ws : List Jvm.Cond) (a1 : Addr) (p2 : Int32) (a3 : Addr) (a6 : Addr) (k7 : ClassId) (p10 : Int32) (p11 : Int32) (p12 : Int32) (p13 : Int32) (k14 : ClassId) (h0 : Heap) (n0 : Nat) (O0 : Old Z n0 h0) (F4 : Fld Z h0 a1 "com/example/vestry/vestry/Ints" "blocks" "[[I" (.ref a3)) (V8 : Arv Z h0 a3 k7 (.array .int) (1 : Int32) [(.ref a6)] .null) (V15 : Arv Z h0 a6 k14 .int (4096 : Int32) [(.int p10), (.int p11), (.int p12), (.int p13)] (.int (0 : Int32))) (g_a6 : n0 ≤ a6) (E_18 : Exa Z h0 a6 "[I") :
    MetFree l M_3 (head1 (Jvm.Cond.code M_3 prog_60_method_5_code 3 none :: ws) ({ frames := 0, cells := 0, slots := 0, locals := 0 } : Room)) (fun a U => a = #[(.ref a1), (.int (3 : Int32)), (.int p2)] ∧ Z.Warmed39 U.vm ∧ U.heap = h0) (fun _ _ _ _ _ => True) (fun _ U o U' => ∃ v L, o = .returned v ∧ Q5_14 Z a1 p2 a3 a6 k7 p10 p11 p12 p13 k14 h0 n0 v U'.heap L ∧ FrameEnd U o U' L ({ frames := 0, cells := 0, slots := 0, locals := 0 } : Room).cells ({ frames := 0, cells := 0, slots := 0, locals := 0 } : Room).slots) := by
  refine MetFree.of_bodySF (plainFor_of_name pn_0) hisR ?_
  intro p e s m args below meth c s₁ Bd hml0 hP hK
  obtain ⟨rfl, hZ, hh⟩ := hP
  have hx := Bd.exec
  have hby := Bd.bytes
  have hml : c.maxLocals = 3 := hml0
  have hown : s.vm.findClass "com/example/vestry/vestry/Ints" = some m.cls := findClass_of_methodNamed Bd.named
  have hnm := (name_of_methodNamed Bd.named Bd.method).1
  have X0 : Stand p l e ({ frames := 0, cells := 0, slots := 0, locals := 0 } : Room) s m #[(.ref a1), (.int (3 : Int32)), (.int p2)] below meth c s₁ [] 0 0 := Stand.of_body Bd
  have e0 : s₁.heap = h0 := by rw [← hh, Bd.state]; rfl
  have N0 := Fr.nil n0
  have pre0 : ∀ t, Steps p.tables e below (s₁.setTop (mkF m 0 #[.val (.ref a1), .val (.int (3 : Int32)), .val (.int p2)] [])) t → Steps p.tables e below (s₁.setTop (entryFrame m #[(.ref a1), (.int (3 : Int32)), (.int p2)] 3)) t := fun t k => castTop (ef_rm5_14 m a1 p2) k
  obtain ⟨T5, X5, e5, st5⟩ := getF X0 hx hZ hown (host := "") (Or.inl (hw _ (gw 11 rfl))) Via.refl e0 F4 (g := (mkF m 1 #[.val (.ref a1), .val (.int (3 : Int32)), .val (.int p2)] [(.ref a1)])) rfl rfl (hb hby d5_1)
  obtain ⟨cl9, Ar9, -, Sz9, -, Hh9, -⟩ := id V8
  have hin9 : ¬ ((0 : Int32) < 0 ∨ cl9.slots.size ≤ ((0 : Int32)).toNatClampNeg) := inb_of Sz9 ⟨by decide +kernel, by decide +kernel⟩
  have hat9 : cl9.slots[((0 : Int32)).toNatClampNeg]? = some (.ref a6) := Has.at Hh9 hin9 rfl
  obtain ⟨cl16, Ar16, qk16, Sz16, Nn16, Hh16, Gg16⟩ := id V15
  have hin16 : ¬ ((3 : Int32) < 0 ∨ cl16.slots.size ≤ ((3 : Int32)).toNatClampNeg) := inb_of Sz16 ⟨by decide +kernel, by decide +kernel⟩
  obtain ⟨T17, h17, X17, e17, W17, st17⟩ := stI X5 hx hZ e5 Ar16 (j := (3 : Int32)) hin16 (g := (mkF m 15 #[.val (.ref a1), .val (.int (3 : Int32)), .val (.int p2)] [(.int p2), (.int (3 : Int32)), (.ref a6)])) rfl rfl (hb hby d5_15)
  have O17 : Old Z n0 h17 := O0.wr W17 g_a6
  have V17 : Arv Z h17 a6 k14 .int (4096 : Int32) [(.int p10), (.int p11), (.int p12), (.int p2)] (.int (0 : Int32)) := Arv.set Ar16 qk16 Sz16 Nn16 Hh16 Gg16 rfl W17 3 rfl (Nat.le_of_ble_eq_true rfl)
  have N17 := Fr.snoc X17 N0 g_a6
  obtain ⟨fs, hr, hrun, hended, hW, hsame⟩ := X17.leave (v := none) (fun _ => rfl)
  have f19 : Exa Z h17 a6 "[I" := (Exa.wr W17 E_18)
  refine ⟨_, _, pre0 _ ?_, hrun, hended, _, _, rfl, ?_, ⟨_, rfl⟩, hW, hsame.mono (by decide) (by decide)⟩
  · show Steps p.tables e below (s₁.setTop (mkF m 0 #[.val (.ref a1), .val (.int (3 : Int32)), .val (.int p2)] [])) _
    refine XS.aloadN X0.here hx rfl (hb hby d5_0) rfl rfl ?_
    show Steps p.tables e below (s₁.setTop (mkF m 1 #[.val (.ref a1), .val (.int (3 : Int32)), .val (.int p2)] [(.ref a1)])) _
    refine st5 _ ?_
    show Steps p.tables e below (T5.setTop (mkF m 4 #[.val (.ref a1), .val (.int (3 : Int32)), .val (.int p2)] [(.ref a3)])) _
    refine XS.iloadN X5.here hx rfl (hb hby d5_4) rfl ?_
    show Steps p.tables e below (T5.setTop (mkF m 5 #[.val (.ref a1), .val (.int (3 : Int32)), .val (.int p2)] [(.int (3 : Int32)), (.ref a3)])) _
    refine XS.bipush X5.here hx rfl (hb hby d5_5) ?_
    show Steps p.tables e below (T5.setTop (mkF m 7 #[.val (.ref a1), .val (.int (3 : Int32)), .val (.int p2)] [(.int (12 : Int32)), (.int (3 : Int32)), (.ref a3)])) _
    refine XS.iushr X5.here hx rfl (hb hby d5_7) rfl ?_
    show Steps p.tables e below (T5.setTop (mkF m 8 #[.val (.ref a1), .val (.int (3 : Int32)), .val (.int p2)] [(.int (((3 : Int32).toUInt32 >>> ((12 : Int32) &&& 31).toUInt32).toInt32)), (.ref a3)])) _
    rw [(by decide +kernel : (((3 : Int32).toUInt32 >>> ((12 : Int32) &&& 31).toUInt32).toInt32) = (0 : Int32))]
    show Steps p.tables e below (T5.setTop (mkF m 8 #[.val (.ref a1), .val (.int (3 : Int32)), .val (.int p2)] [(.int (0 : Int32)), (.ref a3)])) _
    refine X5.aaload hx (j := (0 : Int32)) (v := (.ref a6)) (by rw [e5]; exact Ar9.1) (State.isArrayOf_alike hZ.alike Ar9.2.1) rfl Ar9.2.2 hin9 hat9 (g := (mkF m 8 #[.val (.ref a1), .val (.int (3 : Int32)), .val (.int p2)] [(.int (0 : Int32)), (.ref a3)])) rfl rfl (hb hby d5_8) _ ?_
    show Steps p.tables e below (T5.setTop (mkF m 9 #[.val (.ref a1), .val (.int (3 : Int32)), .val (.int p2)] [(.ref a6)])) _
    refine XS.iloadN X5.here hx rfl (hb hby d5_9) rfl ?_
    show Steps p.tables e below (T5.setTop (mkF m 10 #[.val (.ref a1), .val (.int (3 : Int32)), .val (.int p2)] [(.int (3 : Int32)), (.ref a6)])) _
    refine XS.sipush X5.here hx rfl (hb hby d5_10) ?_
    show Steps p.tables e below (T5.setTop (mkF m 13 #[.val (.ref a1), .val (.int (3 : Int32)), .val (.int p2)] [(.int (4095 : Int32)), (.int (3 : Int32)), (.ref a6)])) _
    refine XS.iand X5.here hx rfl (hb hby d5_13) rfl ?_
    show Steps p.tables e below (T5.setTop (mkF m 14 #[.val (.ref a1), .val (.int (3 : Int32)), .val (.int p2)] [(.int ((3 : Int32) &&& (4095 : Int32))), (.ref a6)])) _
    rw [(by decide +kernel : ((3 : Int32) &&& (4095 : Int32)) = (3 : Int32))]
    show Steps p.tables e below (T5.setTop (mkF m 14 #[.val (.ref a1), .val (.int (3 : Int32)), .val (.int p2)] [(.int (3 : Int32)), (.ref a6)])) _
    refine XS.iloadN X5.here hx rfl (hb hby d5_14) rfl ?_
    show Steps p.tables e below (T5.setTop (mkF m 15 #[.val (.ref a1), .val (.int (3 : Int32)), .val (.int p2)] [(.int p2), (.int (3 : Int32)), (.ref a6)])) _
    refine st17 _ ?_
    show Steps p.tables e below (T17.setTop (mkF m 16 #[.val (.ref a1), .val (.int (3 : Int32)), .val (.int p2)] [])) _
    exact X17.returnOut hx Bd.returns (hb hby d5_16) hr
  · show Q5_14 Z _ _ _ _ _ _ _ _ _ _ h0 n0 _ T17.heap _
    rw [e17]
    exact ⟨rfl, N17, ((Keep.refl h0 [a6]).wr W17 (Or.inl (List.mem_of_getElem? (i := 0) rfl))), f19, V17⟩
theorem ef_rm0 (m : MethodId) (x0 : Int32) (x1 : Int32) (x2 : Int32) (x3 : Int32) (x4 : Int32) (x5 : Int32) : entryFrame m #[(.int x0), (.int x1), (.int x2), (.int x3), (.int x4), (.int x5)] maxLocals = mkF m 0 #[.val (.int x0), .val (.int x1), .val (.int x2), .val (.int x3), .val (.int x4), .val (.int x5), .unset, .unset, .unset, .unset, .unset] [] := by first | (simp [entryFrame, mkF, argsToLocals, Value.category, maxLocals]; done) | rfl
def Q0 (Z : State) (p1 : Int32) (p2 : Int32) (p3 : Int32) (p4 : Int32) (p5 : Int32) (p6 : Int32) (h0 : Heap) (n0 : Nat) (v : Option Value) (h : Heap) (L : List Loc) : Prop := v = some (.int 1) ∧ Fr n0 L
set_option maxRecDepth 65536 in
set_option maxHeartbeats 40000000 in
theorem rm0 (l : Launch) (Z : State) (a0 : Array Value) (hw : ∀ d ∈ own_ws, d.before a0 Z = true) (ws : List Jvm.Cond) (p1 : Int32) (p2 : Int32) (p3 : Int32) (p4 : Int32) (p5 : Int32) (p6 : Int32) (h0 : Heap) (n0 : Nat) (O0 : Old Z n0 h0) :
    MetFree l x (head1 (Jvm.Cond.code x code maxLocals ret :: ws) room_1) (fun a U => a = #[(.int p1), (.int p2), (.int p3), (.int p4), (.int p5), (.int p6)] ∧ Z.Warmed39 U.vm ∧ U.heap = h0) (fun _ _ _ _ _ => True) (fun _ U o U' => ∃ v L, o = .returned v ∧ Q0 Z p1 p2 p3 p4 p5 p6 h0 n0 v U'.heap L ∧ FrameEnd U o U' L room_1.cells room_1.slots) := by
  refine MetFree.of_bodySF (plainFor_of_name pn_1) hisR ?_
  intro p e s m args below meth c s₁ Bd hml0 hP hK
  obtain ⟨rfl, hZ, hh⟩ := hP
  have hx := Bd.exec
  have hby := Bd.bytes
  have hml : c.maxLocals = 11 := hml0
  have hown : s.vm.findClass "com/example/vestry/vestry/IntsGetPinLaw" = some m.cls := findClass_of_methodNamed Bd.named
  have hnm := (name_of_methodNamed Bd.named Bd.method).1
  have X0 : Stand p l e room_1 s m #[(.int p1), (.int p2), (.int p3), (.int p4), (.int p5), (.int p6)] below meth c s₁ [] 0 0 := Stand.of_body Bd
  have e0 : s₁.heap = h0 := by rw [← hh, Bd.state]; rfl
  have N0 := Fr.nil n0
  have pre0 : ∀ t, Steps p.tables e below (s₁.setTop (mkF m 0 #[.val (.int p1), .val (.int p2), .val (.int p3), .val (.int p4), .val (.int p5), .val (.int p6), .unset, .unset, .unset, .unset, .unset] [])) t → Steps p.tables e below (s₁.setTop (entryFrame m #[(.int p1), (.int p2), (.int p3), (.int p4), (.int p5), (.int p6)] maxLocals)) t := fun t k => castTop (ef_rm0 m p1 p2 p3 p4 p5 p6) k
  obtain ⟨T7, h7, X7, e7, E7, A7, D7, -, st7⟩ := newO X0 hx hZ hown (hw _ (gw 0 rfl)) (hw _ (gw 1 rfl)) (hw _ (gw 2 rfl)) e0 (g := (mkF m 0 #[.val (.int p1), .val (.int p2), .val (.int p3), .val (.int p4), .val (.int p5), .val (.int p6), .unset, .unset, .unset, .unset, .unset] [])) rfl (hb hby at_0) (by decide) (by decide)
  obtain ⟨b7, g7⟩ : ∃ z, z = h0.size := ⟨_, rfl⟩
  rw [← g7] at A7 D7 st7
  have O7 : Old Z n0 h7 := O0.ext E7
  have bd_b7 : h0.size ≤ b7 := Nat.le_of_eq g7.symm
  have g_b7 : n0 ≤ b7 := Nat.le_trans (own_z O0) bd_b7
  have sz_b7 : h0.size ≤ b7 := Nat.le_trans (Nat.le_refl _) bd_b7
  have lt_b7 : b7 < h7.size := A7.lt
  have D7_12 : Fld Z h7 b7 "com/example/vestry/vestry/Ints" "blocks" "[[I" .null := D7 (Or.inl (hw _ (gw 12 rfl))) (ty := (.array (.array .int))) (by decide)
  have D7_19 : Fld Z h7 b7 "com/example/vestry/vestry/Ints" "size" "I" (.int (0 : Int32)) := D7 (Or.inl (hw _ (gw 19 rfl))) (ty := .int) (by decide)
  obtain ⟨_, _, ⟨T8, L8, k8, n8⟩, -, X8, ⟨Lc8, hQ8, l8, y8, z8⟩, st8⟩ := X7.specialBack hx (y := M_0) rfl hown (mvT hZ (hw _ (gw 3 rfl))) (mvT hZ (hw _ (gw 4 rfl))) (mvT hZ (hw _ (gw 5 rfl))) (by decide) (backOf (W := 1) (rm1_2 l Z a0 hw [] b7 h7 n0  O7 A7 D7_12 D7_19 g_b7 lt_b7) hZ (hw _ (gw 5 rfl)) (hw _ (gw 2 rfl)) (by decide) (by decide)) (g := (mkF m 4 #[.val (.int p1), .val (.int p2), .val (.int p3), .val (.int p4), .val (.int p5), .val (.int p6), .unset, .unset, .unset, .unset, .unset] [(.ref b7), (.ref b7)])) rfl (by rw [hml]; rfl) (Steps.refl _) (a := b7) (argsL := []) (rest := [(.ref b7)]) (lenOf pd_0 rfl) rfl (by show 2 * 0 + _ ≤ _; exact Nat.le_of_eq rfl) (hb hby at_4) (fun _ _ => ⟨rfl, e7, (by decide : 1 + 1 ≤ _), (by decide : 2 + 1 ≤ _)⟩)
  dsimp only [Pt.U, Pt.locs, Pt.cells, Pt.slots] at X8 l8 y8 z8 st8 hQ8
  subst l8 y8 z8
  obtain ⟨b9, k10, rfl, u12, u13, u14, Ku15, u16, u17, u18, u19, u20, u21⟩ := hQ8
  have Ou15 : Old Z n0 T8.heap := O7.keep Ku15 (allS g_b7 all0)
  have g_b9 : n0 ≤ b9 := Nat.le_trans (own_z O7) u13
  have sz_b9 : h0.size ≤ b9 := Nat.le_trans E7.1 u13
  have N8 := Fr.app N0 u12
  obtain ⟨cq22, kq22, q22a, q22b, q22c⟩ := isOf hZ rfl u16
  obtain ⟨_, _, ⟨T22, L22, k22, n22⟩, -, X22, ⟨Lc22, hQ22, l22, y22, z22⟩, st22⟩ := X8.virtualBack hx (y := M_1) (z := M_1) hown (mvT hZ (hw _ (gw 13 rfl))) (mvT hZ (hw _ (gw 14 rfl))) (notFace_of_selects (args := #[]) (mvT hZ (hw _ (gw 16 rfl)))) (mvT hZ (hw _ (gw 16 rfl))) (mvT hZ (hw _ (gw 15 rfl))) (by decide) (backOf (W := 0) (rm3_3 l Z a0 hw [] b7 p1 b9 k10 T8.heap n0  Ou15 u18 u17 u20 u21 g_b9 u19 (Nat.ne_of_lt (Nat.lt_of_lt_of_le lt_b7 u13)) u14 (Nat.lt_of_lt_of_le lt_b7 Ku15.1) u16 g_b7) hZ (hw _ (gw 17 rfl)) (hw _ (gw 2 rfl)) (by decide) (by decide)) q22a q22c (g := (mkF m 12 #[.val (.int p1), .val (.int p2), .val (.int p3), .val (.int p4), .val (.int p5), .val (.int p6), .val (.ref b7), .unset, .unset, .unset, .unset] [(.int p1), (.ref b7)])) rfl (by rw [hml]; rfl) (Steps.refl _) (argsL := [(.int p1)]) (rest := []) (lenOf pd_1 rfl) rfl (by show 2 * 0 + _ ≤ _; exact Nat.le_of_eq rfl) (hb hby at_12) (fun _ _ => ⟨rfl, rfl, (by decide : 2 + 1 ≤ _), (by decide : 3 + 4096 ≤ _)⟩)
  dsimp only [Pt.U, Pt.locs, Pt.cells, Pt.slots] at X22 l22 y22 z22 st22 hQ22
  subst l22 y22 z22
  obtain ⟨b23, k24, rfl, u26, u27, u28, Ku29, u30, u31, u32, u33, u34, u35, u36, u37⟩ := hQ22
  have Ou29 : Old Z n0 T22.heap := Ou15.keep Ku29 (allS g_b9 (allS g_b7 all0))
  have g_b23 : n0 ≤ b23 := Nat.le_trans (own_z Ou15) u27
  have sz_b23 : h0.size ≤ b23 := Nat.le_trans (Nat.le_trans E7.1 Ku15.1) u27
  have N22 := Fr.app N8 u26
  obtain ⟨cq38, kq38, q38a, q38b, q38c⟩ := isOf hZ rfl u33
  obtain ⟨_, _, ⟨T38, L38, k38, n38⟩, -, X38, ⟨Lc38, hQ38, l38, y38, z38⟩, st38⟩ := X22.virtualBack hx (y := M_1) (z := M_1) hown (mvT hZ (hw _ (gw 13 rfl))) (mvT hZ (hw _ (gw 14 rfl))) (notFace_of_selects (args := #[]) (mvT hZ (hw _ (gw 16 rfl)))) (mvT hZ (hw _ (gw 16 rfl))) (mvT hZ (hw _ (gw 15 rfl))) (by decide) (backOf (W := 0) (rm3_4 l Z a0 hw [] b7 p2 b9 b23 k10 p1 k24 T22.heap n0  Ou29 u35 u34 u31 u37 g_b23 u36 (Nat.ne_of_lt (Nat.lt_of_lt_of_le (Nat.lt_of_lt_of_le lt_b7 Ku15.1) u27)) u33 g_b7) hZ (hw _ (gw 17 rfl)) (hw _ (gw 2 rfl)) (by decide) (by decide)) q38a q38c (g := (mkF m 18 #[.val (.int p1), .val (.int p2), .val (.int p3), .val (.int p4), .val (.int p5), .val (.int p6), .val (.ref b7), .unset, .unset, .unset, .unset] [(.int p2), (.ref b7)])) rfl (by rw [hml]; rfl) (Steps.refl _) (argsL := [(.int p2)]) (rest := []) (lenOf pd_1 rfl) rfl (by show 2 * 0 + _ ≤ _; exact Nat.le_of_eq rfl) (hb hby at_18) (fun _ _ => ⟨rfl, rfl, (by decide : 3 + 0 ≤ _), (by decide : 4099 + 0 ≤ _)⟩)
  dsimp only [Pt.U, Pt.locs, Pt.cells, Pt.slots] at X38 l38 y38 z38 st38 hQ38
  subst l38 y38 z38
  obtain ⟨rfl, u40, Ku41, u42, u43, u44, u45, u46⟩ := hQ38
  have Ou41 : Old Z n0 T38.heap := Ou29.keep Ku41 (allS g_b23 (allS g_b7 all0))
  have N38 := Fr.app N22 u40
  have f47 : Arv Z T38.heap b9 k10 (.array .int) (1 : Int32) [(.ref b23)] .null := (u31.keep Ku41 (ninS (Nat.ne_of_lt (Nat.lt_of_lt_of_le u14 u27)) (ninS (Ne.symm (Nat.ne_of_lt (Nat.lt_of_lt_of_le lt_b7 u13))) nin0)))
  obtain ⟨cq48, kq48, q48a, q48b, q48c⟩ := isOf hZ rfl u44
  obtain ⟨_, _, ⟨T48, L48, k48, n48⟩, -, X48, ⟨Lc48, hQ48, l48, y48, z48⟩, st48⟩ := X38.virtualBack hx (y := M_1) (z := M_1) hown (mvT hZ (hw _ (gw 13 rfl))) (mvT hZ (hw _ (gw 14 rfl))) (notFace_of_selects (args := #[]) (mvT hZ (hw _ (gw 16 rfl)))) (mvT hZ (hw _ (gw 16 rfl))) (mvT hZ (hw _ (gw 15 rfl))) (by decide) (backOf (W := 0) (rm3_5 l Z a0 hw [] b7 p3 b9 b23 k10 p1 p2 k24 T38.heap n0  Ou41 u46 u45 f47 u43 g_b23 u42 (Nat.ne_of_lt (Nat.lt_of_lt_of_le (Nat.lt_of_lt_of_le lt_b7 Ku15.1) u27)) u44 g_b7) hZ (hw _ (gw 17 rfl)) (hw _ (gw 2 rfl)) (by decide) (by decide)) q48a q48c (g := (mkF m 24 #[.val (.int p1), .val (.int p2), .val (.int p3), .val (.int p4), .val (.int p5), .val (.int p6), .val (.ref b7), .unset, .unset, .unset, .unset] [(.int p3), (.ref b7)])) rfl (by rw [hml]; rfl) (Steps.refl _) (argsL := [(.int p3)]) (rest := []) (lenOf pd_1 rfl) rfl (by show 2 * 0 + _ ≤ _; exact Nat.le_of_eq rfl) (hb hby at_24) (fun _ _ => ⟨rfl, rfl, (by decide : 3 + 0 ≤ _), (by decide : 4099 + 0 ≤ _)⟩)
  dsimp only [Pt.U, Pt.locs, Pt.cells, Pt.slots] at X48 l48 y48 z48 st48 hQ48
  subst l48 y48 z48
  obtain ⟨rfl, u50, Ku51, u52, u53, u54, u55, u56⟩ := hQ48
  have Ou51 : Old Z n0 T48.heap := Ou41.keep Ku51 (allS g_b23 (allS g_b7 all0))
  have N48 := Fr.app N38 u50
  have f57 : Arv Z T48.heap b9 k10 (.array .int) (1 : Int32) [(.ref b23)] .null := (f47.keep Ku51 (ninS (Nat.ne_of_lt (Nat.lt_of_lt_of_le u14 u27)) (ninS (Ne.symm (Nat.ne_of_lt (Nat.lt_of_lt_of_le lt_b7 u13))) nin0)))
  obtain ⟨cq58, kq58, q58a, q58b, q58c⟩ := isOf hZ rfl u54
  obtain ⟨_, _, ⟨T58, L58, k58, n58⟩, -, X58, ⟨Lc58, hQ58, l58, y58, z58⟩, st58⟩ := X48.virtualBack hx (y := M_1) (z := M_1) hown (mvT hZ (hw _ (gw 13 rfl))) (mvT hZ (hw _ (gw 14 rfl))) (notFace_of_selects (args := #[]) (mvT hZ (hw _ (gw 16 rfl)))) (mvT hZ (hw _ (gw 16 rfl))) (mvT hZ (hw _ (gw 15 rfl))) (by decide) (backOf (W := 0) (rm3_6 l Z a0 hw [] b7 p4 b9 b23 k10 p1 p2 p3 k24 T48.heap n0  Ou51 u56 u55 f57 u53 g_b23 u52 (Nat.ne_of_lt (Nat.lt_of_lt_of_le (Nat.lt_of_lt_of_le lt_b7 Ku15.1) u27)) u54 g_b7) hZ (hw _ (gw 17 rfl)) (hw _ (gw 2 rfl)) (by decide) (by decide)) q58a q58c (g := (mkF m 30 #[.val (.int p1), .val (.int p2), .val (.int p3), .val (.int p4), .val (.int p5), .val (.int p6), .val (.ref b7), .unset, .unset, .unset, .unset] [(.int p4), (.ref b7)])) rfl (by rw [hml]; rfl) (Steps.refl _) (argsL := [(.int p4)]) (rest := []) (lenOf pd_1 rfl) rfl (by show 2 * 0 + _ ≤ _; exact Nat.le_of_eq rfl) (hb hby at_30) (fun _ _ => ⟨rfl, rfl, (by decide : 3 + 0 ≤ _), (by decide : 4099 + 0 ≤ _)⟩)
  dsimp only [Pt.U, Pt.locs, Pt.cells, Pt.slots] at X58 l58 y58 z58 st58 hQ58
  subst l58 y58 z58
  obtain ⟨rfl, u60, Ku61, u62, u63, u64, u65, u66⟩ := hQ58
  have Ou61 : Old Z n0 T58.heap := Ou51.keep Ku61 (allS g_b23 (allS g_b7 all0))
  have N58 := Fr.app N48 u60
  have pre68 : ∀ t, Steps p.tables e below (T58.setTop (mkF m 36 #[.val (.int p1), .val (.int p2), .val (.int p3), .val (.int p4), .val (.int p5), .val (.int p6), .val (.ref b7), .unset, .unset, .unset, .unset] [(.int (3 : Int32)), (.int p5)])) t → Steps p.tables e below (s₁.setTop (entryFrame m #[(.int p1), (.int p2), (.int p3), (.int p4), (.int p5), (.int p6)] maxLocals)) t := by
    intro t kt
    refine pre0 t ?_
    show Steps p.tables e below (s₁.setTop (mkF m 0 #[.val (.int p1), .val (.int p2), .val (.int p3), .val (.int p4), .val (.int p5), .val (.int p6), .unset, .unset, .unset, .unset, .unset] [])) _
    refine st7 _ ?_
    show Steps p.tables e below (T7.setTop (mkF m 3 #[.val (.int p1), .val (.int p2), .val (.int p3), .val (.int p4), .val (.int p5), .val (.int p6), .unset, .unset, .unset, .unset, .unset] [(.ref b7)])) _
    refine XS.dup X7.here hx rfl (hb hby at_3) rfl rfl ?_
    show Steps p.tables e below (T7.setTop (mkF m 4 #[.val (.int p1), .val (.int p2), .val (.int p3), .val (.int p4), .val (.int p5), .val (.int p6), .unset, .unset, .unset, .unset, .unset] [(.ref b7), (.ref b7)])) _
    refine st8.trans ?_
    show Steps p.tables e below (T8.setTop (mkF m 7 #[.val (.int p1), .val (.int p2), .val (.int p3), .val (.int p4), .val (.int p5), .val (.int p6), .unset, .unset, .unset, .unset, .unset] [(.ref b7)])) _
    refine XS.astore X8.here hx rfl (hb hby at_7) rfl rfl (l' := #[.val (.int p1), .val (.int p2), .val (.int p3), .val (.int p4), .val (.int p5), .val (.int p6), .val (.ref b7), .unset, .unset, .unset, .unset]) rfl ?_
    show Steps p.tables e below (T8.setTop (mkF m 9 #[.val (.int p1), .val (.int p2), .val (.int p3), .val (.int p4), .val (.int p5), .val (.int p6), .val (.ref b7), .unset, .unset, .unset, .unset] [])) _
    refine XS.aload X8.here hx rfl (hb hby at_9) rfl rfl ?_
    show Steps p.tables e below (T8.setTop (mkF m 11 #[.val (.int p1), .val (.int p2), .val (.int p3), .val (.int p4), .val (.int p5), .val (.int p6), .val (.ref b7), .unset, .unset, .unset, .unset] [(.ref b7)])) _
    refine XS.iloadN X8.here hx rfl (hb hby at_11) rfl ?_
    show Steps p.tables e below (T8.setTop (mkF m 12 #[.val (.int p1), .val (.int p2), .val (.int p3), .val (.int p4), .val (.int p5), .val (.int p6), .val (.ref b7), .unset, .unset, .unset, .unset] [(.int p1), (.ref b7)])) _
    refine st22.trans ?_
    show Steps p.tables e below (T22.setTop (mkF m 15 #[.val (.int p1), .val (.int p2), .val (.int p3), .val (.int p4), .val (.int p5), .val (.int p6), .val (.ref b7), .unset, .unset, .unset, .unset] [])) _
    refine XS.aload X22.here hx rfl (hb hby at_15) rfl rfl ?_
    show Steps p.tables e below (T22.setTop (mkF m 17 #[.val (.int p1), .val (.int p2), .val (.int p3), .val (.int p4), .val (.int p5), .val (.int p6), .val (.ref b7), .unset, .unset, .unset, .unset] [(.ref b7)])) _
    refine XS.iloadN X22.here hx rfl (hb hby at_17) rfl ?_
    show Steps p.tables e below (T22.setTop (mkF m 18 #[.val (.int p1), .val (.int p2), .val (.int p3), .val (.int p4), .val (.int p5), .val (.int p6), .val (.ref b7), .unset, .unset, .unset, .unset] [(.int p2), (.ref b7)])) _
    refine st38.trans ?_
    show Steps p.tables e below (T38.setTop (mkF m 21 #[.val (.int p1), .val (.int p2), .val (.int p3), .val (.int p4), .val (.int p5), .val (.int p6), .val (.ref b7), .unset, .unset, .unset, .unset] [])) _
    refine XS.aload X38.here hx rfl (hb hby at_21) rfl rfl ?_
    show Steps p.tables e below (T38.setTop (mkF m 23 #[.val (.int p1), .val (.int p2), .val (.int p3), .val (.int p4), .val (.int p5), .val (.int p6), .val (.ref b7), .unset, .unset, .unset, .unset] [(.ref b7)])) _
    refine XS.iloadN X38.here hx rfl (hb hby at_23) rfl ?_
    show Steps p.tables e below (T38.setTop (mkF m 24 #[.val (.int p1), .val (.int p2), .val (.int p3), .val (.int p4), .val (.int p5), .val (.int p6), .val (.ref b7), .unset, .unset, .unset, .unset] [(.int p3), (.ref b7)])) _
    refine st48.trans ?_
    show Steps p.tables e below (T48.setTop (mkF m 27 #[.val (.int p1), .val (.int p2), .val (.int p3), .val (.int p4), .val (.int p5), .val (.int p6), .val (.ref b7), .unset, .unset, .unset, .unset] [])) _
    refine XS.aload X48.here hx rfl (hb hby at_27) rfl rfl ?_
    show Steps p.tables e below (T48.setTop (mkF m 29 #[.val (.int p1), .val (.int p2), .val (.int p3), .val (.int p4), .val (.int p5), .val (.int p6), .val (.ref b7), .unset, .unset, .unset, .unset] [(.ref b7)])) _
    refine XS.iloadN X48.here hx rfl (hb hby at_29) rfl ?_
    show Steps p.tables e below (T48.setTop (mkF m 30 #[.val (.int p1), .val (.int p2), .val (.int p3), .val (.int p4), .val (.int p5), .val (.int p6), .val (.ref b7), .unset, .unset, .unset, .unset] [(.int p4), (.ref b7)])) _
    refine st58.trans ?_
    show Steps p.tables e below (T58.setTop (mkF m 33 #[.val (.int p1), .val (.int p2), .val (.int p3), .val (.int p4), .val (.int p5), .val (.int p6), .val (.ref b7), .unset, .unset, .unset, .unset] [])) _
    refine XS.iload X58.here hx rfl (hb hby at_33) rfl ?_
    show Steps p.tables e below (T58.setTop (mkF m 35 #[.val (.int p1), .val (.int p2), .val (.int p3), .val (.int p4), .val (.int p5), .val (.int p6), .val (.ref b7), .unset, .unset, .unset, .unset] [(.int p5)])) _
    refine XS.iconst X58.here hx rfl (hb hby at_35) ?_
    show Steps p.tables e below (T58.setTop (mkF m 36 #[.val (.int p1), .val (.int p2), .val (.int p3), .val (.int p4), .val (.int p5), .val (.int p6), .val (.ref b7), .unset, .unset, .unset, .unset] [(.int (3 : Int32)), (.int p5)])) _
    exact kt
  rcases (own_and3 p5) with hq67 | hq67 | hq67 | hq67
  · skip
    obtain ⟨i69, hi69⟩ : ∃ z, z = ((p5.toUInt32 >>> ((2 : Int32) &&& 31).toUInt32).toInt32) := ⟨_, rfl⟩
    obtain ⟨i70, hi70⟩ : ∃ z, z = (i69 &&& (1 : Int32)) := ⟨_, rfl⟩
    have pre71 : ∀ t, Steps p.tables e below (T58.setTop (mkF m 45 #[.val (.int p1), .val (.int p2), .val (.int p3), .val (.int p4), .val (.int p5), .val (.int p6), .val (.ref b7), .val (.int (0 : Int32)), .unset, .unset, .unset] [(.int i70)])) t → Steps p.tables e below (s₁.setTop (entryFrame m #[(.int p1), (.int p2), (.int p3), (.int p4), (.int p5), (.int p6)] maxLocals)) t := by
      intro t kt
      refine pre68 t ?_
      show Steps p.tables e below (T58.setTop (mkF m 36 #[.val (.int p1), .val (.int p2), .val (.int p3), .val (.int p4), .val (.int p5), .val (.int p6), .val (.ref b7), .unset, .unset, .unset, .unset] [(.int (3 : Int32)), (.int p5)])) _
      refine XS.iand X58.here hx rfl (hb hby at_36) rfl ?_
      show Steps p.tables e below (T58.setTop (mkF m 37 #[.val (.int p1), .val (.int p2), .val (.int p3), .val (.int p4), .val (.int p5), .val (.int p6), .val (.ref b7), .unset, .unset, .unset, .unset] [(.int (p5 &&& (3 : Int32)))])) _
      rw [hq67]
      show Steps p.tables e below (T58.setTop (mkF m 37 #[.val (.int p1), .val (.int p2), .val (.int p3), .val (.int p4), .val (.int p5), .val (.int p6), .val (.ref b7), .unset, .unset, .unset, .unset] [(.int (0 : Int32))])) _
      refine XS.istore X58.here hx rfl (hb hby at_37) rfl (l' := #[.val (.int p1), .val (.int p2), .val (.int p3), .val (.int p4), .val (.int p5), .val (.int p6), .val (.ref b7), .val (.int (0 : Int32)), .unset, .unset, .unset]) rfl ?_
      show Steps p.tables e below (T58.setTop (mkF m 39 #[.val (.int p1), .val (.int p2), .val (.int p3), .val (.int p4), .val (.int p5), .val (.int p6), .val (.ref b7), .val (.int (0 : Int32)), .unset, .unset, .unset] [])) _
      refine XS.iload X58.here hx rfl (hb hby at_39) rfl ?_
      show Steps p.tables e below (T58.setTop (mkF m 41 #[.val (.int p1), .val (.int p2), .val (.int p3), .val (.int p4), .val (.int p5), .val (.int p6), .val (.ref b7), .val (.int (0 : Int32)), .unset, .unset, .unset] [(.int p5)])) _
      refine XS.iconst X58.here hx rfl (hb hby at_41) ?_
      show Steps p.tables e below (T58.setTop (mkF m 42 #[.val (.int p1), .val (.int p2), .val (.int p3), .val (.int p4), .val (.int p5), .val (.int p6), .val (.ref b7), .val (.int (0 : Int32)), .unset, .unset, .unset] [(.int (2 : Int32)), (.int p5)])) _
      refine XS.iushr X58.here hx rfl (hb hby at_42) rfl ?_
      show Steps p.tables e below (T58.setTop (mkF m 43 #[.val (.int p1), .val (.int p2), .val (.int p3), .val (.int p4), .val (.int p5), .val (.int p6), .val (.ref b7), .val (.int (0 : Int32)), .unset, .unset, .unset] [(.int ((p5.toUInt32 >>> ((2 : Int32) &&& 31).toUInt32).toInt32))])) _
      rw [← hi69]
      show Steps p.tables e below (T58.setTop (mkF m 43 #[.val (.int p1), .val (.int p2), .val (.int p3), .val (.int p4), .val (.int p5), .val (.int p6), .val (.ref b7), .val (.int (0 : Int32)), .unset, .unset, .unset] [(.int i69)])) _
      refine XS.iconst X58.here hx rfl (hb hby at_43) ?_
      show Steps p.tables e below (T58.setTop (mkF m 44 #[.val (.int p1), .val (.int p2), .val (.int p3), .val (.int p4), .val (.int p5), .val (.int p6), .val (.ref b7), .val (.int (0 : Int32)), .unset, .unset, .unset] [(.int (1 : Int32)), (.int i69)])) _
      refine XS.iand X58.here hx rfl (hb hby at_44) rfl ?_
      show Steps p.tables e below (T58.setTop (mkF m 45 #[.val (.int p1), .val (.int p2), .val (.int p3), .val (.int p4), .val (.int p5), .val (.int p6), .val (.ref b7), .val (.int (0 : Int32)), .unset, .unset, .unset] [(.int (i69 &&& (1 : Int32)))])) _
      rw [← hi70]
      exact kt
    by_cases hc72 : i70 = (0 : Int32)
    · skip
      subst hc72
      obtain ⟨i73, hi73⟩ : ∃ z, z = ((p5.toUInt32 >>> ((3 : Int32) &&& 31).toUInt32).toInt32) := ⟨_, rfl⟩
      have pre75 : ∀ t, Steps p.tables e below (T58.setTop (mkF m 60 #[.val (.int p1), .val (.int p2), .val (.int p3), .val (.int p4), .val (.int p5), .val (.int p6), .val (.ref b7), .val (.int (0 : Int32)), .val (.int (0 : Int32)), .unset, .unset] [(.int (3 : Int32)), (.int i73)])) t → Steps p.tables e below (s₁.setTop (entryFrame m #[(.int p1), (.int p2), (.int p3), (.int p4), (.int p5), (.int p6)] maxLocals)) t := by
        intro t kt
        refine pre71 t ?_
        show Steps p.tables e below (T58.setTop (mkF m 45 #[.val (.int p1), .val (.int p2), .val (.int p3), .val (.int p4), .val (.int p5), .val (.int p6), .val (.ref b7), .val (.int (0 : Int32)), .unset, .unset, .unset] [(.int (0 : Int32))])) _
        refine XS.ifYes X58.here hx rfl (pc0 := 45) (pc' := 52) rfl (hb hby at_45) rfl ((if0 _ _).trans (teq (by decide +kernel : (0 : Int32) = (0 : Int32))).1) (by decide) (by decide) ?_
        show Steps p.tables e below (T58.setTop (mkF m 52 #[.val (.int p1), .val (.int p2), .val (.int p3), .val (.int p4), .val (.int p5), .val (.int p6), .val (.ref b7), .val (.int (0 : Int32)), .unset, .unset, .unset] [])) _
        refine XS.iconst X58.here hx rfl (hb hby at_52) ?_
        show Steps p.tables e below (T58.setTop (mkF m 53 #[.val (.int p1), .val (.int p2), .val (.int p3), .val (.int p4), .val (.int p5), .val (.int p6), .val (.ref b7), .val (.int (0 : Int32)), .unset, .unset, .unset] [(.int (0 : Int32))])) _
        refine XS.istore X58.here hx rfl (hb hby at_53) rfl (l' := #[.val (.int p1), .val (.int p2), .val (.int p3), .val (.int p4), .val (.int p5), .val (.int p6), .val (.ref b7), .val (.int (0 : Int32)), .val (.int (0 : Int32)), .unset, .unset]) rfl ?_
        show Steps p.tables e below (T58.setTop (mkF m 55 #[.val (.int p1), .val (.int p2), .val (.int p3), .val (.int p4), .val (.int p5), .val (.int p6), .val (.ref b7), .val (.int (0 : Int32)), .val (.int (0 : Int32)), .unset, .unset] [])) _
        refine XS.iload X58.here hx rfl (hb hby at_55) rfl ?_
        show Steps p.tables e below (T58.setTop (mkF m 57 #[.val (.int p1), .val (.int p2), .val (.int p3), .val (.int p4), .val (.int p5), .val (.int p6), .val (.ref b7), .val (.int (0 : Int32)), .val (.int (0 : Int32)), .unset, .unset] [(.int p5)])) _
        refine XS.iconst X58.here hx rfl (hb hby at_57) ?_
        show Steps p.tables e below (T58.setTop (mkF m 58 #[.val (.int p1), .val (.int p2), .val (.int p3), .val (.int p4), .val (.int p5), .val (.int p6), .val (.ref b7), .val (.int (0 : Int32)), .val (.int (0 : Int32)), .unset, .unset] [(.int (3 : Int32)), (.int p5)])) _
        refine XS.iushr X58.here hx rfl (hb hby at_58) rfl ?_
        show Steps p.tables e below (T58.setTop (mkF m 59 #[.val (.int p1), .val (.int p2), .val (.int p3), .val (.int p4), .val (.int p5), .val (.int p6), .val (.ref b7), .val (.int (0 : Int32)), .val (.int (0 : Int32)), .unset, .unset] [(.int ((p5.toUInt32 >>> ((3 : Int32) &&& 31).toUInt32).toInt32))])) _
        rw [← hi73]
        show Steps p.tables e below (T58.setTop (mkF m 59 #[.val (.int p1), .val (.int p2), .val (.int p3), .val (.int p4), .val (.int p5), .val (.int p6), .val (.ref b7), .val (.int (0 : Int32)), .val (.int (0 : Int32)), .unset, .unset] [(.int i73)])) _
        refine XS.iconst X58.here hx rfl (hb hby at_59) ?_
        show Steps p.tables e below (T58.setTop (mkF m 60 #[.val (.int p1), .val (.int p2), .val (.int p3), .val (.int p4), .val (.int p5), .val (.int p6), .val (.ref b7), .val (.int (0 : Int32)), .val (.int (0 : Int32)), .unset, .unset] [(.int (3 : Int32)), (.int i73)])) _
        exact kt
      rcases (own_and3 i73) with hq74 | hq74 | hq74 | hq74
      · skip
        have f76 : Arv Z T58.heap b9 k10 (.array .int) (1 : Int32) [(.ref b23)] .null := (f57.keep Ku61 (ninS (Nat.ne_of_lt (Nat.lt_of_lt_of_le u14 u27)) (ninS (Ne.symm (Nat.ne_of_lt (Nat.lt_of_lt_of_le lt_b7 u13))) nin0)))
        obtain ⟨cq77, kq77, q77a, q77b, q77c⟩ := isOf hZ rfl u64
        obtain ⟨_, _, ⟨T77, L77, k77, n77⟩, -, X77, ⟨Lc77, hQ77, l77, y77, z77⟩, st77⟩ := X58.virtualBack hx (y := M_2) (z := M_2) hown (mvT hZ (hw _ (gw 22 rfl))) (mvT hZ (hw _ (gw 23 rfl))) (notFace_of_selects (args := #[]) (mvT hZ (hw _ (gw 25 rfl)))) (mvT hZ (hw _ (gw 25 rfl))) (mvT hZ (hw _ (gw 24 rfl))) (by decide) (backOf (W := 0) (rm4_7 l Z a0 hw [] b7 b9 b23 k10 p1 p2 p3 p4 k24 T58.heap n0  Ou61 u65 f76 u63) hZ (hw _ (gw 26 rfl)) (hw _ (gw 2 rfl)) (by decide) (by decide)) q77a q77c (g := (mkF m 138 #[.val (.int p1), .val (.int p2), .val (.int p3), .val (.int p4), .val (.int p5), .val (.int p6), .val (.ref b7), .val (.int (0 : Int32)), .val (.int (0 : Int32)), .val (.int (0 : Int32)), .val (.int p1)] [(.int (0 : Int32)), (.ref b7)])) rfl (by rw [hml]; rfl) (Steps.refl _) (argsL := [(.int (0 : Int32))]) (rest := []) (lenOf pd_2 rfl) rfl (by show 2 * 0 + _ ≤ _; exact Nat.le_of_eq rfl) (hb hby at_138) (fun _ _ => ⟨rfl, rfl, (by decide : 3 + 0 ≤ _), (by decide : 4099 + 0 ≤ _)⟩)
        dsimp only [Pt.U, Pt.locs, Pt.cells, Pt.slots] at X77 l77 y77 z77 st77 hQ77
        subst l77 y77 z77
        obtain ⟨rfl, u79, u80⟩ := hQ77
        have N77 := Fr.app N58 u79
        obtain ⟨fs, hr, hrun, hended, hW, hsame⟩ := X77.leave (v := some (.int (1 : Int32))) (fun h => by rw [Bd.returns] at h; cases h)
        refine ⟨_, _, pre75 _ ?_, hrun, hended, _, _, rfl, ?_, ⟨_, rfl⟩, hW, hsame.mono (by decide) (by decide)⟩
        · show Steps p.tables e below (T58.setTop (mkF m 60 #[.val (.int p1), .val (.int p2), .val (.int p3), .val (.int p4), .val (.int p5), .val (.int p6), .val (.ref b7), .val (.int (0 : Int32)), .val (.int (0 : Int32)), .unset, .unset] [(.int (3 : Int32)), (.int i73)])) _
          refine XS.iand X58.here hx rfl (hb hby at_60) rfl ?_
          show Steps p.tables e below (T58.setTop (mkF m 61 #[.val (.int p1), .val (.int p2), .val (.int p3), .val (.int p4), .val (.int p5), .val (.int p6), .val (.ref b7), .val (.int (0 : Int32)), .val (.int (0 : Int32)), .unset, .unset] [(.int (i73 &&& (3 : Int32)))])) _
          rw [hq74]
          show Steps p.tables e below (T58.setTop (mkF m 61 #[.val (.int p1), .val (.int p2), .val (.int p3), .val (.int p4), .val (.int p5), .val (.int p6), .val (.ref b7), .val (.int (0 : Int32)), .val (.int (0 : Int32)), .unset, .unset] [(.int (0 : Int32))])) _
          refine XS.istore X58.here hx rfl (hb hby at_61) rfl (l' := #[.val (.int p1), .val (.int p2), .val (.int p3), .val (.int p4), .val (.int p5), .val (.int p6), .val (.ref b7), .val (.int (0 : Int32)), .val (.int (0 : Int32)), .val (.int (0 : Int32)), .unset]) rfl ?_
          show Steps p.tables e below (T58.setTop (mkF m 63 #[.val (.int p1), .val (.int p2), .val (.int p3), .val (.int p4), .val (.int p5), .val (.int p6), .val (.ref b7), .val (.int (0 : Int32)), .val (.int (0 : Int32)), .val (.int (0 : Int32)), .unset] [])) _
          refine XS.iload X58.here hx rfl (hb hby at_63) rfl ?_
          show Steps p.tables e below (T58.setTop (mkF m 65 #[.val (.int p1), .val (.int p2), .val (.int p3), .val (.int p4), .val (.int p5), .val (.int p6), .val (.ref b7), .val (.int (0 : Int32)), .val (.int (0 : Int32)), .val (.int (0 : Int32)), .unset] [(.int (0 : Int32))])) _
          refine XS.ifYes X58.here hx rfl (pc0 := 65) (pc' := 77) rfl (hb hby at_65) rfl ((if0 _ _).trans (teq (by decide +kernel : (0 : Int32) = (0 : Int32))).1) (by decide) (by decide) ?_
          show Steps p.tables e below (T58.setTop (mkF m 77 #[.val (.int p1), .val (.int p2), .val (.int p3), .val (.int p4), .val (.int p5), .val (.int p6), .val (.ref b7), .val (.int (0 : Int32)), .val (.int (0 : Int32)), .val (.int (0 : Int32)), .unset] [])) _
          refine XS.iload X58.here hx rfl (hb hby at_77) rfl ?_
          show Steps p.tables e below (T58.setTop (mkF m 79 #[.val (.int p1), .val (.int p2), .val (.int p3), .val (.int p4), .val (.int p5), .val (.int p6), .val (.ref b7), .val (.int (0 : Int32)), .val (.int (0 : Int32)), .val (.int (0 : Int32)), .unset] [(.int (0 : Int32))])) _
          refine XS.ifYes X58.here hx rfl (pc0 := 79) (pc' := 96) rfl (hb hby at_79) rfl ((if0 _ _).trans (teq (by decide +kernel : (0 : Int32) = (0 : Int32))).1) (by decide) (by decide) ?_
          show Steps p.tables e below (T58.setTop (mkF m 96 #[.val (.int p1), .val (.int p2), .val (.int p3), .val (.int p4), .val (.int p5), .val (.int p6), .val (.ref b7), .val (.int (0 : Int32)), .val (.int (0 : Int32)), .val (.int (0 : Int32)), .unset] [])) _
          refine XS.iload X58.here hx rfl (hb hby at_96) rfl ?_
          show Steps p.tables e below (T58.setTop (mkF m 98 #[.val (.int p1), .val (.int p2), .val (.int p3), .val (.int p4), .val (.int p5), .val (.int p6), .val (.ref b7), .val (.int (0 : Int32)), .val (.int (0 : Int32)), .val (.int (0 : Int32)), .unset] [(.int (0 : Int32))])) _
          refine XS.ifNo X58.here hx rfl (hb hby at_98) rfl ((if0 _ _).trans (teq (by decide +kernel : (0 : Int32) = (0 : Int32))).2) ?_
          show Steps p.tables e below (T58.setTop (mkF m 101 #[.val (.int p1), .val (.int p2), .val (.int p3), .val (.int p4), .val (.int p5), .val (.int p6), .val (.ref b7), .val (.int (0 : Int32)), .val (.int (0 : Int32)), .val (.int (0 : Int32)), .unset] [])) _
          refine XS.iloadN X58.here hx rfl (hb hby at_101) rfl ?_
          show Steps p.tables e below (T58.setTop (mkF m 102 #[.val (.int p1), .val (.int p2), .val (.int p3), .val (.int p4), .val (.int p5), .val (.int p6), .val (.ref b7), .val (.int (0 : Int32)), .val (.int (0 : Int32)), .val (.int (0 : Int32)), .unset] [(.int p1)])) _
          refine XS.istore X58.here hx rfl (hb hby at_102) rfl (l' := #[.val (.int p1), .val (.int p2), .val (.int p3), .val (.int p4), .val (.int p5), .val (.int p6), .val (.ref b7), .val (.int (0 : Int32)), .val (.int (0 : Int32)), .val (.int (0 : Int32)), .val (.int p1)]) rfl ?_
          show Steps p.tables e below (T58.setTop (mkF m 104 #[.val (.int p1), .val (.int p2), .val (.int p3), .val (.int p4), .val (.int p5), .val (.int p6), .val (.ref b7), .val (.int (0 : Int32)), .val (.int (0 : Int32)), .val (.int (0 : Int32)), .val (.int p1)] [])) _
          refine XS.goto X58.here hx rfl (pc0 := 104) (pc' := 134) rfl (hb hby at_104) (by decide) (by decide) ?_
          show Steps p.tables e below (T58.setTop (mkF m 134 #[.val (.int p1), .val (.int p2), .val (.int p3), .val (.int p4), .val (.int p5), .val (.int p6), .val (.ref b7), .val (.int (0 : Int32)), .val (.int (0 : Int32)), .val (.int (0 : Int32)), .val (.int p1)] [])) _
          refine XS.aload X58.here hx rfl (hb hby at_134) rfl rfl ?_
          show Steps p.tables e below (T58.setTop (mkF m 136 #[.val (.int p1), .val (.int p2), .val (.int p3), .val (.int p4), .val (.int p5), .val (.int p6), .val (.ref b7), .val (.int (0 : Int32)), .val (.int (0 : Int32)), .val (.int (0 : Int32)), .val (.int p1)] [(.ref b7)])) _
          refine XS.iload X58.here hx rfl (hb hby at_136) rfl ?_
          show Steps p.tables e below (T58.setTop (mkF m 138 #[.val (.int p1), .val (.int p2), .val (.int p3), .val (.int p4), .val (.int p5), .val (.int p6), .val (.ref b7), .val (.int (0 : Int32)), .val (.int (0 : Int32)), .val (.int (0 : Int32)), .val (.int p1)] [(.int (0 : Int32)), (.ref b7)])) _
          refine st77.trans ?_
          show Steps p.tables e below (T77.setTop (mkF m 141 #[.val (.int p1), .val (.int p2), .val (.int p3), .val (.int p4), .val (.int p5), .val (.int p6), .val (.ref b7), .val (.int (0 : Int32)), .val (.int (0 : Int32)), .val (.int (0 : Int32)), .val (.int p1)] [(.int p1)])) _
          refine XS.iload X77.here hx rfl (hb hby at_141) rfl ?_
          show Steps p.tables e below (T77.setTop (mkF m 143 #[.val (.int p1), .val (.int p2), .val (.int p3), .val (.int p4), .val (.int p5), .val (.int p6), .val (.ref b7), .val (.int (0 : Int32)), .val (.int (0 : Int32)), .val (.int (0 : Int32)), .val (.int p1)] [(.int p1), (.int p1)])) _
          refine XS.icmpNo X77.here hx rfl (hb hby at_143) rfl (teq (rfl : p1 = p1)).2 ?_
          show Steps p.tables e below (T77.setTop (mkF m 146 #[.val (.int p1), .val (.int p2), .val (.int p3), .val (.int p4), .val (.int p5), .val (.int p6), .val (.ref b7), .val (.int (0 : Int32)), .val (.int (0 : Int32)), .val (.int (0 : Int32)), .val (.int p1)] [])) _
          refine XS.iconst X77.here hx rfl (hb hby at_146) ?_
          show Steps p.tables e below (T77.setTop (mkF m 147 #[.val (.int p1), .val (.int p2), .val (.int p3), .val (.int p4), .val (.int p5), .val (.int p6), .val (.ref b7), .val (.int (0 : Int32)), .val (.int (0 : Int32)), .val (.int (0 : Int32)), .val (.int p1)] [(.int (1 : Int32))])) _
          refine XS.goto X77.here hx rfl (pc0 := 147) (pc' := 151) rfl (hb hby at_147) (by decide) (by decide) ?_
          show Steps p.tables e below (T77.setTop (mkF m 151 #[.val (.int p1), .val (.int p2), .val (.int p3), .val (.int p4), .val (.int p5), .val (.int p6), .val (.ref b7), .val (.int (0 : Int32)), .val (.int (0 : Int32)), .val (.int (0 : Int32)), .val (.int p1)] [(.int (1 : Int32))])) _
          exact retN X77 hx (t := .boolean) Bd.returns (by simp) (hb hby at_151) hr
        · show Q0 Z _ _ _ _ _ _ h0 n0 _ T77.heap _
          rw [u80]
          exact ⟨rfl, N77⟩
      · skip
        have f81 : Arv Z T58.heap b9 k10 (.array .int) (1 : Int32) [(.ref b23)] .null := (f57.keep Ku61 (ninS (Nat.ne_of_lt (Nat.lt_of_lt_of_le u14 u27)) (ninS (Ne.symm (Nat.ne_of_lt (Nat.lt_of_lt_of_le lt_b7 u13))) nin0)))
        obtain ⟨cq82, kq82, q82a, q82b, q82c⟩ := isOf hZ rfl u64
        obtain ⟨_, _, ⟨T82, L82, k82, n82⟩, -, X82, ⟨Lc82, hQ82, l82, y82, z82⟩, st82⟩ := X58.virtualBack hx (y := M_2) (z := M_2) hown (mvT hZ (hw _ (gw 22 rfl))) (mvT hZ (hw _ (gw 23 rfl))) (notFace_of_selects (args := #[]) (mvT hZ (hw _ (gw 25 rfl)))) (mvT hZ (hw _ (gw 25 rfl))) (mvT hZ (hw _ (gw 24 rfl))) (by decide) (backOf (W := 0) (rm4_8 l Z a0 hw [] b7 b9 b23 k10 p1 p2 p3 p4 k24 T58.heap n0  Ou61 u65 f81 u63) hZ (hw _ (gw 26 rfl)) (hw _ (gw 2 rfl)) (by decide) (by decide)) q82a q82c (g := (mkF m 138 #[.val (.int p1), .val (.int p2), .val (.int p3), .val (.int p4), .val (.int p5), .val (.int p6), .val (.ref b7), .val (.int (0 : Int32)), .val (.int (0 : Int32)), .val (.int (1 : Int32)), .val (.int p2)] [(.int (1 : Int32)), (.ref b7)])) rfl (by rw [hml]; rfl) (Steps.refl _) (argsL := [(.int (1 : Int32))]) (rest := []) (lenOf pd_2 rfl) rfl (by show 2 * 0 + _ ≤ _; exact Nat.le_of_eq rfl) (hb hby at_138) (fun _ _ => ⟨rfl, rfl, (by decide : 3 + 0 ≤ _), (by decide : 4099 + 0 ≤ _)⟩)
        dsimp only [Pt.U, Pt.locs, Pt.cells, Pt.slots] at X82 l82 y82 z82 st82 hQ82
        subst l82 y82 z82
        obtain ⟨rfl, u84, u85⟩ := hQ82
        have N82 := Fr.app N58 u84
        obtain ⟨fs, hr, hrun, hended, hW, hsame⟩ := X82.leave (v := some (.int (1 : Int32))) (fun h => by rw [Bd.returns] at h; cases h)
        refine ⟨_, _, pre75 _ ?_, hrun, hended, _, _, rfl, ?_, ⟨_, rfl⟩, hW, hsame.mono (by decide) (by decide)⟩
        · show Steps p.tables e below (T58.setTop (mkF m 60 #[.val (.int p1), .val (.int p2), .val (.int p3), .val (.int p4), .val (.int p5), .val (.int p6), .val (.ref b7), .val (.int (0 : Int32)), .val (.int (0 : Int32)), .unset, .unset] [(.int (3 : Int32)), (.int i73)])) _
          refine XS.iand X58.here hx rfl (hb hby at_60) rfl ?_
          show Steps p.tables e below (T58.setTop (mkF m 61 #[.val (.int p1), .val (.int p2), .val (.int p3), .val (.int p4), .val (.int p5), .val (.int p6), .val (.ref b7), .val (.int (0 : Int32)), .val (.int (0 : Int32)), .unset, .unset] [(.int (i73 &&& (3 : Int32)))])) _
          rw [hq74]
          show Steps p.tables e below (T58.setTop (mkF m 61 #[.val (.int p1), .val (.int p2), .val (.int p3), .val (.int p4), .val (.int p5), .val (.int p6), .val (.ref b7), .val (.int (0 : Int32)), .val (.int (0 : Int32)), .unset, .unset] [(.int (1 : Int32))])) _
          refine XS.istore X58.here hx rfl (hb hby at_61) rfl (l' := #[.val (.int p1), .val (.int p2), .val (.int p3), .val (.int p4), .val (.int p5), .val (.int p6), .val (.ref b7), .val (.int (0 : Int32)), .val (.int (0 : Int32)), .val (.int (1 : Int32)), .unset]) rfl ?_
          show Steps p.tables e below (T58.setTop (mkF m 63 #[.val (.int p1), .val (.int p2), .val (.int p3), .val (.int p4), .val (.int p5), .val (.int p6), .val (.ref b7), .val (.int (0 : Int32)), .val (.int (0 : Int32)), .val (.int (1 : Int32)), .unset] [])) _
          refine XS.iload X58.here hx rfl (hb hby at_63) rfl ?_
          show Steps p.tables e below (T58.setTop (mkF m 65 #[.val (.int p1), .val (.int p2), .val (.int p3), .val (.int p4), .val (.int p5), .val (.int p6), .val (.ref b7), .val (.int (0 : Int32)), .val (.int (0 : Int32)), .val (.int (1 : Int32)), .unset] [(.int (0 : Int32))])) _
          refine XS.ifYes X58.here hx rfl (pc0 := 65) (pc' := 77) rfl (hb hby at_65) rfl ((if0 _ _).trans (teq (by decide +kernel : (0 : Int32) = (0 : Int32))).1) (by decide) (by decide) ?_
          show Steps p.tables e below (T58.setTop (mkF m 77 #[.val (.int p1), .val (.int p2), .val (.int p3), .val (.int p4), .val (.int p5), .val (.int p6), .val (.ref b7), .val (.int (0 : Int32)), .val (.int (0 : Int32)), .val (.int (1 : Int32)), .unset] [])) _
          refine XS.iload X58.here hx rfl (hb hby at_77) rfl ?_
          show Steps p.tables e below (T58.setTop (mkF m 79 #[.val (.int p1), .val (.int p2), .val (.int p3), .val (.int p4), .val (.int p5), .val (.int p6), .val (.ref b7), .val (.int (0 : Int32)), .val (.int (0 : Int32)), .val (.int (1 : Int32)), .unset] [(.int (0 : Int32))])) _
          refine XS.ifYes X58.here hx rfl (pc0 := 79) (pc' := 96) rfl (hb hby at_79) rfl ((if0 _ _).trans (teq (by decide +kernel : (0 : Int32) = (0 : Int32))).1) (by decide) (by decide) ?_
          show Steps p.tables e below (T58.setTop (mkF m 96 #[.val (.int p1), .val (.int p2), .val (.int p3), .val (.int p4), .val (.int p5), .val (.int p6), .val (.ref b7), .val (.int (0 : Int32)), .val (.int (0 : Int32)), .val (.int (1 : Int32)), .unset] [])) _
          refine XS.iload X58.here hx rfl (hb hby at_96) rfl ?_
          show Steps p.tables e below (T58.setTop (mkF m 98 #[.val (.int p1), .val (.int p2), .val (.int p3), .val (.int p4), .val (.int p5), .val (.int p6), .val (.ref b7), .val (.int (0 : Int32)), .val (.int (0 : Int32)), .val (.int (1 : Int32)), .unset] [(.int (1 : Int32))])) _
          refine XS.ifYes X58.here hx rfl (pc0 := 98) (pc' := 107) rfl (hb hby at_98) rfl ((if0 _ _).trans (feq (by decide +kernel : ¬ ((1 : Int32) = (0 : Int32)))).2) (by decide) (by decide) ?_
          show Steps p.tables e below (T58.setTop (mkF m 107 #[.val (.int p1), .val (.int p2), .val (.int p3), .val (.int p4), .val (.int p5), .val (.int p6), .val (.ref b7), .val (.int (0 : Int32)), .val (.int (0 : Int32)), .val (.int (1 : Int32)), .unset] [])) _
          refine XS.iload X58.here hx rfl (hb hby at_107) rfl ?_
          show Steps p.tables e below (T58.setTop (mkF m 109 #[.val (.int p1), .val (.int p2), .val (.int p3), .val (.int p4), .val (.int p5), .val (.int p6), .val (.ref b7), .val (.int (0 : Int32)), .val (.int (0 : Int32)), .val (.int (1 : Int32)), .unset] [(.int (1 : Int32))])) _
          refine XS.iconst X58.here hx rfl (hb hby at_109) ?_
          show Steps p.tables e below (T58.setTop (mkF m 110 #[.val (.int p1), .val (.int p2), .val (.int p3), .val (.int p4), .val (.int p5), .val (.int p6), .val (.ref b7), .val (.int (0 : Int32)), .val (.int (0 : Int32)), .val (.int (1 : Int32)), .unset] [(.int (1 : Int32)), (.int (1 : Int32))])) _
          refine XS.icmpNo X58.here hx rfl (hb hby at_110) rfl (teq (by decide +kernel : (1 : Int32) = (1 : Int32))).2 ?_
          show Steps p.tables e below (T58.setTop (mkF m 113 #[.val (.int p1), .val (.int p2), .val (.int p3), .val (.int p4), .val (.int p5), .val (.int p6), .val (.ref b7), .val (.int (0 : Int32)), .val (.int (0 : Int32)), .val (.int (1 : Int32)), .unset] [])) _
          refine XS.iloadN X58.here hx rfl (hb hby at_113) rfl ?_
          show Steps p.tables e below (T58.setTop (mkF m 114 #[.val (.int p1), .val (.int p2), .val (.int p3), .val (.int p4), .val (.int p5), .val (.int p6), .val (.ref b7), .val (.int (0 : Int32)), .val (.int (0 : Int32)), .val (.int (1 : Int32)), .unset] [(.int p2)])) _
          refine XS.istore X58.here hx rfl (hb hby at_114) rfl (l' := #[.val (.int p1), .val (.int p2), .val (.int p3), .val (.int p4), .val (.int p5), .val (.int p6), .val (.ref b7), .val (.int (0 : Int32)), .val (.int (0 : Int32)), .val (.int (1 : Int32)), .val (.int p2)]) rfl ?_
          show Steps p.tables e below (T58.setTop (mkF m 116 #[.val (.int p1), .val (.int p2), .val (.int p3), .val (.int p4), .val (.int p5), .val (.int p6), .val (.ref b7), .val (.int (0 : Int32)), .val (.int (0 : Int32)), .val (.int (1 : Int32)), .val (.int p2)] [])) _
          refine XS.goto X58.here hx rfl (pc0 := 116) (pc' := 134) rfl (hb hby at_116) (by decide) (by decide) ?_
          show Steps p.tables e below (T58.setTop (mkF m 134 #[.val (.int p1), .val (.int p2), .val (.int p3), .val (.int p4), .val (.int p5), .val (.int p6), .val (.ref b7), .val (.int (0 : Int32)), .val (.int (0 : Int32)), .val (.int (1 : Int32)), .val (.int p2)] [])) _
          refine XS.aload X58.here hx rfl (hb hby at_134) rfl rfl ?_
          show Steps p.tables e below (T58.setTop (mkF m 136 #[.val (.int p1), .val (.int p2), .val (.int p3), .val (.int p4), .val (.int p5), .val (.int p6), .val (.ref b7), .val (.int (0 : Int32)), .val (.int (0 : Int32)), .val (.int (1 : Int32)), .val (.int p2)] [(.ref b7)])) _
          refine XS.iload X58.here hx rfl (hb hby at_136) rfl ?_
          show Steps p.tables e below (T58.setTop (mkF m 138 #[.val (.int p1), .val (.int p2), .val (.int p3), .val (.int p4), .val (.int p5), .val (.int p6), .val (.ref b7), .val (.int (0 : Int32)), .val (.int (0 : Int32)), .val (.int (1 : Int32)), .val (.int p2)] [(.int (1 : Int32)), (.ref b7)])) _
          refine st82.trans ?_
          show Steps p.tables e below (T82.setTop (mkF m 141 #[.val (.int p1), .val (.int p2), .val (.int p3), .val (.int p4), .val (.int p5), .val (.int p6), .val (.ref b7), .val (.int (0 : Int32)), .val (.int (0 : Int32)), .val (.int (1 : Int32)), .val (.int p2)] [(.int p2)])) _
          refine XS.iload X82.here hx rfl (hb hby at_141) rfl ?_
          show Steps p.tables e below (T82.setTop (mkF m 143 #[.val (.int p1), .val (.int p2), .val (.int p3), .val (.int p4), .val (.int p5), .val (.int p6), .val (.ref b7), .val (.int (0 : Int32)), .val (.int (0 : Int32)), .val (.int (1 : Int32)), .val (.int p2)] [(.int p2), (.int p2)])) _
          refine XS.icmpNo X82.here hx rfl (hb hby at_143) rfl (teq (rfl : p2 = p2)).2 ?_
          show Steps p.tables e below (T82.setTop (mkF m 146 #[.val (.int p1), .val (.int p2), .val (.int p3), .val (.int p4), .val (.int p5), .val (.int p6), .val (.ref b7), .val (.int (0 : Int32)), .val (.int (0 : Int32)), .val (.int (1 : Int32)), .val (.int p2)] [])) _
          refine XS.iconst X82.here hx rfl (hb hby at_146) ?_
          show Steps p.tables e below (T82.setTop (mkF m 147 #[.val (.int p1), .val (.int p2), .val (.int p3), .val (.int p4), .val (.int p5), .val (.int p6), .val (.ref b7), .val (.int (0 : Int32)), .val (.int (0 : Int32)), .val (.int (1 : Int32)), .val (.int p2)] [(.int (1 : Int32))])) _
          refine XS.goto X82.here hx rfl (pc0 := 147) (pc' := 151) rfl (hb hby at_147) (by decide) (by decide) ?_
          show Steps p.tables e below (T82.setTop (mkF m 151 #[.val (.int p1), .val (.int p2), .val (.int p3), .val (.int p4), .val (.int p5), .val (.int p6), .val (.ref b7), .val (.int (0 : Int32)), .val (.int (0 : Int32)), .val (.int (1 : Int32)), .val (.int p2)] [(.int (1 : Int32))])) _
          exact retN X82 hx (t := .boolean) Bd.returns (by simp) (hb hby at_151) hr
        · show Q0 Z _ _ _ _ _ _ h0 n0 _ T82.heap _
          rw [u85]
          exact ⟨rfl, N82⟩
      · skip
        have f86 : Arv Z T58.heap b9 k10 (.array .int) (1 : Int32) [(.ref b23)] .null := (f57.keep Ku61 (ninS (Nat.ne_of_lt (Nat.lt_of_lt_of_le u14 u27)) (ninS (Ne.symm (Nat.ne_of_lt (Nat.lt_of_lt_of_le lt_b7 u13))) nin0)))
        obtain ⟨cq87, kq87, q87a, q87b, q87c⟩ := isOf hZ rfl u64
        obtain ⟨_, _, ⟨T87, L87, k87, n87⟩, -, X87, ⟨Lc87, hQ87, l87, y87, z87⟩, st87⟩ := X58.virtualBack hx (y := M_2) (z := M_2) hown (mvT hZ (hw _ (gw 22 rfl))) (mvT hZ (hw _ (gw 23 rfl))) (notFace_of_selects (args := #[]) (mvT hZ (hw _ (gw 25 rfl)))) (mvT hZ (hw _ (gw 25 rfl))) (mvT hZ (hw _ (gw 24 rfl))) (by decide) (backOf (W := 0) (rm4_9 l Z a0 hw [] b7 b9 b23 k10 p1 p2 p3 p4 k24 T58.heap n0  Ou61 u65 f86 u63) hZ (hw _ (gw 26 rfl)) (hw _ (gw 2 rfl)) (by decide) (by decide)) q87a q87c (g := (mkF m 138 #[.val (.int p1), .val (.int p2), .val (.int p3), .val (.int p4), .val (.int p5), .val (.int p6), .val (.ref b7), .val (.int (0 : Int32)), .val (.int (0 : Int32)), .val (.int (2 : Int32)), .val (.int p3)] [(.int (2 : Int32)), (.ref b7)])) rfl (by rw [hml]; rfl) (Steps.refl _) (argsL := [(.int (2 : Int32))]) (rest := []) (lenOf pd_2 rfl) rfl (by show 2 * 0 + _ ≤ _; exact Nat.le_of_eq rfl) (hb hby at_138) (fun _ _ => ⟨rfl, rfl, (by decide : 3 + 0 ≤ _), (by decide : 4099 + 0 ≤ _)⟩)
        dsimp only [Pt.U, Pt.locs, Pt.cells, Pt.slots] at X87 l87 y87 z87 st87 hQ87
        subst l87 y87 z87
        obtain ⟨rfl, u89, u90⟩ := hQ87
        have N87 := Fr.app N58 u89
        obtain ⟨fs, hr, hrun, hended, hW, hsame⟩ := X87.leave (v := some (.int (1 : Int32))) (fun h => by rw [Bd.returns] at h; cases h)
        refine ⟨_, _, pre75 _ ?_, hrun, hended, _, _, rfl, ?_, ⟨_, rfl⟩, hW, hsame.mono (by decide) (by decide)⟩
        · show Steps p.tables e below (T58.setTop (mkF m 60 #[.val (.int p1), .val (.int p2), .val (.int p3), .val (.int p4), .val (.int p5), .val (.int p6), .val (.ref b7), .val (.int (0 : Int32)), .val (.int (0 : Int32)), .unset, .unset] [(.int (3 : Int32)), (.int i73)])) _
          refine XS.iand X58.here hx rfl (hb hby at_60) rfl ?_
          show Steps p.tables e below (T58.setTop (mkF m 61 #[.val (.int p1), .val (.int p2), .val (.int p3), .val (.int p4), .val (.int p5), .val (.int p6), .val (.ref b7), .val (.int (0 : Int32)), .val (.int (0 : Int32)), .unset, .unset] [(.int (i73 &&& (3 : Int32)))])) _
          rw [hq74]
          show Steps p.tables e below (T58.setTop (mkF m 61 #[.val (.int p1), .val (.int p2), .val (.int p3), .val (.int p4), .val (.int p5), .val (.int p6), .val (.ref b7), .val (.int (0 : Int32)), .val (.int (0 : Int32)), .unset, .unset] [(.int (2 : Int32))])) _
          refine XS.istore X58.here hx rfl (hb hby at_61) rfl (l' := #[.val (.int p1), .val (.int p2), .val (.int p3), .val (.int p4), .val (.int p5), .val (.int p6), .val (.ref b7), .val (.int (0 : Int32)), .val (.int (0 : Int32)), .val (.int (2 : Int32)), .unset]) rfl ?_
          show Steps p.tables e below (T58.setTop (mkF m 63 #[.val (.int p1), .val (.int p2), .val (.int p3), .val (.int p4), .val (.int p5), .val (.int p6), .val (.ref b7), .val (.int (0 : Int32)), .val (.int (0 : Int32)), .val (.int (2 : Int32)), .unset] [])) _
          refine XS.iload X58.here hx rfl (hb hby at_63) rfl ?_
          show Steps p.tables e below (T58.setTop (mkF m 65 #[.val (.int p1), .val (.int p2), .val (.int p3), .val (.int p4), .val (.int p5), .val (.int p6), .val (.ref b7), .val (.int (0 : Int32)), .val (.int (0 : Int32)), .val (.int (2 : Int32)), .unset] [(.int (0 : Int32))])) _
          refine XS.ifYes X58.here hx rfl (pc0 := 65) (pc' := 77) rfl (hb hby at_65) rfl ((if0 _ _).trans (teq (by decide +kernel : (0 : Int32) = (0 : Int32))).1) (by decide) (by decide) ?_
          show Steps p.tables e below (T58.setTop (mkF m 77 #[.val (.int p1), .val (.int p2), .val (.int p3), .val (.int p4), .val (.int p5), .val (.int p6), .val (.ref b7), .val (.int (0 : Int32)), .val (.int (0 : Int32)), .val (.int (2 : Int32)), .unset] [])) _
          refine XS.iload X58.here hx rfl (hb hby at_77) rfl ?_
          show Steps p.tables e below (T58.setTop (mkF m 79 #[.val (.int p1), .val (.int p2), .val (.int p3), .val (.int p4), .val (.int p5), .val (.int p6), .val (.ref b7), .val (.int (0 : Int32)), .val (.int (0 : Int32)), .val (.int (2 : Int32)), .unset] [(.int (0 : Int32))])) _
          refine XS.ifYes X58.here hx rfl (pc0 := 79) (pc' := 96) rfl (hb hby at_79) rfl ((if0 _ _).trans (teq (by decide +kernel : (0 : Int32) = (0 : Int32))).1) (by decide) (by decide) ?_
          show Steps p.tables e below (T58.setTop (mkF m 96 #[.val (.int p1), .val (.int p2), .val (.int p3), .val (.int p4), .val (.int p5), .val (.int p6), .val (.ref b7), .val (.int (0 : Int32)), .val (.int (0 : Int32)), .val (.int (2 : Int32)), .unset] [])) _
          refine XS.iload X58.here hx rfl (hb hby at_96) rfl ?_
          show Steps p.tables e below (T58.setTop (mkF m 98 #[.val (.int p1), .val (.int p2), .val (.int p3), .val (.int p4), .val (.int p5), .val (.int p6), .val (.ref b7), .val (.int (0 : Int32)), .val (.int (0 : Int32)), .val (.int (2 : Int32)), .unset] [(.int (2 : Int32))])) _
          refine XS.ifYes X58.here hx rfl (pc0 := 98) (pc' := 107) rfl (hb hby at_98) rfl ((if0 _ _).trans (feq (by decide +kernel : ¬ ((2 : Int32) = (0 : Int32)))).2) (by decide) (by decide) ?_
          show Steps p.tables e below (T58.setTop (mkF m 107 #[.val (.int p1), .val (.int p2), .val (.int p3), .val (.int p4), .val (.int p5), .val (.int p6), .val (.ref b7), .val (.int (0 : Int32)), .val (.int (0 : Int32)), .val (.int (2 : Int32)), .unset] [])) _
          refine XS.iload X58.here hx rfl (hb hby at_107) rfl ?_
          show Steps p.tables e below (T58.setTop (mkF m 109 #[.val (.int p1), .val (.int p2), .val (.int p3), .val (.int p4), .val (.int p5), .val (.int p6), .val (.ref b7), .val (.int (0 : Int32)), .val (.int (0 : Int32)), .val (.int (2 : Int32)), .unset] [(.int (2 : Int32))])) _
          refine XS.iconst X58.here hx rfl (hb hby at_109) ?_
          show Steps p.tables e below (T58.setTop (mkF m 110 #[.val (.int p1), .val (.int p2), .val (.int p3), .val (.int p4), .val (.int p5), .val (.int p6), .val (.ref b7), .val (.int (0 : Int32)), .val (.int (0 : Int32)), .val (.int (2 : Int32)), .unset] [(.int (1 : Int32)), (.int (2 : Int32))])) _
          refine XS.icmpYes X58.here hx rfl (pc0 := 110) (pc' := 119) rfl (hb hby at_110) rfl (feq (by decide +kernel : ¬ ((2 : Int32) = (1 : Int32)))).2 (by decide) (by decide) ?_
          show Steps p.tables e below (T58.setTop (mkF m 119 #[.val (.int p1), .val (.int p2), .val (.int p3), .val (.int p4), .val (.int p5), .val (.int p6), .val (.ref b7), .val (.int (0 : Int32)), .val (.int (0 : Int32)), .val (.int (2 : Int32)), .unset] [])) _
          refine XS.iload X58.here hx rfl (hb hby at_119) rfl ?_
          show Steps p.tables e below (T58.setTop (mkF m 121 #[.val (.int p1), .val (.int p2), .val (.int p3), .val (.int p4), .val (.int p5), .val (.int p6), .val (.ref b7), .val (.int (0 : Int32)), .val (.int (0 : Int32)), .val (.int (2 : Int32)), .unset] [(.int (2 : Int32))])) _
          refine XS.iconst X58.here hx rfl (hb hby at_121) ?_
          show Steps p.tables e below (T58.setTop (mkF m 122 #[.val (.int p1), .val (.int p2), .val (.int p3), .val (.int p4), .val (.int p5), .val (.int p6), .val (.ref b7), .val (.int (0 : Int32)), .val (.int (0 : Int32)), .val (.int (2 : Int32)), .unset] [(.int (2 : Int32)), (.int (2 : Int32))])) _
          refine XS.icmpNo X58.here hx rfl (hb hby at_122) rfl (teq (by decide +kernel : (2 : Int32) = (2 : Int32))).2 ?_
          show Steps p.tables e below (T58.setTop (mkF m 125 #[.val (.int p1), .val (.int p2), .val (.int p3), .val (.int p4), .val (.int p5), .val (.int p6), .val (.ref b7), .val (.int (0 : Int32)), .val (.int (0 : Int32)), .val (.int (2 : Int32)), .unset] [])) _
          refine XS.iloadN X58.here hx rfl (hb hby at_125) rfl ?_
          show Steps p.tables e below (T58.setTop (mkF m 126 #[.val (.int p1), .val (.int p2), .val (.int p3), .val (.int p4), .val (.int p5), .val (.int p6), .val (.ref b7), .val (.int (0 : Int32)), .val (.int (0 : Int32)), .val (.int (2 : Int32)), .unset] [(.int p3)])) _
          refine XS.istore X58.here hx rfl (hb hby at_126) rfl (l' := #[.val (.int p1), .val (.int p2), .val (.int p3), .val (.int p4), .val (.int p5), .val (.int p6), .val (.ref b7), .val (.int (0 : Int32)), .val (.int (0 : Int32)), .val (.int (2 : Int32)), .val (.int p3)]) rfl ?_
          show Steps p.tables e below (T58.setTop (mkF m 128 #[.val (.int p1), .val (.int p2), .val (.int p3), .val (.int p4), .val (.int p5), .val (.int p6), .val (.ref b7), .val (.int (0 : Int32)), .val (.int (0 : Int32)), .val (.int (2 : Int32)), .val (.int p3)] [])) _
          refine XS.goto X58.here hx rfl (pc0 := 128) (pc' := 134) rfl (hb hby at_128) (by decide) (by decide) ?_
          show Steps p.tables e below (T58.setTop (mkF m 134 #[.val (.int p1), .val (.int p2), .val (.int p3), .val (.int p4), .val (.int p5), .val (.int p6), .val (.ref b7), .val (.int (0 : Int32)), .val (.int (0 : Int32)), .val (.int (2 : Int32)), .val (.int p3)] [])) _
          refine XS.aload X58.here hx rfl (hb hby at_134) rfl rfl ?_
          show Steps p.tables e below (T58.setTop (mkF m 136 #[.val (.int p1), .val (.int p2), .val (.int p3), .val (.int p4), .val (.int p5), .val (.int p6), .val (.ref b7), .val (.int (0 : Int32)), .val (.int (0 : Int32)), .val (.int (2 : Int32)), .val (.int p3)] [(.ref b7)])) _
          refine XS.iload X58.here hx rfl (hb hby at_136) rfl ?_
          show Steps p.tables e below (T58.setTop (mkF m 138 #[.val (.int p1), .val (.int p2), .val (.int p3), .val (.int p4), .val (.int p5), .val (.int p6), .val (.ref b7), .val (.int (0 : Int32)), .val (.int (0 : Int32)), .val (.int (2 : Int32)), .val (.int p3)] [(.int (2 : Int32)), (.ref b7)])) _
          refine st87.trans ?_
          show Steps p.tables e below (T87.setTop (mkF m 141 #[.val (.int p1), .val (.int p2), .val (.int p3), .val (.int p4), .val (.int p5), .val (.int p6), .val (.ref b7), .val (.int (0 : Int32)), .val (.int (0 : Int32)), .val (.int (2 : Int32)), .val (.int p3)] [(.int p3)])) _
          refine XS.iload X87.here hx rfl (hb hby at_141) rfl ?_
          show Steps p.tables e below (T87.setTop (mkF m 143 #[.val (.int p1), .val (.int p2), .val (.int p3), .val (.int p4), .val (.int p5), .val (.int p6), .val (.ref b7), .val (.int (0 : Int32)), .val (.int (0 : Int32)), .val (.int (2 : Int32)), .val (.int p3)] [(.int p3), (.int p3)])) _
          refine XS.icmpNo X87.here hx rfl (hb hby at_143) rfl (teq (rfl : p3 = p3)).2 ?_
          show Steps p.tables e below (T87.setTop (mkF m 146 #[.val (.int p1), .val (.int p2), .val (.int p3), .val (.int p4), .val (.int p5), .val (.int p6), .val (.ref b7), .val (.int (0 : Int32)), .val (.int (0 : Int32)), .val (.int (2 : Int32)), .val (.int p3)] [])) _
          refine XS.iconst X87.here hx rfl (hb hby at_146) ?_
          show Steps p.tables e below (T87.setTop (mkF m 147 #[.val (.int p1), .val (.int p2), .val (.int p3), .val (.int p4), .val (.int p5), .val (.int p6), .val (.ref b7), .val (.int (0 : Int32)), .val (.int (0 : Int32)), .val (.int (2 : Int32)), .val (.int p3)] [(.int (1 : Int32))])) _
          refine XS.goto X87.here hx rfl (pc0 := 147) (pc' := 151) rfl (hb hby at_147) (by decide) (by decide) ?_
          show Steps p.tables e below (T87.setTop (mkF m 151 #[.val (.int p1), .val (.int p2), .val (.int p3), .val (.int p4), .val (.int p5), .val (.int p6), .val (.ref b7), .val (.int (0 : Int32)), .val (.int (0 : Int32)), .val (.int (2 : Int32)), .val (.int p3)] [(.int (1 : Int32))])) _
          exact retN X87 hx (t := .boolean) Bd.returns (by simp) (hb hby at_151) hr
        · show Q0 Z _ _ _ _ _ _ h0 n0 _ T87.heap _
          rw [u90]
          exact ⟨rfl, N87⟩
      · skip
        have f91 : Arv Z T58.heap b9 k10 (.array .int) (1 : Int32) [(.ref b23)] .null := (f57.keep Ku61 (ninS (Nat.ne_of_lt (Nat.lt_of_lt_of_le u14 u27)) (ninS (Ne.symm (Nat.ne_of_lt (Nat.lt_of_lt_of_le lt_b7 u13))) nin0)))
        obtain ⟨cq92, kq92, q92a, q92b, q92c⟩ := isOf hZ rfl u64
        obtain ⟨_, _, ⟨T92, L92, k92, n92⟩, -, X92, ⟨Lc92, hQ92, l92, y92, z92⟩, st92⟩ := X58.virtualBack hx (y := M_2) (z := M_2) hown (mvT hZ (hw _ (gw 22 rfl))) (mvT hZ (hw _ (gw 23 rfl))) (notFace_of_selects (args := #[]) (mvT hZ (hw _ (gw 25 rfl)))) (mvT hZ (hw _ (gw 25 rfl))) (mvT hZ (hw _ (gw 24 rfl))) (by decide) (backOf (W := 0) (rm4_10 l Z a0 hw [] b7 b9 b23 k10 p1 p2 p3 p4 k24 T58.heap n0  Ou61 u65 f91 u63) hZ (hw _ (gw 26 rfl)) (hw _ (gw 2 rfl)) (by decide) (by decide)) q92a q92c (g := (mkF m 138 #[.val (.int p1), .val (.int p2), .val (.int p3), .val (.int p4), .val (.int p5), .val (.int p6), .val (.ref b7), .val (.int (0 : Int32)), .val (.int (0 : Int32)), .val (.int (3 : Int32)), .val (.int p4)] [(.int (3 : Int32)), (.ref b7)])) rfl (by rw [hml]; rfl) (Steps.refl _) (argsL := [(.int (3 : Int32))]) (rest := []) (lenOf pd_2 rfl) rfl (by show 2 * 0 + _ ≤ _; exact Nat.le_of_eq rfl) (hb hby at_138) (fun _ _ => ⟨rfl, rfl, (by decide : 3 + 0 ≤ _), (by decide : 4099 + 0 ≤ _)⟩)
        dsimp only [Pt.U, Pt.locs, Pt.cells, Pt.slots] at X92 l92 y92 z92 st92 hQ92
        subst l92 y92 z92
        obtain ⟨rfl, u94, u95⟩ := hQ92
        have N92 := Fr.app N58 u94
        obtain ⟨fs, hr, hrun, hended, hW, hsame⟩ := X92.leave (v := some (.int (1 : Int32))) (fun h => by rw [Bd.returns] at h; cases h)
        refine ⟨_, _, pre75 _ ?_, hrun, hended, _, _, rfl, ?_, ⟨_, rfl⟩, hW, hsame.mono (by decide) (by decide)⟩
        · show Steps p.tables e below (T58.setTop (mkF m 60 #[.val (.int p1), .val (.int p2), .val (.int p3), .val (.int p4), .val (.int p5), .val (.int p6), .val (.ref b7), .val (.int (0 : Int32)), .val (.int (0 : Int32)), .unset, .unset] [(.int (3 : Int32)), (.int i73)])) _
          refine XS.iand X58.here hx rfl (hb hby at_60) rfl ?_
          show Steps p.tables e below (T58.setTop (mkF m 61 #[.val (.int p1), .val (.int p2), .val (.int p3), .val (.int p4), .val (.int p5), .val (.int p6), .val (.ref b7), .val (.int (0 : Int32)), .val (.int (0 : Int32)), .unset, .unset] [(.int (i73 &&& (3 : Int32)))])) _
          rw [hq74]
          show Steps p.tables e below (T58.setTop (mkF m 61 #[.val (.int p1), .val (.int p2), .val (.int p3), .val (.int p4), .val (.int p5), .val (.int p6), .val (.ref b7), .val (.int (0 : Int32)), .val (.int (0 : Int32)), .unset, .unset] [(.int (3 : Int32))])) _
          refine XS.istore X58.here hx rfl (hb hby at_61) rfl (l' := #[.val (.int p1), .val (.int p2), .val (.int p3), .val (.int p4), .val (.int p5), .val (.int p6), .val (.ref b7), .val (.int (0 : Int32)), .val (.int (0 : Int32)), .val (.int (3 : Int32)), .unset]) rfl ?_
          show Steps p.tables e below (T58.setTop (mkF m 63 #[.val (.int p1), .val (.int p2), .val (.int p3), .val (.int p4), .val (.int p5), .val (.int p6), .val (.ref b7), .val (.int (0 : Int32)), .val (.int (0 : Int32)), .val (.int (3 : Int32)), .unset] [])) _
          refine XS.iload X58.here hx rfl (hb hby at_63) rfl ?_
          show Steps p.tables e below (T58.setTop (mkF m 65 #[.val (.int p1), .val (.int p2), .val (.int p3), .val (.int p4), .val (.int p5), .val (.int p6), .val (.ref b7), .val (.int (0 : Int32)), .val (.int (0 : Int32)), .val (.int (3 : Int32)), .unset] [(.int (0 : Int32))])) _
          refine XS.ifYes X58.here hx rfl (pc0 := 65) (pc' := 77) rfl (hb hby at_65) rfl ((if0 _ _).trans (teq (by decide +kernel : (0 : Int32) = (0 : Int32))).1) (by decide) (by decide) ?_
          show Steps p.tables e below (T58.setTop (mkF m 77 #[.val (.int p1), .val (.int p2), .val (.int p3), .val (.int p4), .val (.int p5), .val (.int p6), .val (.ref b7), .val (.int (0 : Int32)), .val (.int (0 : Int32)), .val (.int (3 : Int32)), .unset] [])) _
          refine XS.iload X58.here hx rfl (hb hby at_77) rfl ?_
          show Steps p.tables e below (T58.setTop (mkF m 79 #[.val (.int p1), .val (.int p2), .val (.int p3), .val (.int p4), .val (.int p5), .val (.int p6), .val (.ref b7), .val (.int (0 : Int32)), .val (.int (0 : Int32)), .val (.int (3 : Int32)), .unset] [(.int (0 : Int32))])) _
          refine XS.ifYes X58.here hx rfl (pc0 := 79) (pc' := 96) rfl (hb hby at_79) rfl ((if0 _ _).trans (teq (by decide +kernel : (0 : Int32) = (0 : Int32))).1) (by decide) (by decide) ?_
          show Steps p.tables e below (T58.setTop (mkF m 96 #[.val (.int p1), .val (.int p2), .val (.int p3), .val (.int p4), .val (.int p5), .val (.int p6), .val (.ref b7), .val (.int (0 : Int32)), .val (.int (0 : Int32)), .val (.int (3 : Int32)), .unset] [])) _
          refine XS.iload X58.here hx rfl (hb hby at_96) rfl ?_
          show Steps p.tables e below (T58.setTop (mkF m 98 #[.val (.int p1), .val (.int p2), .val (.int p3), .val (.int p4), .val (.int p5), .val (.int p6), .val (.ref b7), .val (.int (0 : Int32)), .val (.int (0 : Int32)), .val (.int (3 : Int32)), .unset] [(.int (3 : Int32))])) _
          refine XS.ifYes X58.here hx rfl (pc0 := 98) (pc' := 107) rfl (hb hby at_98) rfl ((if0 _ _).trans (feq (by decide +kernel : ¬ ((3 : Int32) = (0 : Int32)))).2) (by decide) (by decide) ?_
          show Steps p.tables e below (T58.setTop (mkF m 107 #[.val (.int p1), .val (.int p2), .val (.int p3), .val (.int p4), .val (.int p5), .val (.int p6), .val (.ref b7), .val (.int (0 : Int32)), .val (.int (0 : Int32)), .val (.int (3 : Int32)), .unset] [])) _
          refine XS.iload X58.here hx rfl (hb hby at_107) rfl ?_
          show Steps p.tables e below (T58.setTop (mkF m 109 #[.val (.int p1), .val (.int p2), .val (.int p3), .val (.int p4), .val (.int p5), .val (.int p6), .val (.ref b7), .val (.int (0 : Int32)), .val (.int (0 : Int32)), .val (.int (3 : Int32)), .unset] [(.int (3 : Int32))])) _
          refine XS.iconst X58.here hx rfl (hb hby at_109) ?_
          show Steps p.tables e below (T58.setTop (mkF m 110 #[.val (.int p1), .val (.int p2), .val (.int p3), .val (.int p4), .val (.int p5), .val (.int p6), .val (.ref b7), .val (.int (0 : Int32)), .val (.int (0 : Int32)), .val (.int (3 : Int32)), .unset] [(.int (1 : Int32)), (.int (3 : Int32))])) _
          refine XS.icmpYes X58.here hx rfl (pc0 := 110) (pc' := 119) rfl (hb hby at_110) rfl (feq (by decide +kernel : ¬ ((3 : Int32) = (1 : Int32)))).2 (by decide) (by decide) ?_
          show Steps p.tables e below (T58.setTop (mkF m 119 #[.val (.int p1), .val (.int p2), .val (.int p3), .val (.int p4), .val (.int p5), .val (.int p6), .val (.ref b7), .val (.int (0 : Int32)), .val (.int (0 : Int32)), .val (.int (3 : Int32)), .unset] [])) _
          refine XS.iload X58.here hx rfl (hb hby at_119) rfl ?_
          show Steps p.tables e below (T58.setTop (mkF m 121 #[.val (.int p1), .val (.int p2), .val (.int p3), .val (.int p4), .val (.int p5), .val (.int p6), .val (.ref b7), .val (.int (0 : Int32)), .val (.int (0 : Int32)), .val (.int (3 : Int32)), .unset] [(.int (3 : Int32))])) _
          refine XS.iconst X58.here hx rfl (hb hby at_121) ?_
          show Steps p.tables e below (T58.setTop (mkF m 122 #[.val (.int p1), .val (.int p2), .val (.int p3), .val (.int p4), .val (.int p5), .val (.int p6), .val (.ref b7), .val (.int (0 : Int32)), .val (.int (0 : Int32)), .val (.int (3 : Int32)), .unset] [(.int (2 : Int32)), (.int (3 : Int32))])) _
          refine XS.icmpYes X58.here hx rfl (pc0 := 122) (pc' := 131) rfl (hb hby at_122) rfl (feq (by decide +kernel : ¬ ((3 : Int32) = (2 : Int32)))).2 (by decide) (by decide) ?_
          show Steps p.tables e below (T58.setTop (mkF m 131 #[.val (.int p1), .val (.int p2), .val (.int p3), .val (.int p4), .val (.int p5), .val (.int p6), .val (.ref b7), .val (.int (0 : Int32)), .val (.int (0 : Int32)), .val (.int (3 : Int32)), .unset] [])) _
          refine XS.iloadN X58.here hx rfl (hb hby at_131) rfl ?_
          show Steps p.tables e below (T58.setTop (mkF m 132 #[.val (.int p1), .val (.int p2), .val (.int p3), .val (.int p4), .val (.int p5), .val (.int p6), .val (.ref b7), .val (.int (0 : Int32)), .val (.int (0 : Int32)), .val (.int (3 : Int32)), .unset] [(.int p4)])) _
          refine XS.istore X58.here hx rfl (hb hby at_132) rfl (l' := #[.val (.int p1), .val (.int p2), .val (.int p3), .val (.int p4), .val (.int p5), .val (.int p6), .val (.ref b7), .val (.int (0 : Int32)), .val (.int (0 : Int32)), .val (.int (3 : Int32)), .val (.int p4)]) rfl ?_
          show Steps p.tables e below (T58.setTop (mkF m 134 #[.val (.int p1), .val (.int p2), .val (.int p3), .val (.int p4), .val (.int p5), .val (.int p6), .val (.ref b7), .val (.int (0 : Int32)), .val (.int (0 : Int32)), .val (.int (3 : Int32)), .val (.int p4)] [])) _
          refine XS.aload X58.here hx rfl (hb hby at_134) rfl rfl ?_
          show Steps p.tables e below (T58.setTop (mkF m 136 #[.val (.int p1), .val (.int p2), .val (.int p3), .val (.int p4), .val (.int p5), .val (.int p6), .val (.ref b7), .val (.int (0 : Int32)), .val (.int (0 : Int32)), .val (.int (3 : Int32)), .val (.int p4)] [(.ref b7)])) _
          refine XS.iload X58.here hx rfl (hb hby at_136) rfl ?_
          show Steps p.tables e below (T58.setTop (mkF m 138 #[.val (.int p1), .val (.int p2), .val (.int p3), .val (.int p4), .val (.int p5), .val (.int p6), .val (.ref b7), .val (.int (0 : Int32)), .val (.int (0 : Int32)), .val (.int (3 : Int32)), .val (.int p4)] [(.int (3 : Int32)), (.ref b7)])) _
          refine st92.trans ?_
          show Steps p.tables e below (T92.setTop (mkF m 141 #[.val (.int p1), .val (.int p2), .val (.int p3), .val (.int p4), .val (.int p5), .val (.int p6), .val (.ref b7), .val (.int (0 : Int32)), .val (.int (0 : Int32)), .val (.int (3 : Int32)), .val (.int p4)] [(.int p4)])) _
          refine XS.iload X92.here hx rfl (hb hby at_141) rfl ?_
          show Steps p.tables e below (T92.setTop (mkF m 143 #[.val (.int p1), .val (.int p2), .val (.int p3), .val (.int p4), .val (.int p5), .val (.int p6), .val (.ref b7), .val (.int (0 : Int32)), .val (.int (0 : Int32)), .val (.int (3 : Int32)), .val (.int p4)] [(.int p4), (.int p4)])) _
          refine XS.icmpNo X92.here hx rfl (hb hby at_143) rfl (teq (rfl : p4 = p4)).2 ?_
          show Steps p.tables e below (T92.setTop (mkF m 146 #[.val (.int p1), .val (.int p2), .val (.int p3), .val (.int p4), .val (.int p5), .val (.int p6), .val (.ref b7), .val (.int (0 : Int32)), .val (.int (0 : Int32)), .val (.int (3 : Int32)), .val (.int p4)] [])) _
          refine XS.iconst X92.here hx rfl (hb hby at_146) ?_
          show Steps p.tables e below (T92.setTop (mkF m 147 #[.val (.int p1), .val (.int p2), .val (.int p3), .val (.int p4), .val (.int p5), .val (.int p6), .val (.ref b7), .val (.int (0 : Int32)), .val (.int (0 : Int32)), .val (.int (3 : Int32)), .val (.int p4)] [(.int (1 : Int32))])) _
          refine XS.goto X92.here hx rfl (pc0 := 147) (pc' := 151) rfl (hb hby at_147) (by decide) (by decide) ?_
          show Steps p.tables e below (T92.setTop (mkF m 151 #[.val (.int p1), .val (.int p2), .val (.int p3), .val (.int p4), .val (.int p5), .val (.int p6), .val (.ref b7), .val (.int (0 : Int32)), .val (.int (0 : Int32)), .val (.int (3 : Int32)), .val (.int p4)] [(.int (1 : Int32))])) _
          exact retN X92 hx (t := .boolean) Bd.returns (by simp) (hb hby at_151) hr
        · show Q0 Z _ _ _ _ _ _ h0 n0 _ T92.heap _
          rw [u95]
          exact ⟨rfl, N92⟩
    · skip
      obtain ⟨i96, hi96⟩ : ∃ z, z = ((p5.toUInt32 >>> ((3 : Int32) &&& 31).toUInt32).toInt32) := ⟨_, rfl⟩
      have pre98 : ∀ t, Steps p.tables e below (T58.setTop (mkF m 60 #[.val (.int p1), .val (.int p2), .val (.int p3), .val (.int p4), .val (.int p5), .val (.int p6), .val (.ref b7), .val (.int (0 : Int32)), .val (.int (1 : Int32)), .unset, .unset] [(.int (3 : Int32)), (.int i96)])) t → Steps p.tables e below (s₁.setTop (entryFrame m #[(.int p1), (.int p2), (.int p3), (.int p4), (.int p5), (.int p6)] maxLocals)) t := by
        intro t kt
        refine pre71 t ?_
        show Steps p.tables e below (T58.setTop (mkF m 45 #[.val (.int p1), .val (.int p2), .val (.int p3), .val (.int p4), .val (.int p5), .val (.int p6), .val (.ref b7), .val (.int (0 : Int32)), .unset, .unset, .unset] [(.int i70)])) _
        refine XS.ifNo X58.here hx rfl (hb hby at_45) rfl ((if0 _ _).trans (feq hc72).1) ?_
        show Steps p.tables e below (T58.setTop (mkF m 48 #[.val (.int p1), .val (.int p2), .val (.int p3), .val (.int p4), .val (.int p5), .val (.int p6), .val (.ref b7), .val (.int (0 : Int32)), .unset, .unset, .unset] [])) _
        refine XS.iconst X58.here hx rfl (hb hby at_48) ?_
        show Steps p.tables e below (T58.setTop (mkF m 49 #[.val (.int p1), .val (.int p2), .val (.int p3), .val (.int p4), .val (.int p5), .val (.int p6), .val (.ref b7), .val (.int (0 : Int32)), .unset, .unset, .unset] [(.int (1 : Int32))])) _
        refine XS.goto X58.here hx rfl (pc0 := 49) (pc' := 53) rfl (hb hby at_49) (by decide) (by decide) ?_
        show Steps p.tables e below (T58.setTop (mkF m 53 #[.val (.int p1), .val (.int p2), .val (.int p3), .val (.int p4), .val (.int p5), .val (.int p6), .val (.ref b7), .val (.int (0 : Int32)), .unset, .unset, .unset] [(.int (1 : Int32))])) _
        refine XS.istore X58.here hx rfl (hb hby at_53) rfl (l' := #[.val (.int p1), .val (.int p2), .val (.int p3), .val (.int p4), .val (.int p5), .val (.int p6), .val (.ref b7), .val (.int (0 : Int32)), .val (.int (1 : Int32)), .unset, .unset]) rfl ?_
        show Steps p.tables e below (T58.setTop (mkF m 55 #[.val (.int p1), .val (.int p2), .val (.int p3), .val (.int p4), .val (.int p5), .val (.int p6), .val (.ref b7), .val (.int (0 : Int32)), .val (.int (1 : Int32)), .unset, .unset] [])) _
        refine XS.iload X58.here hx rfl (hb hby at_55) rfl ?_
        show Steps p.tables e below (T58.setTop (mkF m 57 #[.val (.int p1), .val (.int p2), .val (.int p3), .val (.int p4), .val (.int p5), .val (.int p6), .val (.ref b7), .val (.int (0 : Int32)), .val (.int (1 : Int32)), .unset, .unset] [(.int p5)])) _
        refine XS.iconst X58.here hx rfl (hb hby at_57) ?_
        show Steps p.tables e below (T58.setTop (mkF m 58 #[.val (.int p1), .val (.int p2), .val (.int p3), .val (.int p4), .val (.int p5), .val (.int p6), .val (.ref b7), .val (.int (0 : Int32)), .val (.int (1 : Int32)), .unset, .unset] [(.int (3 : Int32)), (.int p5)])) _
        refine XS.iushr X58.here hx rfl (hb hby at_58) rfl ?_
        show Steps p.tables e below (T58.setTop (mkF m 59 #[.val (.int p1), .val (.int p2), .val (.int p3), .val (.int p4), .val (.int p5), .val (.int p6), .val (.ref b7), .val (.int (0 : Int32)), .val (.int (1 : Int32)), .unset, .unset] [(.int ((p5.toUInt32 >>> ((3 : Int32) &&& 31).toUInt32).toInt32))])) _
        rw [← hi96]
        show Steps p.tables e below (T58.setTop (mkF m 59 #[.val (.int p1), .val (.int p2), .val (.int p3), .val (.int p4), .val (.int p5), .val (.int p6), .val (.ref b7), .val (.int (0 : Int32)), .val (.int (1 : Int32)), .unset, .unset] [(.int i96)])) _
        refine XS.iconst X58.here hx rfl (hb hby at_59) ?_
        show Steps p.tables e below (T58.setTop (mkF m 60 #[.val (.int p1), .val (.int p2), .val (.int p3), .val (.int p4), .val (.int p5), .val (.int p6), .val (.ref b7), .val (.int (0 : Int32)), .val (.int (1 : Int32)), .unset, .unset] [(.int (3 : Int32)), (.int i96)])) _
        exact kt
      rcases (own_and3 i96) with hq97 | hq97 | hq97 | hq97
      · skip
        have f99 : Arv Z T58.heap b9 k10 (.array .int) (1 : Int32) [(.ref b23)] .null := (f57.keep Ku61 (ninS (Nat.ne_of_lt (Nat.lt_of_lt_of_le u14 u27)) (ninS (Ne.symm (Nat.ne_of_lt (Nat.lt_of_lt_of_le lt_b7 u13))) nin0)))
        obtain ⟨cq100, kq100, q100a, q100b, q100c⟩ := isOf hZ rfl u64
        obtain ⟨_, _, ⟨T100, L100, k100, n100⟩, -, X100, ⟨Lc100, hQ100, l100, y100, z100⟩, st100⟩ := X58.virtualBack hx (y := M_3) (z := M_3) hown (mvT hZ (hw _ (gw 27 rfl))) (mvT hZ (hw _ (gw 28 rfl))) (notFace_of_selects (args := #[]) (mvT hZ (hw _ (gw 30 rfl)))) (mvT hZ (hw _ (gw 30 rfl))) (mvT hZ (hw _ (gw 29 rfl))) (by decide) (backOf (W := 0) (rm5_11 l Z a0 hw [] b7 p6 b9 b23 k10 p1 p2 p3 p4 k24 T58.heap n0  Ou61 u65 f99 u63 g_b23 u62) hZ (hw _ (gw 31 rfl)) (hw _ (gw 2 rfl)) (by decide) (by decide)) q100a q100c (g := (mkF m 74 #[.val (.int p1), .val (.int p2), .val (.int p3), .val (.int p4), .val (.int p5), .val (.int p6), .val (.ref b7), .val (.int (0 : Int32)), .val (.int (1 : Int32)), .val (.int (0 : Int32)), .unset] [(.int p6), (.int (0 : Int32)), (.ref b7)])) rfl (by rw [hml]; rfl) (Steps.refl _) (argsL := [(.int (0 : Int32)), (.int p6)]) (rest := []) (lenOf pd_3 rfl) rfl (by show 2 * 0 + _ ≤ _; exact Nat.le_of_eq rfl) (hb hby at_74) (fun _ _ => ⟨rfl, rfl, (by decide : 3 + 0 ≤ _), (by decide : 4099 + 0 ≤ _)⟩)
        dsimp only [Pt.U, Pt.locs, Pt.cells, Pt.slots] at X100 l100 y100 z100 st100 hQ100
        subst l100 y100 z100
        obtain ⟨rfl, u102, Ku103, u104, u105⟩ := hQ100
        have Ou103 : Old Z n0 T100.heap := Ou61.keep Ku103 (allS g_b23 all0)
        have N100 := Fr.app N58 u102
        have f106 : Fld Z T100.heap b7 "com/example/vestry/vestry/Ints" "blocks" "[[I" (.ref b9) := (u65.keep Ku103 (ninS (Nat.ne_of_lt (Nat.lt_of_lt_of_le (Nat.lt_of_lt_of_le lt_b7 Ku15.1) u27)) nin0))
        have f107 : Arv Z T100.heap b9 k10 (.array .int) (1 : Int32) [(.ref b23)] .null := (f99.keep Ku103 (ninS (Nat.ne_of_lt (Nat.lt_of_lt_of_le u14 u27)) nin0))
        have f109 : Exa Z T100.heap b7 "com/example/vestry/vestry/Ints" := (u64.keep Ku103)
        obtain ⟨cq108, kq108, q108a, q108b, q108c⟩ := isOf hZ rfl f109
        obtain ⟨_, _, ⟨T108, L108, k108, n108⟩, -, X108, ⟨Lc108, hQ108, l108, y108, z108⟩, st108⟩ := X100.virtualBack hx (y := M_2) (z := M_2) hown (mvT hZ (hw _ (gw 22 rfl))) (mvT hZ (hw _ (gw 23 rfl))) (notFace_of_selects (args := #[]) (mvT hZ (hw _ (gw 25 rfl)))) (mvT hZ (hw _ (gw 25 rfl))) (mvT hZ (hw _ (gw 24 rfl))) (by decide) (backOf (W := 0) (rm4_7 l Z a0 hw [] b7 b9 b23 k10 p6 p2 p3 p4 k24 T100.heap n0  Ou103 f106 f107 u105) hZ (hw _ (gw 26 rfl)) (hw _ (gw 2 rfl)) (by decide) (by decide)) q108a q108c (g := (mkF m 138 #[.val (.int p1), .val (.int p2), .val (.int p3), .val (.int p4), .val (.int p5), .val (.int p6), .val (.ref b7), .val (.int (0 : Int32)), .val (.int (1 : Int32)), .val (.int (0 : Int32)), .val (.int p6)] [(.int (0 : Int32)), (.ref b7)])) rfl (by rw [hml]; rfl) (Steps.refl _) (argsL := [(.int (0 : Int32))]) (rest := []) (lenOf pd_2 rfl) rfl (by show 2 * 0 + _ ≤ _; exact Nat.le_of_eq rfl) (hb hby at_138) (fun _ _ => ⟨rfl, rfl, (by decide : 3 + 0 ≤ _), (by decide : 4099 + 0 ≤ _)⟩)
        dsimp only [Pt.U, Pt.locs, Pt.cells, Pt.slots] at X108 l108 y108 z108 st108 hQ108
        subst l108 y108 z108
        obtain ⟨rfl, u111, u112⟩ := hQ108
        have N108 := Fr.app N100 u111
        obtain ⟨fs, hr, hrun, hended, hW, hsame⟩ := X108.leave (v := some (.int (1 : Int32))) (fun h => by rw [Bd.returns] at h; cases h)
        refine ⟨_, _, pre98 _ ?_, hrun, hended, _, _, rfl, ?_, ⟨_, rfl⟩, hW, hsame.mono (by decide) (by decide)⟩
        · show Steps p.tables e below (T58.setTop (mkF m 60 #[.val (.int p1), .val (.int p2), .val (.int p3), .val (.int p4), .val (.int p5), .val (.int p6), .val (.ref b7), .val (.int (0 : Int32)), .val (.int (1 : Int32)), .unset, .unset] [(.int (3 : Int32)), (.int i96)])) _
          refine XS.iand X58.here hx rfl (hb hby at_60) rfl ?_
          show Steps p.tables e below (T58.setTop (mkF m 61 #[.val (.int p1), .val (.int p2), .val (.int p3), .val (.int p4), .val (.int p5), .val (.int p6), .val (.ref b7), .val (.int (0 : Int32)), .val (.int (1 : Int32)), .unset, .unset] [(.int (i96 &&& (3 : Int32)))])) _
          rw [hq97]
          show Steps p.tables e below (T58.setTop (mkF m 61 #[.val (.int p1), .val (.int p2), .val (.int p3), .val (.int p4), .val (.int p5), .val (.int p6), .val (.ref b7), .val (.int (0 : Int32)), .val (.int (1 : Int32)), .unset, .unset] [(.int (0 : Int32))])) _
          refine XS.istore X58.here hx rfl (hb hby at_61) rfl (l' := #[.val (.int p1), .val (.int p2), .val (.int p3), .val (.int p4), .val (.int p5), .val (.int p6), .val (.ref b7), .val (.int (0 : Int32)), .val (.int (1 : Int32)), .val (.int (0 : Int32)), .unset]) rfl ?_
          show Steps p.tables e below (T58.setTop (mkF m 63 #[.val (.int p1), .val (.int p2), .val (.int p3), .val (.int p4), .val (.int p5), .val (.int p6), .val (.ref b7), .val (.int (0 : Int32)), .val (.int (1 : Int32)), .val (.int (0 : Int32)), .unset] [])) _
          refine XS.iload X58.here hx rfl (hb hby at_63) rfl ?_
          show Steps p.tables e below (T58.setTop (mkF m 65 #[.val (.int p1), .val (.int p2), .val (.int p3), .val (.int p4), .val (.int p5), .val (.int p6), .val (.ref b7), .val (.int (0 : Int32)), .val (.int (1 : Int32)), .val (.int (0 : Int32)), .unset] [(.int (1 : Int32))])) _
          refine XS.ifNo X58.here hx rfl (hb hby at_65) rfl ((if0 _ _).trans (feq (by decide +kernel : ¬ ((1 : Int32) = (0 : Int32)))).1) ?_
          show Steps p.tables e below (T58.setTop (mkF m 68 #[.val (.int p1), .val (.int p2), .val (.int p3), .val (.int p4), .val (.int p5), .val (.int p6), .val (.ref b7), .val (.int (0 : Int32)), .val (.int (1 : Int32)), .val (.int (0 : Int32)), .unset] [])) _
          refine XS.aload X58.here hx rfl (hb hby at_68) rfl rfl ?_
          show Steps p.tables e below (T58.setTop (mkF m 70 #[.val (.int p1), .val (.int p2), .val (.int p3), .val (.int p4), .val (.int p5), .val (.int p6), .val (.ref b7), .val (.int (0 : Int32)), .val (.int (1 : Int32)), .val (.int (0 : Int32)), .unset] [(.ref b7)])) _
          refine XS.iload X58.here hx rfl (hb hby at_70) rfl ?_
          show Steps p.tables e below (T58.setTop (mkF m 72 #[.val (.int p1), .val (.int p2), .val (.int p3), .val (.int p4), .val (.int p5), .val (.int p6), .val (.ref b7), .val (.int (0 : Int32)), .val (.int (1 : Int32)), .val (.int (0 : Int32)), .unset] [(.int (0 : Int32)), (.ref b7)])) _
          refine XS.iload X58.here hx rfl (hb hby at_72) rfl ?_
          show Steps p.tables e below (T58.setTop (mkF m 74 #[.val (.int p1), .val (.int p2), .val (.int p3), .val (.int p4), .val (.int p5), .val (.int p6), .val (.ref b7), .val (.int (0 : Int32)), .val (.int (1 : Int32)), .val (.int (0 : Int32)), .unset] [(.int p6), (.int (0 : Int32)), (.ref b7)])) _
          refine st100.trans ?_
          show Steps p.tables e below (T100.setTop (mkF m 77 #[.val (.int p1), .val (.int p2), .val (.int p3), .val (.int p4), .val (.int p5), .val (.int p6), .val (.ref b7), .val (.int (0 : Int32)), .val (.int (1 : Int32)), .val (.int (0 : Int32)), .unset] [])) _
          refine XS.iload X100.here hx rfl (hb hby at_77) rfl ?_
          show Steps p.tables e below (T100.setTop (mkF m 79 #[.val (.int p1), .val (.int p2), .val (.int p3), .val (.int p4), .val (.int p5), .val (.int p6), .val (.ref b7), .val (.int (0 : Int32)), .val (.int (1 : Int32)), .val (.int (0 : Int32)), .unset] [(.int (1 : Int32))])) _
          refine XS.ifNo X100.here hx rfl (hb hby at_79) rfl ((if0 _ _).trans (feq (by decide +kernel : ¬ ((1 : Int32) = (0 : Int32)))).1) ?_
          show Steps p.tables e below (T100.setTop (mkF m 82 #[.val (.int p1), .val (.int p2), .val (.int p3), .val (.int p4), .val (.int p5), .val (.int p6), .val (.ref b7), .val (.int (0 : Int32)), .val (.int (1 : Int32)), .val (.int (0 : Int32)), .unset] [])) _
          refine XS.iload X100.here hx rfl (hb hby at_82) rfl ?_
          show Steps p.tables e below (T100.setTop (mkF m 84 #[.val (.int p1), .val (.int p2), .val (.int p3), .val (.int p4), .val (.int p5), .val (.int p6), .val (.ref b7), .val (.int (0 : Int32)), .val (.int (1 : Int32)), .val (.int (0 : Int32)), .unset] [(.int (0 : Int32))])) _
          refine XS.iload X100.here hx rfl (hb hby at_84) rfl ?_
          show Steps p.tables e below (T100.setTop (mkF m 86 #[.val (.int p1), .val (.int p2), .val (.int p3), .val (.int p4), .val (.int p5), .val (.int p6), .val (.ref b7), .val (.int (0 : Int32)), .val (.int (1 : Int32)), .val (.int (0 : Int32)), .unset] [(.int (0 : Int32)), (.int (0 : Int32))])) _
          refine XS.icmpNo X100.here hx rfl (hb hby at_86) rfl (teq (by decide +kernel : (0 : Int32) = (0 : Int32))).2 ?_
          show Steps p.tables e below (T100.setTop (mkF m 89 #[.val (.int p1), .val (.int p2), .val (.int p3), .val (.int p4), .val (.int p5), .val (.int p6), .val (.ref b7), .val (.int (0 : Int32)), .val (.int (1 : Int32)), .val (.int (0 : Int32)), .unset] [])) _
          refine XS.iload X100.here hx rfl (hb hby at_89) rfl ?_
          show Steps p.tables e below (T100.setTop (mkF m 91 #[.val (.int p1), .val (.int p2), .val (.int p3), .val (.int p4), .val (.int p5), .val (.int p6), .val (.ref b7), .val (.int (0 : Int32)), .val (.int (1 : Int32)), .val (.int (0 : Int32)), .unset] [(.int p6)])) _
          refine XS.istore X100.here hx rfl (hb hby at_91) rfl (l' := #[.val (.int p1), .val (.int p2), .val (.int p3), .val (.int p4), .val (.int p5), .val (.int p6), .val (.ref b7), .val (.int (0 : Int32)), .val (.int (1 : Int32)), .val (.int (0 : Int32)), .val (.int p6)]) rfl ?_
          show Steps p.tables e below (T100.setTop (mkF m 93 #[.val (.int p1), .val (.int p2), .val (.int p3), .val (.int p4), .val (.int p5), .val (.int p6), .val (.ref b7), .val (.int (0 : Int32)), .val (.int (1 : Int32)), .val (.int (0 : Int32)), .val (.int p6)] [])) _
          refine XS.goto X100.here hx rfl (pc0 := 93) (pc' := 134) rfl (hb hby at_93) (by decide) (by decide) ?_
          show Steps p.tables e below (T100.setTop (mkF m 134 #[.val (.int p1), .val (.int p2), .val (.int p3), .val (.int p4), .val (.int p5), .val (.int p6), .val (.ref b7), .val (.int (0 : Int32)), .val (.int (1 : Int32)), .val (.int (0 : Int32)), .val (.int p6)] [])) _
          refine XS.aload X100.here hx rfl (hb hby at_134) rfl rfl ?_
          show Steps p.tables e below (T100.setTop (mkF m 136 #[.val (.int p1), .val (.int p2), .val (.int p3), .val (.int p4), .val (.int p5), .val (.int p6), .val (.ref b7), .val (.int (0 : Int32)), .val (.int (1 : Int32)), .val (.int (0 : Int32)), .val (.int p6)] [(.ref b7)])) _
          refine XS.iload X100.here hx rfl (hb hby at_136) rfl ?_
          show Steps p.tables e below (T100.setTop (mkF m 138 #[.val (.int p1), .val (.int p2), .val (.int p3), .val (.int p4), .val (.int p5), .val (.int p6), .val (.ref b7), .val (.int (0 : Int32)), .val (.int (1 : Int32)), .val (.int (0 : Int32)), .val (.int p6)] [(.int (0 : Int32)), (.ref b7)])) _
          refine st108.trans ?_
          show Steps p.tables e below (T108.setTop (mkF m 141 #[.val (.int p1), .val (.int p2), .val (.int p3), .val (.int p4), .val (.int p5), .val (.int p6), .val (.ref b7), .val (.int (0 : Int32)), .val (.int (1 : Int32)), .val (.int (0 : Int32)), .val (.int p6)] [(.int p6)])) _
          refine XS.iload X108.here hx rfl (hb hby at_141) rfl ?_
          show Steps p.tables e below (T108.setTop (mkF m 143 #[.val (.int p1), .val (.int p2), .val (.int p3), .val (.int p4), .val (.int p5), .val (.int p6), .val (.ref b7), .val (.int (0 : Int32)), .val (.int (1 : Int32)), .val (.int (0 : Int32)), .val (.int p6)] [(.int p6), (.int p6)])) _
          refine XS.icmpNo X108.here hx rfl (hb hby at_143) rfl (teq (rfl : p6 = p6)).2 ?_
          show Steps p.tables e below (T108.setTop (mkF m 146 #[.val (.int p1), .val (.int p2), .val (.int p3), .val (.int p4), .val (.int p5), .val (.int p6), .val (.ref b7), .val (.int (0 : Int32)), .val (.int (1 : Int32)), .val (.int (0 : Int32)), .val (.int p6)] [])) _
          refine XS.iconst X108.here hx rfl (hb hby at_146) ?_
          show Steps p.tables e below (T108.setTop (mkF m 147 #[.val (.int p1), .val (.int p2), .val (.int p3), .val (.int p4), .val (.int p5), .val (.int p6), .val (.ref b7), .val (.int (0 : Int32)), .val (.int (1 : Int32)), .val (.int (0 : Int32)), .val (.int p6)] [(.int (1 : Int32))])) _
          refine XS.goto X108.here hx rfl (pc0 := 147) (pc' := 151) rfl (hb hby at_147) (by decide) (by decide) ?_
          show Steps p.tables e below (T108.setTop (mkF m 151 #[.val (.int p1), .val (.int p2), .val (.int p3), .val (.int p4), .val (.int p5), .val (.int p6), .val (.ref b7), .val (.int (0 : Int32)), .val (.int (1 : Int32)), .val (.int (0 : Int32)), .val (.int p6)] [(.int (1 : Int32))])) _
          exact retN X108 hx (t := .boolean) Bd.returns (by simp) (hb hby at_151) hr
        · show Q0 Z _ _ _ _ _ _ h0 n0 _ T108.heap _
          rw [u112]
          exact ⟨rfl, N108⟩
      · skip
        have f113 : Arv Z T58.heap b9 k10 (.array .int) (1 : Int32) [(.ref b23)] .null := (f57.keep Ku61 (ninS (Nat.ne_of_lt (Nat.lt_of_lt_of_le u14 u27)) (ninS (Ne.symm (Nat.ne_of_lt (Nat.lt_of_lt_of_le lt_b7 u13))) nin0)))
        obtain ⟨cq114, kq114, q114a, q114b, q114c⟩ := isOf hZ rfl u64
        obtain ⟨_, _, ⟨T114, L114, k114, n114⟩, -, X114, ⟨Lc114, hQ114, l114, y114, z114⟩, st114⟩ := X58.virtualBack hx (y := M_3) (z := M_3) hown (mvT hZ (hw _ (gw 27 rfl))) (mvT hZ (hw _ (gw 28 rfl))) (notFace_of_selects (args := #[]) (mvT hZ (hw _ (gw 30 rfl)))) (mvT hZ (hw _ (gw 30 rfl))) (mvT hZ (hw _ (gw 29 rfl))) (by decide) (backOf (W := 0) (rm5_11 l Z a0 hw [] b7 p6 b9 b23 k10 p1 p2 p3 p4 k24 T58.heap n0  Ou61 u65 f113 u63 g_b23 u62) hZ (hw _ (gw 31 rfl)) (hw _ (gw 2 rfl)) (by decide) (by decide)) q114a q114c (g := (mkF m 74 #[.val (.int p1), .val (.int p2), .val (.int p3), .val (.int p4), .val (.int p5), .val (.int p6), .val (.ref b7), .val (.int (0 : Int32)), .val (.int (1 : Int32)), .val (.int (1 : Int32)), .unset] [(.int p6), (.int (0 : Int32)), (.ref b7)])) rfl (by rw [hml]; rfl) (Steps.refl _) (argsL := [(.int (0 : Int32)), (.int p6)]) (rest := []) (lenOf pd_3 rfl) rfl (by show 2 * 0 + _ ≤ _; exact Nat.le_of_eq rfl) (hb hby at_74) (fun _ _ => ⟨rfl, rfl, (by decide : 3 + 0 ≤ _), (by decide : 4099 + 0 ≤ _)⟩)
        dsimp only [Pt.U, Pt.locs, Pt.cells, Pt.slots] at X114 l114 y114 z114 st114 hQ114
        subst l114 y114 z114
        obtain ⟨rfl, u116, Ku117, u118, u119⟩ := hQ114
        have Ou117 : Old Z n0 T114.heap := Ou61.keep Ku117 (allS g_b23 all0)
        have N114 := Fr.app N58 u116
        have f120 : Fld Z T114.heap b7 "com/example/vestry/vestry/Ints" "blocks" "[[I" (.ref b9) := (u65.keep Ku117 (ninS (Nat.ne_of_lt (Nat.lt_of_lt_of_le (Nat.lt_of_lt_of_le lt_b7 Ku15.1) u27)) nin0))
        have f121 : Arv Z T114.heap b9 k10 (.array .int) (1 : Int32) [(.ref b23)] .null := (f113.keep Ku117 (ninS (Nat.ne_of_lt (Nat.lt_of_lt_of_le u14 u27)) nin0))
        have f123 : Exa Z T114.heap b7 "com/example/vestry/vestry/Ints" := (u64.keep Ku117)
        obtain ⟨cq122, kq122, q122a, q122b, q122c⟩ := isOf hZ rfl f123
        obtain ⟨_, _, ⟨T122, L122, k122, n122⟩, -, X122, ⟨Lc122, hQ122, l122, y122, z122⟩, st122⟩ := X114.virtualBack hx (y := M_2) (z := M_2) hown (mvT hZ (hw _ (gw 22 rfl))) (mvT hZ (hw _ (gw 23 rfl))) (notFace_of_selects (args := #[]) (mvT hZ (hw _ (gw 25 rfl)))) (mvT hZ (hw _ (gw 25 rfl))) (mvT hZ (hw _ (gw 24 rfl))) (by decide) (backOf (W := 0) (rm4_8 l Z a0 hw [] b7 b9 b23 k10 p6 p2 p3 p4 k24 T114.heap n0  Ou117 f120 f121 u119) hZ (hw _ (gw 26 rfl)) (hw _ (gw 2 rfl)) (by decide) (by decide)) q122a q122c (g := (mkF m 138 #[.val (.int p1), .val (.int p2), .val (.int p3), .val (.int p4), .val (.int p5), .val (.int p6), .val (.ref b7), .val (.int (0 : Int32)), .val (.int (1 : Int32)), .val (.int (1 : Int32)), .val (.int p2)] [(.int (1 : Int32)), (.ref b7)])) rfl (by rw [hml]; rfl) (Steps.refl _) (argsL := [(.int (1 : Int32))]) (rest := []) (lenOf pd_2 rfl) rfl (by show 2 * 0 + _ ≤ _; exact Nat.le_of_eq rfl) (hb hby at_138) (fun _ _ => ⟨rfl, rfl, (by decide : 3 + 0 ≤ _), (by decide : 4099 + 0 ≤ _)⟩)
        dsimp only [Pt.U, Pt.locs, Pt.cells, Pt.slots] at X122 l122 y122 z122 st122 hQ122
        subst l122 y122 z122
        obtain ⟨rfl, u125, u126⟩ := hQ122
        have N122 := Fr.app N114 u125
        obtain ⟨fs, hr, hrun, hended, hW, hsame⟩ := X122.leave (v := some (.int (1 : Int32))) (fun h => by rw [Bd.returns] at h; cases h)
        refine ⟨_, _, pre98 _ ?_, hrun, hended, _, _, rfl, ?_, ⟨_, rfl⟩, hW, hsame.mono (by decide) (by decide)⟩
        · show Steps p.tables e below (T58.setTop (mkF m 60 #[.val (.int p1), .val (.int p2), .val (.int p3), .val (.int p4), .val (.int p5), .val (.int p6), .val (.ref b7), .val (.int (0 : Int32)), .val (.int (1 : Int32)), .unset, .unset] [(.int (3 : Int32)), (.int i96)])) _
          refine XS.iand X58.here hx rfl (hb hby at_60) rfl ?_
          show Steps p.tables e below (T58.setTop (mkF m 61 #[.val (.int p1), .val (.int p2), .val (.int p3), .val (.int p4), .val (.int p5), .val (.int p6), .val (.ref b7), .val (.int (0 : Int32)), .val (.int (1 : Int32)), .unset, .unset] [(.int (i96 &&& (3 : Int32)))])) _
          rw [hq97]
          show Steps p.tables e below (T58.setTop (mkF m 61 #[.val (.int p1), .val (.int p2), .val (.int p3), .val (.int p4), .val (.int p5), .val (.int p6), .val (.ref b7), .val (.int (0 : Int32)), .val (.int (1 : Int32)), .unset, .unset] [(.int (1 : Int32))])) _
          refine XS.istore X58.here hx rfl (hb hby at_61) rfl (l' := #[.val (.int p1), .val (.int p2), .val (.int p3), .val (.int p4), .val (.int p5), .val (.int p6), .val (.ref b7), .val (.int (0 : Int32)), .val (.int (1 : Int32)), .val (.int (1 : Int32)), .unset]) rfl ?_
          show Steps p.tables e below (T58.setTop (mkF m 63 #[.val (.int p1), .val (.int p2), .val (.int p3), .val (.int p4), .val (.int p5), .val (.int p6), .val (.ref b7), .val (.int (0 : Int32)), .val (.int (1 : Int32)), .val (.int (1 : Int32)), .unset] [])) _
          refine XS.iload X58.here hx rfl (hb hby at_63) rfl ?_
          show Steps p.tables e below (T58.setTop (mkF m 65 #[.val (.int p1), .val (.int p2), .val (.int p3), .val (.int p4), .val (.int p5), .val (.int p6), .val (.ref b7), .val (.int (0 : Int32)), .val (.int (1 : Int32)), .val (.int (1 : Int32)), .unset] [(.int (1 : Int32))])) _
          refine XS.ifNo X58.here hx rfl (hb hby at_65) rfl ((if0 _ _).trans (feq (by decide +kernel : ¬ ((1 : Int32) = (0 : Int32)))).1) ?_
          show Steps p.tables e below (T58.setTop (mkF m 68 #[.val (.int p1), .val (.int p2), .val (.int p3), .val (.int p4), .val (.int p5), .val (.int p6), .val (.ref b7), .val (.int (0 : Int32)), .val (.int (1 : Int32)), .val (.int (1 : Int32)), .unset] [])) _
          refine XS.aload X58.here hx rfl (hb hby at_68) rfl rfl ?_
          show Steps p.tables e below (T58.setTop (mkF m 70 #[.val (.int p1), .val (.int p2), .val (.int p3), .val (.int p4), .val (.int p5), .val (.int p6), .val (.ref b7), .val (.int (0 : Int32)), .val (.int (1 : Int32)), .val (.int (1 : Int32)), .unset] [(.ref b7)])) _
          refine XS.iload X58.here hx rfl (hb hby at_70) rfl ?_
          show Steps p.tables e below (T58.setTop (mkF m 72 #[.val (.int p1), .val (.int p2), .val (.int p3), .val (.int p4), .val (.int p5), .val (.int p6), .val (.ref b7), .val (.int (0 : Int32)), .val (.int (1 : Int32)), .val (.int (1 : Int32)), .unset] [(.int (0 : Int32)), (.ref b7)])) _
          refine XS.iload X58.here hx rfl (hb hby at_72) rfl ?_
          show Steps p.tables e below (T58.setTop (mkF m 74 #[.val (.int p1), .val (.int p2), .val (.int p3), .val (.int p4), .val (.int p5), .val (.int p6), .val (.ref b7), .val (.int (0 : Int32)), .val (.int (1 : Int32)), .val (.int (1 : Int32)), .unset] [(.int p6), (.int (0 : Int32)), (.ref b7)])) _
          refine st114.trans ?_
          show Steps p.tables e below (T114.setTop (mkF m 77 #[.val (.int p1), .val (.int p2), .val (.int p3), .val (.int p4), .val (.int p5), .val (.int p6), .val (.ref b7), .val (.int (0 : Int32)), .val (.int (1 : Int32)), .val (.int (1 : Int32)), .unset] [])) _
          refine XS.iload X114.here hx rfl (hb hby at_77) rfl ?_
          show Steps p.tables e below (T114.setTop (mkF m 79 #[.val (.int p1), .val (.int p2), .val (.int p3), .val (.int p4), .val (.int p5), .val (.int p6), .val (.ref b7), .val (.int (0 : Int32)), .val (.int (1 : Int32)), .val (.int (1 : Int32)), .unset] [(.int (1 : Int32))])) _
          refine XS.ifNo X114.here hx rfl (hb hby at_79) rfl ((if0 _ _).trans (feq (by decide +kernel : ¬ ((1 : Int32) = (0 : Int32)))).1) ?_
          show Steps p.tables e below (T114.setTop (mkF m 82 #[.val (.int p1), .val (.int p2), .val (.int p3), .val (.int p4), .val (.int p5), .val (.int p6), .val (.ref b7), .val (.int (0 : Int32)), .val (.int (1 : Int32)), .val (.int (1 : Int32)), .unset] [])) _
          refine XS.iload X114.here hx rfl (hb hby at_82) rfl ?_
          show Steps p.tables e below (T114.setTop (mkF m 84 #[.val (.int p1), .val (.int p2), .val (.int p3), .val (.int p4), .val (.int p5), .val (.int p6), .val (.ref b7), .val (.int (0 : Int32)), .val (.int (1 : Int32)), .val (.int (1 : Int32)), .unset] [(.int (1 : Int32))])) _
          refine XS.iload X114.here hx rfl (hb hby at_84) rfl ?_
          show Steps p.tables e below (T114.setTop (mkF m 86 #[.val (.int p1), .val (.int p2), .val (.int p3), .val (.int p4), .val (.int p5), .val (.int p6), .val (.ref b7), .val (.int (0 : Int32)), .val (.int (1 : Int32)), .val (.int (1 : Int32)), .unset] [(.int (0 : Int32)), (.int (1 : Int32))])) _
          refine XS.icmpYes X114.here hx rfl (pc0 := 86) (pc' := 96) rfl (hb hby at_86) rfl (feq (by decide +kernel : ¬ ((1 : Int32) = (0 : Int32)))).2 (by decide) (by decide) ?_
          show Steps p.tables e below (T114.setTop (mkF m 96 #[.val (.int p1), .val (.int p2), .val (.int p3), .val (.int p4), .val (.int p5), .val (.int p6), .val (.ref b7), .val (.int (0 : Int32)), .val (.int (1 : Int32)), .val (.int (1 : Int32)), .unset] [])) _
          refine XS.iload X114.here hx rfl (hb hby at_96) rfl ?_
          show Steps p.tables e below (T114.setTop (mkF m 98 #[.val (.int p1), .val (.int p2), .val (.int p3), .val (.int p4), .val (.int p5), .val (.int p6), .val (.ref b7), .val (.int (0 : Int32)), .val (.int (1 : Int32)), .val (.int (1 : Int32)), .unset] [(.int (1 : Int32))])) _
          refine XS.ifYes X114.here hx rfl (pc0 := 98) (pc' := 107) rfl (hb hby at_98) rfl ((if0 _ _).trans (feq (by decide +kernel : ¬ ((1 : Int32) = (0 : Int32)))).2) (by decide) (by decide) ?_
          show Steps p.tables e below (T114.setTop (mkF m 107 #[.val (.int p1), .val (.int p2), .val (.int p3), .val (.int p4), .val (.int p5), .val (.int p6), .val (.ref b7), .val (.int (0 : Int32)), .val (.int (1 : Int32)), .val (.int (1 : Int32)), .unset] [])) _
          refine XS.iload X114.here hx rfl (hb hby at_107) rfl ?_
          show Steps p.tables e below (T114.setTop (mkF m 109 #[.val (.int p1), .val (.int p2), .val (.int p3), .val (.int p4), .val (.int p5), .val (.int p6), .val (.ref b7), .val (.int (0 : Int32)), .val (.int (1 : Int32)), .val (.int (1 : Int32)), .unset] [(.int (1 : Int32))])) _
          refine XS.iconst X114.here hx rfl (hb hby at_109) ?_
          show Steps p.tables e below (T114.setTop (mkF m 110 #[.val (.int p1), .val (.int p2), .val (.int p3), .val (.int p4), .val (.int p5), .val (.int p6), .val (.ref b7), .val (.int (0 : Int32)), .val (.int (1 : Int32)), .val (.int (1 : Int32)), .unset] [(.int (1 : Int32)), (.int (1 : Int32))])) _
          refine XS.icmpNo X114.here hx rfl (hb hby at_110) rfl (teq (by decide +kernel : (1 : Int32) = (1 : Int32))).2 ?_
          show Steps p.tables e below (T114.setTop (mkF m 113 #[.val (.int p1), .val (.int p2), .val (.int p3), .val (.int p4), .val (.int p5), .val (.int p6), .val (.ref b7), .val (.int (0 : Int32)), .val (.int (1 : Int32)), .val (.int (1 : Int32)), .unset] [])) _
          refine XS.iloadN X114.here hx rfl (hb hby at_113) rfl ?_
          show Steps p.tables e below (T114.setTop (mkF m 114 #[.val (.int p1), .val (.int p2), .val (.int p3), .val (.int p4), .val (.int p5), .val (.int p6), .val (.ref b7), .val (.int (0 : Int32)), .val (.int (1 : Int32)), .val (.int (1 : Int32)), .unset] [(.int p2)])) _
          refine XS.istore X114.here hx rfl (hb hby at_114) rfl (l' := #[.val (.int p1), .val (.int p2), .val (.int p3), .val (.int p4), .val (.int p5), .val (.int p6), .val (.ref b7), .val (.int (0 : Int32)), .val (.int (1 : Int32)), .val (.int (1 : Int32)), .val (.int p2)]) rfl ?_
          show Steps p.tables e below (T114.setTop (mkF m 116 #[.val (.int p1), .val (.int p2), .val (.int p3), .val (.int p4), .val (.int p5), .val (.int p6), .val (.ref b7), .val (.int (0 : Int32)), .val (.int (1 : Int32)), .val (.int (1 : Int32)), .val (.int p2)] [])) _
          refine XS.goto X114.here hx rfl (pc0 := 116) (pc' := 134) rfl (hb hby at_116) (by decide) (by decide) ?_
          show Steps p.tables e below (T114.setTop (mkF m 134 #[.val (.int p1), .val (.int p2), .val (.int p3), .val (.int p4), .val (.int p5), .val (.int p6), .val (.ref b7), .val (.int (0 : Int32)), .val (.int (1 : Int32)), .val (.int (1 : Int32)), .val (.int p2)] [])) _
          refine XS.aload X114.here hx rfl (hb hby at_134) rfl rfl ?_
          show Steps p.tables e below (T114.setTop (mkF m 136 #[.val (.int p1), .val (.int p2), .val (.int p3), .val (.int p4), .val (.int p5), .val (.int p6), .val (.ref b7), .val (.int (0 : Int32)), .val (.int (1 : Int32)), .val (.int (1 : Int32)), .val (.int p2)] [(.ref b7)])) _
          refine XS.iload X114.here hx rfl (hb hby at_136) rfl ?_
          show Steps p.tables e below (T114.setTop (mkF m 138 #[.val (.int p1), .val (.int p2), .val (.int p3), .val (.int p4), .val (.int p5), .val (.int p6), .val (.ref b7), .val (.int (0 : Int32)), .val (.int (1 : Int32)), .val (.int (1 : Int32)), .val (.int p2)] [(.int (1 : Int32)), (.ref b7)])) _
          refine st122.trans ?_
          show Steps p.tables e below (T122.setTop (mkF m 141 #[.val (.int p1), .val (.int p2), .val (.int p3), .val (.int p4), .val (.int p5), .val (.int p6), .val (.ref b7), .val (.int (0 : Int32)), .val (.int (1 : Int32)), .val (.int (1 : Int32)), .val (.int p2)] [(.int p2)])) _
          refine XS.iload X122.here hx rfl (hb hby at_141) rfl ?_
          show Steps p.tables e below (T122.setTop (mkF m 143 #[.val (.int p1), .val (.int p2), .val (.int p3), .val (.int p4), .val (.int p5), .val (.int p6), .val (.ref b7), .val (.int (0 : Int32)), .val (.int (1 : Int32)), .val (.int (1 : Int32)), .val (.int p2)] [(.int p2), (.int p2)])) _
          refine XS.icmpNo X122.here hx rfl (hb hby at_143) rfl (teq (rfl : p2 = p2)).2 ?_
          show Steps p.tables e below (T122.setTop (mkF m 146 #[.val (.int p1), .val (.int p2), .val (.int p3), .val (.int p4), .val (.int p5), .val (.int p6), .val (.ref b7), .val (.int (0 : Int32)), .val (.int (1 : Int32)), .val (.int (1 : Int32)), .val (.int p2)] [])) _
          refine XS.iconst X122.here hx rfl (hb hby at_146) ?_
          show Steps p.tables e below (T122.setTop (mkF m 147 #[.val (.int p1), .val (.int p2), .val (.int p3), .val (.int p4), .val (.int p5), .val (.int p6), .val (.ref b7), .val (.int (0 : Int32)), .val (.int (1 : Int32)), .val (.int (1 : Int32)), .val (.int p2)] [(.int (1 : Int32))])) _
          refine XS.goto X122.here hx rfl (pc0 := 147) (pc' := 151) rfl (hb hby at_147) (by decide) (by decide) ?_
          show Steps p.tables e below (T122.setTop (mkF m 151 #[.val (.int p1), .val (.int p2), .val (.int p3), .val (.int p4), .val (.int p5), .val (.int p6), .val (.ref b7), .val (.int (0 : Int32)), .val (.int (1 : Int32)), .val (.int (1 : Int32)), .val (.int p2)] [(.int (1 : Int32))])) _
          exact retN X122 hx (t := .boolean) Bd.returns (by simp) (hb hby at_151) hr
        · show Q0 Z _ _ _ _ _ _ h0 n0 _ T122.heap _
          rw [u126]
          exact ⟨rfl, N122⟩
      · skip
        have f127 : Arv Z T58.heap b9 k10 (.array .int) (1 : Int32) [(.ref b23)] .null := (f57.keep Ku61 (ninS (Nat.ne_of_lt (Nat.lt_of_lt_of_le u14 u27)) (ninS (Ne.symm (Nat.ne_of_lt (Nat.lt_of_lt_of_le lt_b7 u13))) nin0)))
        obtain ⟨cq128, kq128, q128a, q128b, q128c⟩ := isOf hZ rfl u64
        obtain ⟨_, _, ⟨T128, L128, k128, n128⟩, -, X128, ⟨Lc128, hQ128, l128, y128, z128⟩, st128⟩ := X58.virtualBack hx (y := M_3) (z := M_3) hown (mvT hZ (hw _ (gw 27 rfl))) (mvT hZ (hw _ (gw 28 rfl))) (notFace_of_selects (args := #[]) (mvT hZ (hw _ (gw 30 rfl)))) (mvT hZ (hw _ (gw 30 rfl))) (mvT hZ (hw _ (gw 29 rfl))) (by decide) (backOf (W := 0) (rm5_11 l Z a0 hw [] b7 p6 b9 b23 k10 p1 p2 p3 p4 k24 T58.heap n0  Ou61 u65 f127 u63 g_b23 u62) hZ (hw _ (gw 31 rfl)) (hw _ (gw 2 rfl)) (by decide) (by decide)) q128a q128c (g := (mkF m 74 #[.val (.int p1), .val (.int p2), .val (.int p3), .val (.int p4), .val (.int p5), .val (.int p6), .val (.ref b7), .val (.int (0 : Int32)), .val (.int (1 : Int32)), .val (.int (2 : Int32)), .unset] [(.int p6), (.int (0 : Int32)), (.ref b7)])) rfl (by rw [hml]; rfl) (Steps.refl _) (argsL := [(.int (0 : Int32)), (.int p6)]) (rest := []) (lenOf pd_3 rfl) rfl (by show 2 * 0 + _ ≤ _; exact Nat.le_of_eq rfl) (hb hby at_74) (fun _ _ => ⟨rfl, rfl, (by decide : 3 + 0 ≤ _), (by decide : 4099 + 0 ≤ _)⟩)
        dsimp only [Pt.U, Pt.locs, Pt.cells, Pt.slots] at X128 l128 y128 z128 st128 hQ128
        subst l128 y128 z128
        obtain ⟨rfl, u130, Ku131, u132, u133⟩ := hQ128
        have Ou131 : Old Z n0 T128.heap := Ou61.keep Ku131 (allS g_b23 all0)
        have N128 := Fr.app N58 u130
        have f134 : Fld Z T128.heap b7 "com/example/vestry/vestry/Ints" "blocks" "[[I" (.ref b9) := (u65.keep Ku131 (ninS (Nat.ne_of_lt (Nat.lt_of_lt_of_le (Nat.lt_of_lt_of_le lt_b7 Ku15.1) u27)) nin0))
        have f135 : Arv Z T128.heap b9 k10 (.array .int) (1 : Int32) [(.ref b23)] .null := (f127.keep Ku131 (ninS (Nat.ne_of_lt (Nat.lt_of_lt_of_le u14 u27)) nin0))
        have f137 : Exa Z T128.heap b7 "com/example/vestry/vestry/Ints" := (u64.keep Ku131)
        obtain ⟨cq136, kq136, q136a, q136b, q136c⟩ := isOf hZ rfl f137
        obtain ⟨_, _, ⟨T136, L136, k136, n136⟩, -, X136, ⟨Lc136, hQ136, l136, y136, z136⟩, st136⟩ := X128.virtualBack hx (y := M_2) (z := M_2) hown (mvT hZ (hw _ (gw 22 rfl))) (mvT hZ (hw _ (gw 23 rfl))) (notFace_of_selects (args := #[]) (mvT hZ (hw _ (gw 25 rfl)))) (mvT hZ (hw _ (gw 25 rfl))) (mvT hZ (hw _ (gw 24 rfl))) (by decide) (backOf (W := 0) (rm4_9 l Z a0 hw [] b7 b9 b23 k10 p6 p2 p3 p4 k24 T128.heap n0  Ou131 f134 f135 u133) hZ (hw _ (gw 26 rfl)) (hw _ (gw 2 rfl)) (by decide) (by decide)) q136a q136c (g := (mkF m 138 #[.val (.int p1), .val (.int p2), .val (.int p3), .val (.int p4), .val (.int p5), .val (.int p6), .val (.ref b7), .val (.int (0 : Int32)), .val (.int (1 : Int32)), .val (.int (2 : Int32)), .val (.int p3)] [(.int (2 : Int32)), (.ref b7)])) rfl (by rw [hml]; rfl) (Steps.refl _) (argsL := [(.int (2 : Int32))]) (rest := []) (lenOf pd_2 rfl) rfl (by show 2 * 0 + _ ≤ _; exact Nat.le_of_eq rfl) (hb hby at_138) (fun _ _ => ⟨rfl, rfl, (by decide : 3 + 0 ≤ _), (by decide : 4099 + 0 ≤ _)⟩)
        dsimp only [Pt.U, Pt.locs, Pt.cells, Pt.slots] at X136 l136 y136 z136 st136 hQ136
        subst l136 y136 z136
        obtain ⟨rfl, u139, u140⟩ := hQ136
        have N136 := Fr.app N128 u139
        obtain ⟨fs, hr, hrun, hended, hW, hsame⟩ := X136.leave (v := some (.int (1 : Int32))) (fun h => by rw [Bd.returns] at h; cases h)
        refine ⟨_, _, pre98 _ ?_, hrun, hended, _, _, rfl, ?_, ⟨_, rfl⟩, hW, hsame.mono (by decide) (by decide)⟩
        · show Steps p.tables e below (T58.setTop (mkF m 60 #[.val (.int p1), .val (.int p2), .val (.int p3), .val (.int p4), .val (.int p5), .val (.int p6), .val (.ref b7), .val (.int (0 : Int32)), .val (.int (1 : Int32)), .unset, .unset] [(.int (3 : Int32)), (.int i96)])) _
          refine XS.iand X58.here hx rfl (hb hby at_60) rfl ?_
          show Steps p.tables e below (T58.setTop (mkF m 61 #[.val (.int p1), .val (.int p2), .val (.int p3), .val (.int p4), .val (.int p5), .val (.int p6), .val (.ref b7), .val (.int (0 : Int32)), .val (.int (1 : Int32)), .unset, .unset] [(.int (i96 &&& (3 : Int32)))])) _
          rw [hq97]
          show Steps p.tables e below (T58.setTop (mkF m 61 #[.val (.int p1), .val (.int p2), .val (.int p3), .val (.int p4), .val (.int p5), .val (.int p6), .val (.ref b7), .val (.int (0 : Int32)), .val (.int (1 : Int32)), .unset, .unset] [(.int (2 : Int32))])) _
          refine XS.istore X58.here hx rfl (hb hby at_61) rfl (l' := #[.val (.int p1), .val (.int p2), .val (.int p3), .val (.int p4), .val (.int p5), .val (.int p6), .val (.ref b7), .val (.int (0 : Int32)), .val (.int (1 : Int32)), .val (.int (2 : Int32)), .unset]) rfl ?_
          show Steps p.tables e below (T58.setTop (mkF m 63 #[.val (.int p1), .val (.int p2), .val (.int p3), .val (.int p4), .val (.int p5), .val (.int p6), .val (.ref b7), .val (.int (0 : Int32)), .val (.int (1 : Int32)), .val (.int (2 : Int32)), .unset] [])) _
          refine XS.iload X58.here hx rfl (hb hby at_63) rfl ?_
          show Steps p.tables e below (T58.setTop (mkF m 65 #[.val (.int p1), .val (.int p2), .val (.int p3), .val (.int p4), .val (.int p5), .val (.int p6), .val (.ref b7), .val (.int (0 : Int32)), .val (.int (1 : Int32)), .val (.int (2 : Int32)), .unset] [(.int (1 : Int32))])) _
          refine XS.ifNo X58.here hx rfl (hb hby at_65) rfl ((if0 _ _).trans (feq (by decide +kernel : ¬ ((1 : Int32) = (0 : Int32)))).1) ?_
          show Steps p.tables e below (T58.setTop (mkF m 68 #[.val (.int p1), .val (.int p2), .val (.int p3), .val (.int p4), .val (.int p5), .val (.int p6), .val (.ref b7), .val (.int (0 : Int32)), .val (.int (1 : Int32)), .val (.int (2 : Int32)), .unset] [])) _
          refine XS.aload X58.here hx rfl (hb hby at_68) rfl rfl ?_
          show Steps p.tables e below (T58.setTop (mkF m 70 #[.val (.int p1), .val (.int p2), .val (.int p3), .val (.int p4), .val (.int p5), .val (.int p6), .val (.ref b7), .val (.int (0 : Int32)), .val (.int (1 : Int32)), .val (.int (2 : Int32)), .unset] [(.ref b7)])) _
          refine XS.iload X58.here hx rfl (hb hby at_70) rfl ?_
          show Steps p.tables e below (T58.setTop (mkF m 72 #[.val (.int p1), .val (.int p2), .val (.int p3), .val (.int p4), .val (.int p5), .val (.int p6), .val (.ref b7), .val (.int (0 : Int32)), .val (.int (1 : Int32)), .val (.int (2 : Int32)), .unset] [(.int (0 : Int32)), (.ref b7)])) _
          refine XS.iload X58.here hx rfl (hb hby at_72) rfl ?_
          show Steps p.tables e below (T58.setTop (mkF m 74 #[.val (.int p1), .val (.int p2), .val (.int p3), .val (.int p4), .val (.int p5), .val (.int p6), .val (.ref b7), .val (.int (0 : Int32)), .val (.int (1 : Int32)), .val (.int (2 : Int32)), .unset] [(.int p6), (.int (0 : Int32)), (.ref b7)])) _
          refine st128.trans ?_
          show Steps p.tables e below (T128.setTop (mkF m 77 #[.val (.int p1), .val (.int p2), .val (.int p3), .val (.int p4), .val (.int p5), .val (.int p6), .val (.ref b7), .val (.int (0 : Int32)), .val (.int (1 : Int32)), .val (.int (2 : Int32)), .unset] [])) _
          refine XS.iload X128.here hx rfl (hb hby at_77) rfl ?_
          show Steps p.tables e below (T128.setTop (mkF m 79 #[.val (.int p1), .val (.int p2), .val (.int p3), .val (.int p4), .val (.int p5), .val (.int p6), .val (.ref b7), .val (.int (0 : Int32)), .val (.int (1 : Int32)), .val (.int (2 : Int32)), .unset] [(.int (1 : Int32))])) _
          refine XS.ifNo X128.here hx rfl (hb hby at_79) rfl ((if0 _ _).trans (feq (by decide +kernel : ¬ ((1 : Int32) = (0 : Int32)))).1) ?_
          show Steps p.tables e below (T128.setTop (mkF m 82 #[.val (.int p1), .val (.int p2), .val (.int p3), .val (.int p4), .val (.int p5), .val (.int p6), .val (.ref b7), .val (.int (0 : Int32)), .val (.int (1 : Int32)), .val (.int (2 : Int32)), .unset] [])) _
          refine XS.iload X128.here hx rfl (hb hby at_82) rfl ?_
          show Steps p.tables e below (T128.setTop (mkF m 84 #[.val (.int p1), .val (.int p2), .val (.int p3), .val (.int p4), .val (.int p5), .val (.int p6), .val (.ref b7), .val (.int (0 : Int32)), .val (.int (1 : Int32)), .val (.int (2 : Int32)), .unset] [(.int (2 : Int32))])) _
          refine XS.iload X128.here hx rfl (hb hby at_84) rfl ?_
          show Steps p.tables e below (T128.setTop (mkF m 86 #[.val (.int p1), .val (.int p2), .val (.int p3), .val (.int p4), .val (.int p5), .val (.int p6), .val (.ref b7), .val (.int (0 : Int32)), .val (.int (1 : Int32)), .val (.int (2 : Int32)), .unset] [(.int (0 : Int32)), (.int (2 : Int32))])) _
          refine XS.icmpYes X128.here hx rfl (pc0 := 86) (pc' := 96) rfl (hb hby at_86) rfl (feq (by decide +kernel : ¬ ((2 : Int32) = (0 : Int32)))).2 (by decide) (by decide) ?_
          show Steps p.tables e below (T128.setTop (mkF m 96 #[.val (.int p1), .val (.int p2), .val (.int p3), .val (.int p4), .val (.int p5), .val (.int p6), .val (.ref b7), .val (.int (0 : Int32)), .val (.int (1 : Int32)), .val (.int (2 : Int32)), .unset] [])) _
          refine XS.iload X128.here hx rfl (hb hby at_96) rfl ?_
          show Steps p.tables e below (T128.setTop (mkF m 98 #[.val (.int p1), .val (.int p2), .val (.int p3), .val (.int p4), .val (.int p5), .val (.int p6), .val (.ref b7), .val (.int (0 : Int32)), .val (.int (1 : Int32)), .val (.int (2 : Int32)), .unset] [(.int (2 : Int32))])) _
          refine XS.ifYes X128.here hx rfl (pc0 := 98) (pc' := 107) rfl (hb hby at_98) rfl ((if0 _ _).trans (feq (by decide +kernel : ¬ ((2 : Int32) = (0 : Int32)))).2) (by decide) (by decide) ?_
          show Steps p.tables e below (T128.setTop (mkF m 107 #[.val (.int p1), .val (.int p2), .val (.int p3), .val (.int p4), .val (.int p5), .val (.int p6), .val (.ref b7), .val (.int (0 : Int32)), .val (.int (1 : Int32)), .val (.int (2 : Int32)), .unset] [])) _
          refine XS.iload X128.here hx rfl (hb hby at_107) rfl ?_
          show Steps p.tables e below (T128.setTop (mkF m 109 #[.val (.int p1), .val (.int p2), .val (.int p3), .val (.int p4), .val (.int p5), .val (.int p6), .val (.ref b7), .val (.int (0 : Int32)), .val (.int (1 : Int32)), .val (.int (2 : Int32)), .unset] [(.int (2 : Int32))])) _
          refine XS.iconst X128.here hx rfl (hb hby at_109) ?_
          show Steps p.tables e below (T128.setTop (mkF m 110 #[.val (.int p1), .val (.int p2), .val (.int p3), .val (.int p4), .val (.int p5), .val (.int p6), .val (.ref b7), .val (.int (0 : Int32)), .val (.int (1 : Int32)), .val (.int (2 : Int32)), .unset] [(.int (1 : Int32)), (.int (2 : Int32))])) _
          refine XS.icmpYes X128.here hx rfl (pc0 := 110) (pc' := 119) rfl (hb hby at_110) rfl (feq (by decide +kernel : ¬ ((2 : Int32) = (1 : Int32)))).2 (by decide) (by decide) ?_
          show Steps p.tables e below (T128.setTop (mkF m 119 #[.val (.int p1), .val (.int p2), .val (.int p3), .val (.int p4), .val (.int p5), .val (.int p6), .val (.ref b7), .val (.int (0 : Int32)), .val (.int (1 : Int32)), .val (.int (2 : Int32)), .unset] [])) _
          refine XS.iload X128.here hx rfl (hb hby at_119) rfl ?_
          show Steps p.tables e below (T128.setTop (mkF m 121 #[.val (.int p1), .val (.int p2), .val (.int p3), .val (.int p4), .val (.int p5), .val (.int p6), .val (.ref b7), .val (.int (0 : Int32)), .val (.int (1 : Int32)), .val (.int (2 : Int32)), .unset] [(.int (2 : Int32))])) _
          refine XS.iconst X128.here hx rfl (hb hby at_121) ?_
          show Steps p.tables e below (T128.setTop (mkF m 122 #[.val (.int p1), .val (.int p2), .val (.int p3), .val (.int p4), .val (.int p5), .val (.int p6), .val (.ref b7), .val (.int (0 : Int32)), .val (.int (1 : Int32)), .val (.int (2 : Int32)), .unset] [(.int (2 : Int32)), (.int (2 : Int32))])) _
          refine XS.icmpNo X128.here hx rfl (hb hby at_122) rfl (teq (by decide +kernel : (2 : Int32) = (2 : Int32))).2 ?_
          show Steps p.tables e below (T128.setTop (mkF m 125 #[.val (.int p1), .val (.int p2), .val (.int p3), .val (.int p4), .val (.int p5), .val (.int p6), .val (.ref b7), .val (.int (0 : Int32)), .val (.int (1 : Int32)), .val (.int (2 : Int32)), .unset] [])) _
          refine XS.iloadN X128.here hx rfl (hb hby at_125) rfl ?_
          show Steps p.tables e below (T128.setTop (mkF m 126 #[.val (.int p1), .val (.int p2), .val (.int p3), .val (.int p4), .val (.int p5), .val (.int p6), .val (.ref b7), .val (.int (0 : Int32)), .val (.int (1 : Int32)), .val (.int (2 : Int32)), .unset] [(.int p3)])) _
          refine XS.istore X128.here hx rfl (hb hby at_126) rfl (l' := #[.val (.int p1), .val (.int p2), .val (.int p3), .val (.int p4), .val (.int p5), .val (.int p6), .val (.ref b7), .val (.int (0 : Int32)), .val (.int (1 : Int32)), .val (.int (2 : Int32)), .val (.int p3)]) rfl ?_
          show Steps p.tables e below (T128.setTop (mkF m 128 #[.val (.int p1), .val (.int p2), .val (.int p3), .val (.int p4), .val (.int p5), .val (.int p6), .val (.ref b7), .val (.int (0 : Int32)), .val (.int (1 : Int32)), .val (.int (2 : Int32)), .val (.int p3)] [])) _
          refine XS.goto X128.here hx rfl (pc0 := 128) (pc' := 134) rfl (hb hby at_128) (by decide) (by decide) ?_
          show Steps p.tables e below (T128.setTop (mkF m 134 #[.val (.int p1), .val (.int p2), .val (.int p3), .val (.int p4), .val (.int p5), .val (.int p6), .val (.ref b7), .val (.int (0 : Int32)), .val (.int (1 : Int32)), .val (.int (2 : Int32)), .val (.int p3)] [])) _
          refine XS.aload X128.here hx rfl (hb hby at_134) rfl rfl ?_
          show Steps p.tables e below (T128.setTop (mkF m 136 #[.val (.int p1), .val (.int p2), .val (.int p3), .val (.int p4), .val (.int p5), .val (.int p6), .val (.ref b7), .val (.int (0 : Int32)), .val (.int (1 : Int32)), .val (.int (2 : Int32)), .val (.int p3)] [(.ref b7)])) _
          refine XS.iload X128.here hx rfl (hb hby at_136) rfl ?_
          show Steps p.tables e below (T128.setTop (mkF m 138 #[.val (.int p1), .val (.int p2), .val (.int p3), .val (.int p4), .val (.int p5), .val (.int p6), .val (.ref b7), .val (.int (0 : Int32)), .val (.int (1 : Int32)), .val (.int (2 : Int32)), .val (.int p3)] [(.int (2 : Int32)), (.ref b7)])) _
          refine st136.trans ?_
          show Steps p.tables e below (T136.setTop (mkF m 141 #[.val (.int p1), .val (.int p2), .val (.int p3), .val (.int p4), .val (.int p5), .val (.int p6), .val (.ref b7), .val (.int (0 : Int32)), .val (.int (1 : Int32)), .val (.int (2 : Int32)), .val (.int p3)] [(.int p3)])) _
          refine XS.iload X136.here hx rfl (hb hby at_141) rfl ?_
          show Steps p.tables e below (T136.setTop (mkF m 143 #[.val (.int p1), .val (.int p2), .val (.int p3), .val (.int p4), .val (.int p5), .val (.int p6), .val (.ref b7), .val (.int (0 : Int32)), .val (.int (1 : Int32)), .val (.int (2 : Int32)), .val (.int p3)] [(.int p3), (.int p3)])) _
          refine XS.icmpNo X136.here hx rfl (hb hby at_143) rfl (teq (rfl : p3 = p3)).2 ?_
          show Steps p.tables e below (T136.setTop (mkF m 146 #[.val (.int p1), .val (.int p2), .val (.int p3), .val (.int p4), .val (.int p5), .val (.int p6), .val (.ref b7), .val (.int (0 : Int32)), .val (.int (1 : Int32)), .val (.int (2 : Int32)), .val (.int p3)] [])) _
          refine XS.iconst X136.here hx rfl (hb hby at_146) ?_
          show Steps p.tables e below (T136.setTop (mkF m 147 #[.val (.int p1), .val (.int p2), .val (.int p3), .val (.int p4), .val (.int p5), .val (.int p6), .val (.ref b7), .val (.int (0 : Int32)), .val (.int (1 : Int32)), .val (.int (2 : Int32)), .val (.int p3)] [(.int (1 : Int32))])) _
          refine XS.goto X136.here hx rfl (pc0 := 147) (pc' := 151) rfl (hb hby at_147) (by decide) (by decide) ?_
          show Steps p.tables e below (T136.setTop (mkF m 151 #[.val (.int p1), .val (.int p2), .val (.int p3), .val (.int p4), .val (.int p5), .val (.int p6), .val (.ref b7), .val (.int (0 : Int32)), .val (.int (1 : Int32)), .val (.int (2 : Int32)), .val (.int p3)] [(.int (1 : Int32))])) _
          exact retN X136 hx (t := .boolean) Bd.returns (by simp) (hb hby at_151) hr
        · show Q0 Z _ _ _ _ _ _ h0 n0 _ T136.heap _
          rw [u140]
          exact ⟨rfl, N136⟩
      · skip
        have f141 : Arv Z T58.heap b9 k10 (.array .int) (1 : Int32) [(.ref b23)] .null := (f57.keep Ku61 (ninS (Nat.ne_of_lt (Nat.lt_of_lt_of_le u14 u27)) (ninS (Ne.symm (Nat.ne_of_lt (Nat.lt_of_lt_of_le lt_b7 u13))) nin0)))
        obtain ⟨cq142, kq142, q142a, q142b, q142c⟩ := isOf hZ rfl u64
        obtain ⟨_, _, ⟨T142, L142, k142, n142⟩, -, X142, ⟨Lc142, hQ142, l142, y142, z142⟩, st142⟩ := X58.virtualBack hx (y := M_3) (z := M_3) hown (mvT hZ (hw _ (gw 27 rfl))) (mvT hZ (hw _ (gw 28 rfl))) (notFace_of_selects (args := #[]) (mvT hZ (hw _ (gw 30 rfl)))) (mvT hZ (hw _ (gw 30 rfl))) (mvT hZ (hw _ (gw 29 rfl))) (by decide) (backOf (W := 0) (rm5_11 l Z a0 hw [] b7 p6 b9 b23 k10 p1 p2 p3 p4 k24 T58.heap n0  Ou61 u65 f141 u63 g_b23 u62) hZ (hw _ (gw 31 rfl)) (hw _ (gw 2 rfl)) (by decide) (by decide)) q142a q142c (g := (mkF m 74 #[.val (.int p1), .val (.int p2), .val (.int p3), .val (.int p4), .val (.int p5), .val (.int p6), .val (.ref b7), .val (.int (0 : Int32)), .val (.int (1 : Int32)), .val (.int (3 : Int32)), .unset] [(.int p6), (.int (0 : Int32)), (.ref b7)])) rfl (by rw [hml]; rfl) (Steps.refl _) (argsL := [(.int (0 : Int32)), (.int p6)]) (rest := []) (lenOf pd_3 rfl) rfl (by show 2 * 0 + _ ≤ _; exact Nat.le_of_eq rfl) (hb hby at_74) (fun _ _ => ⟨rfl, rfl, (by decide : 3 + 0 ≤ _), (by decide : 4099 + 0 ≤ _)⟩)
        dsimp only [Pt.U, Pt.locs, Pt.cells, Pt.slots] at X142 l142 y142 z142 st142 hQ142
        subst l142 y142 z142
        obtain ⟨rfl, u144, Ku145, u146, u147⟩ := hQ142
        have Ou145 : Old Z n0 T142.heap := Ou61.keep Ku145 (allS g_b23 all0)
        have N142 := Fr.app N58 u144
        have f148 : Fld Z T142.heap b7 "com/example/vestry/vestry/Ints" "blocks" "[[I" (.ref b9) := (u65.keep Ku145 (ninS (Nat.ne_of_lt (Nat.lt_of_lt_of_le (Nat.lt_of_lt_of_le lt_b7 Ku15.1) u27)) nin0))
        have f149 : Arv Z T142.heap b9 k10 (.array .int) (1 : Int32) [(.ref b23)] .null := (f141.keep Ku145 (ninS (Nat.ne_of_lt (Nat.lt_of_lt_of_le u14 u27)) nin0))
        have f151 : Exa Z T142.heap b7 "com/example/vestry/vestry/Ints" := (u64.keep Ku145)
        obtain ⟨cq150, kq150, q150a, q150b, q150c⟩ := isOf hZ rfl f151
        obtain ⟨_, _, ⟨T150, L150, k150, n150⟩, -, X150, ⟨Lc150, hQ150, l150, y150, z150⟩, st150⟩ := X142.virtualBack hx (y := M_2) (z := M_2) hown (mvT hZ (hw _ (gw 22 rfl))) (mvT hZ (hw _ (gw 23 rfl))) (notFace_of_selects (args := #[]) (mvT hZ (hw _ (gw 25 rfl)))) (mvT hZ (hw _ (gw 25 rfl))) (mvT hZ (hw _ (gw 24 rfl))) (by decide) (backOf (W := 0) (rm4_10 l Z a0 hw [] b7 b9 b23 k10 p6 p2 p3 p4 k24 T142.heap n0  Ou145 f148 f149 u147) hZ (hw _ (gw 26 rfl)) (hw _ (gw 2 rfl)) (by decide) (by decide)) q150a q150c (g := (mkF m 138 #[.val (.int p1), .val (.int p2), .val (.int p3), .val (.int p4), .val (.int p5), .val (.int p6), .val (.ref b7), .val (.int (0 : Int32)), .val (.int (1 : Int32)), .val (.int (3 : Int32)), .val (.int p4)] [(.int (3 : Int32)), (.ref b7)])) rfl (by rw [hml]; rfl) (Steps.refl _) (argsL := [(.int (3 : Int32))]) (rest := []) (lenOf pd_2 rfl) rfl (by show 2 * 0 + _ ≤ _; exact Nat.le_of_eq rfl) (hb hby at_138) (fun _ _ => ⟨rfl, rfl, (by decide : 3 + 0 ≤ _), (by decide : 4099 + 0 ≤ _)⟩)
        dsimp only [Pt.U, Pt.locs, Pt.cells, Pt.slots] at X150 l150 y150 z150 st150 hQ150
        subst l150 y150 z150
        obtain ⟨rfl, u153, u154⟩ := hQ150
        have N150 := Fr.app N142 u153
        obtain ⟨fs, hr, hrun, hended, hW, hsame⟩ := X150.leave (v := some (.int (1 : Int32))) (fun h => by rw [Bd.returns] at h; cases h)
        refine ⟨_, _, pre98 _ ?_, hrun, hended, _, _, rfl, ?_, ⟨_, rfl⟩, hW, hsame.mono (by decide) (by decide)⟩
        · show Steps p.tables e below (T58.setTop (mkF m 60 #[.val (.int p1), .val (.int p2), .val (.int p3), .val (.int p4), .val (.int p5), .val (.int p6), .val (.ref b7), .val (.int (0 : Int32)), .val (.int (1 : Int32)), .unset, .unset] [(.int (3 : Int32)), (.int i96)])) _
          refine XS.iand X58.here hx rfl (hb hby at_60) rfl ?_
          show Steps p.tables e below (T58.setTop (mkF m 61 #[.val (.int p1), .val (.int p2), .val (.int p3), .val (.int p4), .val (.int p5), .val (.int p6), .val (.ref b7), .val (.int (0 : Int32)), .val (.int (1 : Int32)), .unset, .unset] [(.int (i96 &&& (3 : Int32)))])) _
          rw [hq97]
          show Steps p.tables e below (T58.setTop (mkF m 61 #[.val (.int p1), .val (.int p2), .val (.int p3), .val (.int p4), .val (.int p5), .val (.int p6), .val (.ref b7), .val (.int (0 : Int32)), .val (.int (1 : Int32)), .unset, .unset] [(.int (3 : Int32))])) _
          refine XS.istore X58.here hx rfl (hb hby at_61) rfl (l' := #[.val (.int p1), .val (.int p2), .val (.int p3), .val (.int p4), .val (.int p5), .val (.int p6), .val (.ref b7), .val (.int (0 : Int32)), .val (.int (1 : Int32)), .val (.int (3 : Int32)), .unset]) rfl ?_
          show Steps p.tables e below (T58.setTop (mkF m 63 #[.val (.int p1), .val (.int p2), .val (.int p3), .val (.int p4), .val (.int p5), .val (.int p6), .val (.ref b7), .val (.int (0 : Int32)), .val (.int (1 : Int32)), .val (.int (3 : Int32)), .unset] [])) _
          refine XS.iload X58.here hx rfl (hb hby at_63) rfl ?_
          show Steps p.tables e below (T58.setTop (mkF m 65 #[.val (.int p1), .val (.int p2), .val (.int p3), .val (.int p4), .val (.int p5), .val (.int p6), .val (.ref b7), .val (.int (0 : Int32)), .val (.int (1 : Int32)), .val (.int (3 : Int32)), .unset] [(.int (1 : Int32))])) _
          refine XS.ifNo X58.here hx rfl (hb hby at_65) rfl ((if0 _ _).trans (feq (by decide +kernel : ¬ ((1 : Int32) = (0 : Int32)))).1) ?_
          show Steps p.tables e below (T58.setTop (mkF m 68 #[.val (.int p1), .val (.int p2), .val (.int p3), .val (.int p4), .val (.int p5), .val (.int p6), .val (.ref b7), .val (.int (0 : Int32)), .val (.int (1 : Int32)), .val (.int (3 : Int32)), .unset] [])) _
          refine XS.aload X58.here hx rfl (hb hby at_68) rfl rfl ?_
          show Steps p.tables e below (T58.setTop (mkF m 70 #[.val (.int p1), .val (.int p2), .val (.int p3), .val (.int p4), .val (.int p5), .val (.int p6), .val (.ref b7), .val (.int (0 : Int32)), .val (.int (1 : Int32)), .val (.int (3 : Int32)), .unset] [(.ref b7)])) _
          refine XS.iload X58.here hx rfl (hb hby at_70) rfl ?_
          show Steps p.tables e below (T58.setTop (mkF m 72 #[.val (.int p1), .val (.int p2), .val (.int p3), .val (.int p4), .val (.int p5), .val (.int p6), .val (.ref b7), .val (.int (0 : Int32)), .val (.int (1 : Int32)), .val (.int (3 : Int32)), .unset] [(.int (0 : Int32)), (.ref b7)])) _
          refine XS.iload X58.here hx rfl (hb hby at_72) rfl ?_
          show Steps p.tables e below (T58.setTop (mkF m 74 #[.val (.int p1), .val (.int p2), .val (.int p3), .val (.int p4), .val (.int p5), .val (.int p6), .val (.ref b7), .val (.int (0 : Int32)), .val (.int (1 : Int32)), .val (.int (3 : Int32)), .unset] [(.int p6), (.int (0 : Int32)), (.ref b7)])) _
          refine st142.trans ?_
          show Steps p.tables e below (T142.setTop (mkF m 77 #[.val (.int p1), .val (.int p2), .val (.int p3), .val (.int p4), .val (.int p5), .val (.int p6), .val (.ref b7), .val (.int (0 : Int32)), .val (.int (1 : Int32)), .val (.int (3 : Int32)), .unset] [])) _
          refine XS.iload X142.here hx rfl (hb hby at_77) rfl ?_
          show Steps p.tables e below (T142.setTop (mkF m 79 #[.val (.int p1), .val (.int p2), .val (.int p3), .val (.int p4), .val (.int p5), .val (.int p6), .val (.ref b7), .val (.int (0 : Int32)), .val (.int (1 : Int32)), .val (.int (3 : Int32)), .unset] [(.int (1 : Int32))])) _
          refine XS.ifNo X142.here hx rfl (hb hby at_79) rfl ((if0 _ _).trans (feq (by decide +kernel : ¬ ((1 : Int32) = (0 : Int32)))).1) ?_
          show Steps p.tables e below (T142.setTop (mkF m 82 #[.val (.int p1), .val (.int p2), .val (.int p3), .val (.int p4), .val (.int p5), .val (.int p6), .val (.ref b7), .val (.int (0 : Int32)), .val (.int (1 : Int32)), .val (.int (3 : Int32)), .unset] [])) _
          refine XS.iload X142.here hx rfl (hb hby at_82) rfl ?_
          show Steps p.tables e below (T142.setTop (mkF m 84 #[.val (.int p1), .val (.int p2), .val (.int p3), .val (.int p4), .val (.int p5), .val (.int p6), .val (.ref b7), .val (.int (0 : Int32)), .val (.int (1 : Int32)), .val (.int (3 : Int32)), .unset] [(.int (3 : Int32))])) _
          refine XS.iload X142.here hx rfl (hb hby at_84) rfl ?_
          show Steps p.tables e below (T142.setTop (mkF m 86 #[.val (.int p1), .val (.int p2), .val (.int p3), .val (.int p4), .val (.int p5), .val (.int p6), .val (.ref b7), .val (.int (0 : Int32)), .val (.int (1 : Int32)), .val (.int (3 : Int32)), .unset] [(.int (0 : Int32)), (.int (3 : Int32))])) _
          refine XS.icmpYes X142.here hx rfl (pc0 := 86) (pc' := 96) rfl (hb hby at_86) rfl (feq (by decide +kernel : ¬ ((3 : Int32) = (0 : Int32)))).2 (by decide) (by decide) ?_
          show Steps p.tables e below (T142.setTop (mkF m 96 #[.val (.int p1), .val (.int p2), .val (.int p3), .val (.int p4), .val (.int p5), .val (.int p6), .val (.ref b7), .val (.int (0 : Int32)), .val (.int (1 : Int32)), .val (.int (3 : Int32)), .unset] [])) _
          refine XS.iload X142.here hx rfl (hb hby at_96) rfl ?_
          show Steps p.tables e below (T142.setTop (mkF m 98 #[.val (.int p1), .val (.int p2), .val (.int p3), .val (.int p4), .val (.int p5), .val (.int p6), .val (.ref b7), .val (.int (0 : Int32)), .val (.int (1 : Int32)), .val (.int (3 : Int32)), .unset] [(.int (3 : Int32))])) _
          refine XS.ifYes X142.here hx rfl (pc0 := 98) (pc' := 107) rfl (hb hby at_98) rfl ((if0 _ _).trans (feq (by decide +kernel : ¬ ((3 : Int32) = (0 : Int32)))).2) (by decide) (by decide) ?_
          show Steps p.tables e below (T142.setTop (mkF m 107 #[.val (.int p1), .val (.int p2), .val (.int p3), .val (.int p4), .val (.int p5), .val (.int p6), .val (.ref b7), .val (.int (0 : Int32)), .val (.int (1 : Int32)), .val (.int (3 : Int32)), .unset] [])) _
          refine XS.iload X142.here hx rfl (hb hby at_107) rfl ?_
          show Steps p.tables e below (T142.setTop (mkF m 109 #[.val (.int p1), .val (.int p2), .val (.int p3), .val (.int p4), .val (.int p5), .val (.int p6), .val (.ref b7), .val (.int (0 : Int32)), .val (.int (1 : Int32)), .val (.int (3 : Int32)), .unset] [(.int (3 : Int32))])) _
          refine XS.iconst X142.here hx rfl (hb hby at_109) ?_
          show Steps p.tables e below (T142.setTop (mkF m 110 #[.val (.int p1), .val (.int p2), .val (.int p3), .val (.int p4), .val (.int p5), .val (.int p6), .val (.ref b7), .val (.int (0 : Int32)), .val (.int (1 : Int32)), .val (.int (3 : Int32)), .unset] [(.int (1 : Int32)), (.int (3 : Int32))])) _
          refine XS.icmpYes X142.here hx rfl (pc0 := 110) (pc' := 119) rfl (hb hby at_110) rfl (feq (by decide +kernel : ¬ ((3 : Int32) = (1 : Int32)))).2 (by decide) (by decide) ?_
          show Steps p.tables e below (T142.setTop (mkF m 119 #[.val (.int p1), .val (.int p2), .val (.int p3), .val (.int p4), .val (.int p5), .val (.int p6), .val (.ref b7), .val (.int (0 : Int32)), .val (.int (1 : Int32)), .val (.int (3 : Int32)), .unset] [])) _
          refine XS.iload X142.here hx rfl (hb hby at_119) rfl ?_
          show Steps p.tables e below (T142.setTop (mkF m 121 #[.val (.int p1), .val (.int p2), .val (.int p3), .val (.int p4), .val (.int p5), .val (.int p6), .val (.ref b7), .val (.int (0 : Int32)), .val (.int (1 : Int32)), .val (.int (3 : Int32)), .unset] [(.int (3 : Int32))])) _
          refine XS.iconst X142.here hx rfl (hb hby at_121) ?_
          show Steps p.tables e below (T142.setTop (mkF m 122 #[.val (.int p1), .val (.int p2), .val (.int p3), .val (.int p4), .val (.int p5), .val (.int p6), .val (.ref b7), .val (.int (0 : Int32)), .val (.int (1 : Int32)), .val (.int (3 : Int32)), .unset] [(.int (2 : Int32)), (.int (3 : Int32))])) _
          refine XS.icmpYes X142.here hx rfl (pc0 := 122) (pc' := 131) rfl (hb hby at_122) rfl (feq (by decide +kernel : ¬ ((3 : Int32) = (2 : Int32)))).2 (by decide) (by decide) ?_
          show Steps p.tables e below (T142.setTop (mkF m 131 #[.val (.int p1), .val (.int p2), .val (.int p3), .val (.int p4), .val (.int p5), .val (.int p6), .val (.ref b7), .val (.int (0 : Int32)), .val (.int (1 : Int32)), .val (.int (3 : Int32)), .unset] [])) _
          refine XS.iloadN X142.here hx rfl (hb hby at_131) rfl ?_
          show Steps p.tables e below (T142.setTop (mkF m 132 #[.val (.int p1), .val (.int p2), .val (.int p3), .val (.int p4), .val (.int p5), .val (.int p6), .val (.ref b7), .val (.int (0 : Int32)), .val (.int (1 : Int32)), .val (.int (3 : Int32)), .unset] [(.int p4)])) _
          refine XS.istore X142.here hx rfl (hb hby at_132) rfl (l' := #[.val (.int p1), .val (.int p2), .val (.int p3), .val (.int p4), .val (.int p5), .val (.int p6), .val (.ref b7), .val (.int (0 : Int32)), .val (.int (1 : Int32)), .val (.int (3 : Int32)), .val (.int p4)]) rfl ?_
          show Steps p.tables e below (T142.setTop (mkF m 134 #[.val (.int p1), .val (.int p2), .val (.int p3), .val (.int p4), .val (.int p5), .val (.int p6), .val (.ref b7), .val (.int (0 : Int32)), .val (.int (1 : Int32)), .val (.int (3 : Int32)), .val (.int p4)] [])) _
          refine XS.aload X142.here hx rfl (hb hby at_134) rfl rfl ?_
          show Steps p.tables e below (T142.setTop (mkF m 136 #[.val (.int p1), .val (.int p2), .val (.int p3), .val (.int p4), .val (.int p5), .val (.int p6), .val (.ref b7), .val (.int (0 : Int32)), .val (.int (1 : Int32)), .val (.int (3 : Int32)), .val (.int p4)] [(.ref b7)])) _
          refine XS.iload X142.here hx rfl (hb hby at_136) rfl ?_
          show Steps p.tables e below (T142.setTop (mkF m 138 #[.val (.int p1), .val (.int p2), .val (.int p3), .val (.int p4), .val (.int p5), .val (.int p6), .val (.ref b7), .val (.int (0 : Int32)), .val (.int (1 : Int32)), .val (.int (3 : Int32)), .val (.int p4)] [(.int (3 : Int32)), (.ref b7)])) _
          refine st150.trans ?_
          show Steps p.tables e below (T150.setTop (mkF m 141 #[.val (.int p1), .val (.int p2), .val (.int p3), .val (.int p4), .val (.int p5), .val (.int p6), .val (.ref b7), .val (.int (0 : Int32)), .val (.int (1 : Int32)), .val (.int (3 : Int32)), .val (.int p4)] [(.int p4)])) _
          refine XS.iload X150.here hx rfl (hb hby at_141) rfl ?_
          show Steps p.tables e below (T150.setTop (mkF m 143 #[.val (.int p1), .val (.int p2), .val (.int p3), .val (.int p4), .val (.int p5), .val (.int p6), .val (.ref b7), .val (.int (0 : Int32)), .val (.int (1 : Int32)), .val (.int (3 : Int32)), .val (.int p4)] [(.int p4), (.int p4)])) _
          refine XS.icmpNo X150.here hx rfl (hb hby at_143) rfl (teq (rfl : p4 = p4)).2 ?_
          show Steps p.tables e below (T150.setTop (mkF m 146 #[.val (.int p1), .val (.int p2), .val (.int p3), .val (.int p4), .val (.int p5), .val (.int p6), .val (.ref b7), .val (.int (0 : Int32)), .val (.int (1 : Int32)), .val (.int (3 : Int32)), .val (.int p4)] [])) _
          refine XS.iconst X150.here hx rfl (hb hby at_146) ?_
          show Steps p.tables e below (T150.setTop (mkF m 147 #[.val (.int p1), .val (.int p2), .val (.int p3), .val (.int p4), .val (.int p5), .val (.int p6), .val (.ref b7), .val (.int (0 : Int32)), .val (.int (1 : Int32)), .val (.int (3 : Int32)), .val (.int p4)] [(.int (1 : Int32))])) _
          refine XS.goto X150.here hx rfl (pc0 := 147) (pc' := 151) rfl (hb hby at_147) (by decide) (by decide) ?_
          show Steps p.tables e below (T150.setTop (mkF m 151 #[.val (.int p1), .val (.int p2), .val (.int p3), .val (.int p4), .val (.int p5), .val (.int p6), .val (.ref b7), .val (.int (0 : Int32)), .val (.int (1 : Int32)), .val (.int (3 : Int32)), .val (.int p4)] [(.int (1 : Int32))])) _
          exact retN X150 hx (t := .boolean) Bd.returns (by simp) (hb hby at_151) hr
        · show Q0 Z _ _ _ _ _ _ h0 n0 _ T150.heap _
          rw [u154]
          exact ⟨rfl, N150⟩
  · skip
    obtain ⟨i155, hi155⟩ : ∃ z, z = ((p5.toUInt32 >>> ((2 : Int32) &&& 31).toUInt32).toInt32) := ⟨_, rfl⟩
    obtain ⟨i156, hi156⟩ : ∃ z, z = (i155 &&& (1 : Int32)) := ⟨_, rfl⟩
    have pre157 : ∀ t, Steps p.tables e below (T58.setTop (mkF m 45 #[.val (.int p1), .val (.int p2), .val (.int p3), .val (.int p4), .val (.int p5), .val (.int p6), .val (.ref b7), .val (.int (1 : Int32)), .unset, .unset, .unset] [(.int i156)])) t → Steps p.tables e below (s₁.setTop (entryFrame m #[(.int p1), (.int p2), (.int p3), (.int p4), (.int p5), (.int p6)] maxLocals)) t := by
      intro t kt
      refine pre68 t ?_
      show Steps p.tables e below (T58.setTop (mkF m 36 #[.val (.int p1), .val (.int p2), .val (.int p3), .val (.int p4), .val (.int p5), .val (.int p6), .val (.ref b7), .unset, .unset, .unset, .unset] [(.int (3 : Int32)), (.int p5)])) _
      refine XS.iand X58.here hx rfl (hb hby at_36) rfl ?_
      show Steps p.tables e below (T58.setTop (mkF m 37 #[.val (.int p1), .val (.int p2), .val (.int p3), .val (.int p4), .val (.int p5), .val (.int p6), .val (.ref b7), .unset, .unset, .unset, .unset] [(.int (p5 &&& (3 : Int32)))])) _
      rw [hq67]
      show Steps p.tables e below (T58.setTop (mkF m 37 #[.val (.int p1), .val (.int p2), .val (.int p3), .val (.int p4), .val (.int p5), .val (.int p6), .val (.ref b7), .unset, .unset, .unset, .unset] [(.int (1 : Int32))])) _
      refine XS.istore X58.here hx rfl (hb hby at_37) rfl (l' := #[.val (.int p1), .val (.int p2), .val (.int p3), .val (.int p4), .val (.int p5), .val (.int p6), .val (.ref b7), .val (.int (1 : Int32)), .unset, .unset, .unset]) rfl ?_
      show Steps p.tables e below (T58.setTop (mkF m 39 #[.val (.int p1), .val (.int p2), .val (.int p3), .val (.int p4), .val (.int p5), .val (.int p6), .val (.ref b7), .val (.int (1 : Int32)), .unset, .unset, .unset] [])) _
      refine XS.iload X58.here hx rfl (hb hby at_39) rfl ?_
      show Steps p.tables e below (T58.setTop (mkF m 41 #[.val (.int p1), .val (.int p2), .val (.int p3), .val (.int p4), .val (.int p5), .val (.int p6), .val (.ref b7), .val (.int (1 : Int32)), .unset, .unset, .unset] [(.int p5)])) _
      refine XS.iconst X58.here hx rfl (hb hby at_41) ?_
      show Steps p.tables e below (T58.setTop (mkF m 42 #[.val (.int p1), .val (.int p2), .val (.int p3), .val (.int p4), .val (.int p5), .val (.int p6), .val (.ref b7), .val (.int (1 : Int32)), .unset, .unset, .unset] [(.int (2 : Int32)), (.int p5)])) _
      refine XS.iushr X58.here hx rfl (hb hby at_42) rfl ?_
      show Steps p.tables e below (T58.setTop (mkF m 43 #[.val (.int p1), .val (.int p2), .val (.int p3), .val (.int p4), .val (.int p5), .val (.int p6), .val (.ref b7), .val (.int (1 : Int32)), .unset, .unset, .unset] [(.int ((p5.toUInt32 >>> ((2 : Int32) &&& 31).toUInt32).toInt32))])) _
      rw [← hi155]
      show Steps p.tables e below (T58.setTop (mkF m 43 #[.val (.int p1), .val (.int p2), .val (.int p3), .val (.int p4), .val (.int p5), .val (.int p6), .val (.ref b7), .val (.int (1 : Int32)), .unset, .unset, .unset] [(.int i155)])) _
      refine XS.iconst X58.here hx rfl (hb hby at_43) ?_
      show Steps p.tables e below (T58.setTop (mkF m 44 #[.val (.int p1), .val (.int p2), .val (.int p3), .val (.int p4), .val (.int p5), .val (.int p6), .val (.ref b7), .val (.int (1 : Int32)), .unset, .unset, .unset] [(.int (1 : Int32)), (.int i155)])) _
      refine XS.iand X58.here hx rfl (hb hby at_44) rfl ?_
      show Steps p.tables e below (T58.setTop (mkF m 45 #[.val (.int p1), .val (.int p2), .val (.int p3), .val (.int p4), .val (.int p5), .val (.int p6), .val (.ref b7), .val (.int (1 : Int32)), .unset, .unset, .unset] [(.int (i155 &&& (1 : Int32)))])) _
      rw [← hi156]
      exact kt
    by_cases hc158 : i156 = (0 : Int32)
    · skip
      subst hc158
      obtain ⟨i159, hi159⟩ : ∃ z, z = ((p5.toUInt32 >>> ((3 : Int32) &&& 31).toUInt32).toInt32) := ⟨_, rfl⟩
      have pre161 : ∀ t, Steps p.tables e below (T58.setTop (mkF m 60 #[.val (.int p1), .val (.int p2), .val (.int p3), .val (.int p4), .val (.int p5), .val (.int p6), .val (.ref b7), .val (.int (1 : Int32)), .val (.int (0 : Int32)), .unset, .unset] [(.int (3 : Int32)), (.int i159)])) t → Steps p.tables e below (s₁.setTop (entryFrame m #[(.int p1), (.int p2), (.int p3), (.int p4), (.int p5), (.int p6)] maxLocals)) t := by
        intro t kt
        refine pre157 t ?_
        show Steps p.tables e below (T58.setTop (mkF m 45 #[.val (.int p1), .val (.int p2), .val (.int p3), .val (.int p4), .val (.int p5), .val (.int p6), .val (.ref b7), .val (.int (1 : Int32)), .unset, .unset, .unset] [(.int (0 : Int32))])) _
        refine XS.ifYes X58.here hx rfl (pc0 := 45) (pc' := 52) rfl (hb hby at_45) rfl ((if0 _ _).trans (teq (by decide +kernel : (0 : Int32) = (0 : Int32))).1) (by decide) (by decide) ?_
        show Steps p.tables e below (T58.setTop (mkF m 52 #[.val (.int p1), .val (.int p2), .val (.int p3), .val (.int p4), .val (.int p5), .val (.int p6), .val (.ref b7), .val (.int (1 : Int32)), .unset, .unset, .unset] [])) _
        refine XS.iconst X58.here hx rfl (hb hby at_52) ?_
        show Steps p.tables e below (T58.setTop (mkF m 53 #[.val (.int p1), .val (.int p2), .val (.int p3), .val (.int p4), .val (.int p5), .val (.int p6), .val (.ref b7), .val (.int (1 : Int32)), .unset, .unset, .unset] [(.int (0 : Int32))])) _
        refine XS.istore X58.here hx rfl (hb hby at_53) rfl (l' := #[.val (.int p1), .val (.int p2), .val (.int p3), .val (.int p4), .val (.int p5), .val (.int p6), .val (.ref b7), .val (.int (1 : Int32)), .val (.int (0 : Int32)), .unset, .unset]) rfl ?_
        show Steps p.tables e below (T58.setTop (mkF m 55 #[.val (.int p1), .val (.int p2), .val (.int p3), .val (.int p4), .val (.int p5), .val (.int p6), .val (.ref b7), .val (.int (1 : Int32)), .val (.int (0 : Int32)), .unset, .unset] [])) _
        refine XS.iload X58.here hx rfl (hb hby at_55) rfl ?_
        show Steps p.tables e below (T58.setTop (mkF m 57 #[.val (.int p1), .val (.int p2), .val (.int p3), .val (.int p4), .val (.int p5), .val (.int p6), .val (.ref b7), .val (.int (1 : Int32)), .val (.int (0 : Int32)), .unset, .unset] [(.int p5)])) _
        refine XS.iconst X58.here hx rfl (hb hby at_57) ?_
        show Steps p.tables e below (T58.setTop (mkF m 58 #[.val (.int p1), .val (.int p2), .val (.int p3), .val (.int p4), .val (.int p5), .val (.int p6), .val (.ref b7), .val (.int (1 : Int32)), .val (.int (0 : Int32)), .unset, .unset] [(.int (3 : Int32)), (.int p5)])) _
        refine XS.iushr X58.here hx rfl (hb hby at_58) rfl ?_
        show Steps p.tables e below (T58.setTop (mkF m 59 #[.val (.int p1), .val (.int p2), .val (.int p3), .val (.int p4), .val (.int p5), .val (.int p6), .val (.ref b7), .val (.int (1 : Int32)), .val (.int (0 : Int32)), .unset, .unset] [(.int ((p5.toUInt32 >>> ((3 : Int32) &&& 31).toUInt32).toInt32))])) _
        rw [← hi159]
        show Steps p.tables e below (T58.setTop (mkF m 59 #[.val (.int p1), .val (.int p2), .val (.int p3), .val (.int p4), .val (.int p5), .val (.int p6), .val (.ref b7), .val (.int (1 : Int32)), .val (.int (0 : Int32)), .unset, .unset] [(.int i159)])) _
        refine XS.iconst X58.here hx rfl (hb hby at_59) ?_
        show Steps p.tables e below (T58.setTop (mkF m 60 #[.val (.int p1), .val (.int p2), .val (.int p3), .val (.int p4), .val (.int p5), .val (.int p6), .val (.ref b7), .val (.int (1 : Int32)), .val (.int (0 : Int32)), .unset, .unset] [(.int (3 : Int32)), (.int i159)])) _
        exact kt
      rcases (own_and3 i159) with hq160 | hq160 | hq160 | hq160
      · skip
        have f162 : Arv Z T58.heap b9 k10 (.array .int) (1 : Int32) [(.ref b23)] .null := (f57.keep Ku61 (ninS (Nat.ne_of_lt (Nat.lt_of_lt_of_le u14 u27)) (ninS (Ne.symm (Nat.ne_of_lt (Nat.lt_of_lt_of_le lt_b7 u13))) nin0)))
        obtain ⟨cq163, kq163, q163a, q163b, q163c⟩ := isOf hZ rfl u64
        obtain ⟨_, _, ⟨T163, L163, k163, n163⟩, -, X163, ⟨Lc163, hQ163, l163, y163, z163⟩, st163⟩ := X58.virtualBack hx (y := M_2) (z := M_2) hown (mvT hZ (hw _ (gw 22 rfl))) (mvT hZ (hw _ (gw 23 rfl))) (notFace_of_selects (args := #[]) (mvT hZ (hw _ (gw 25 rfl)))) (mvT hZ (hw _ (gw 25 rfl))) (mvT hZ (hw _ (gw 24 rfl))) (by decide) (backOf (W := 0) (rm4_7 l Z a0 hw [] b7 b9 b23 k10 p1 p2 p3 p4 k24 T58.heap n0  Ou61 u65 f162 u63) hZ (hw _ (gw 26 rfl)) (hw _ (gw 2 rfl)) (by decide) (by decide)) q163a q163c (g := (mkF m 138 #[.val (.int p1), .val (.int p2), .val (.int p3), .val (.int p4), .val (.int p5), .val (.int p6), .val (.ref b7), .val (.int (1 : Int32)), .val (.int (0 : Int32)), .val (.int (0 : Int32)), .val (.int p1)] [(.int (0 : Int32)), (.ref b7)])) rfl (by rw [hml]; rfl) (Steps.refl _) (argsL := [(.int (0 : Int32))]) (rest := []) (lenOf pd_2 rfl) rfl (by show 2 * 0 + _ ≤ _; exact Nat.le_of_eq rfl) (hb hby at_138) (fun _ _ => ⟨rfl, rfl, (by decide : 3 + 0 ≤ _), (by decide : 4099 + 0 ≤ _)⟩)
        dsimp only [Pt.U, Pt.locs, Pt.cells, Pt.slots] at X163 l163 y163 z163 st163 hQ163
        subst l163 y163 z163
        obtain ⟨rfl, u165, u166⟩ := hQ163
        have N163 := Fr.app N58 u165
        obtain ⟨fs, hr, hrun, hended, hW, hsame⟩ := X163.leave (v := some (.int (1 : Int32))) (fun h => by rw [Bd.returns] at h; cases h)
        refine ⟨_, _, pre161 _ ?_, hrun, hended, _, _, rfl, ?_, ⟨_, rfl⟩, hW, hsame.mono (by decide) (by decide)⟩
        · show Steps p.tables e below (T58.setTop (mkF m 60 #[.val (.int p1), .val (.int p2), .val (.int p3), .val (.int p4), .val (.int p5), .val (.int p6), .val (.ref b7), .val (.int (1 : Int32)), .val (.int (0 : Int32)), .unset, .unset] [(.int (3 : Int32)), (.int i159)])) _
          refine XS.iand X58.here hx rfl (hb hby at_60) rfl ?_
          show Steps p.tables e below (T58.setTop (mkF m 61 #[.val (.int p1), .val (.int p2), .val (.int p3), .val (.int p4), .val (.int p5), .val (.int p6), .val (.ref b7), .val (.int (1 : Int32)), .val (.int (0 : Int32)), .unset, .unset] [(.int (i159 &&& (3 : Int32)))])) _
          rw [hq160]
          show Steps p.tables e below (T58.setTop (mkF m 61 #[.val (.int p1), .val (.int p2), .val (.int p3), .val (.int p4), .val (.int p5), .val (.int p6), .val (.ref b7), .val (.int (1 : Int32)), .val (.int (0 : Int32)), .unset, .unset] [(.int (0 : Int32))])) _
          refine XS.istore X58.here hx rfl (hb hby at_61) rfl (l' := #[.val (.int p1), .val (.int p2), .val (.int p3), .val (.int p4), .val (.int p5), .val (.int p6), .val (.ref b7), .val (.int (1 : Int32)), .val (.int (0 : Int32)), .val (.int (0 : Int32)), .unset]) rfl ?_
          show Steps p.tables e below (T58.setTop (mkF m 63 #[.val (.int p1), .val (.int p2), .val (.int p3), .val (.int p4), .val (.int p5), .val (.int p6), .val (.ref b7), .val (.int (1 : Int32)), .val (.int (0 : Int32)), .val (.int (0 : Int32)), .unset] [])) _
          refine XS.iload X58.here hx rfl (hb hby at_63) rfl ?_
          show Steps p.tables e below (T58.setTop (mkF m 65 #[.val (.int p1), .val (.int p2), .val (.int p3), .val (.int p4), .val (.int p5), .val (.int p6), .val (.ref b7), .val (.int (1 : Int32)), .val (.int (0 : Int32)), .val (.int (0 : Int32)), .unset] [(.int (0 : Int32))])) _
          refine XS.ifYes X58.here hx rfl (pc0 := 65) (pc' := 77) rfl (hb hby at_65) rfl ((if0 _ _).trans (teq (by decide +kernel : (0 : Int32) = (0 : Int32))).1) (by decide) (by decide) ?_
          show Steps p.tables e below (T58.setTop (mkF m 77 #[.val (.int p1), .val (.int p2), .val (.int p3), .val (.int p4), .val (.int p5), .val (.int p6), .val (.ref b7), .val (.int (1 : Int32)), .val (.int (0 : Int32)), .val (.int (0 : Int32)), .unset] [])) _
          refine XS.iload X58.here hx rfl (hb hby at_77) rfl ?_
          show Steps p.tables e below (T58.setTop (mkF m 79 #[.val (.int p1), .val (.int p2), .val (.int p3), .val (.int p4), .val (.int p5), .val (.int p6), .val (.ref b7), .val (.int (1 : Int32)), .val (.int (0 : Int32)), .val (.int (0 : Int32)), .unset] [(.int (0 : Int32))])) _
          refine XS.ifYes X58.here hx rfl (pc0 := 79) (pc' := 96) rfl (hb hby at_79) rfl ((if0 _ _).trans (teq (by decide +kernel : (0 : Int32) = (0 : Int32))).1) (by decide) (by decide) ?_
          show Steps p.tables e below (T58.setTop (mkF m 96 #[.val (.int p1), .val (.int p2), .val (.int p3), .val (.int p4), .val (.int p5), .val (.int p6), .val (.ref b7), .val (.int (1 : Int32)), .val (.int (0 : Int32)), .val (.int (0 : Int32)), .unset] [])) _
          refine XS.iload X58.here hx rfl (hb hby at_96) rfl ?_
          show Steps p.tables e below (T58.setTop (mkF m 98 #[.val (.int p1), .val (.int p2), .val (.int p3), .val (.int p4), .val (.int p5), .val (.int p6), .val (.ref b7), .val (.int (1 : Int32)), .val (.int (0 : Int32)), .val (.int (0 : Int32)), .unset] [(.int (0 : Int32))])) _
          refine XS.ifNo X58.here hx rfl (hb hby at_98) rfl ((if0 _ _).trans (teq (by decide +kernel : (0 : Int32) = (0 : Int32))).2) ?_
          show Steps p.tables e below (T58.setTop (mkF m 101 #[.val (.int p1), .val (.int p2), .val (.int p3), .val (.int p4), .val (.int p5), .val (.int p6), .val (.ref b7), .val (.int (1 : Int32)), .val (.int (0 : Int32)), .val (.int (0 : Int32)), .unset] [])) _
          refine XS.iloadN X58.here hx rfl (hb hby at_101) rfl ?_
          show Steps p.tables e below (T58.setTop (mkF m 102 #[.val (.int p1), .val (.int p2), .val (.int p3), .val (.int p4), .val (.int p5), .val (.int p6), .val (.ref b7), .val (.int (1 : Int32)), .val (.int (0 : Int32)), .val (.int (0 : Int32)), .unset] [(.int p1)])) _
          refine XS.istore X58.here hx rfl (hb hby at_102) rfl (l' := #[.val (.int p1), .val (.int p2), .val (.int p3), .val (.int p4), .val (.int p5), .val (.int p6), .val (.ref b7), .val (.int (1 : Int32)), .val (.int (0 : Int32)), .val (.int (0 : Int32)), .val (.int p1)]) rfl ?_
          show Steps p.tables e below (T58.setTop (mkF m 104 #[.val (.int p1), .val (.int p2), .val (.int p3), .val (.int p4), .val (.int p5), .val (.int p6), .val (.ref b7), .val (.int (1 : Int32)), .val (.int (0 : Int32)), .val (.int (0 : Int32)), .val (.int p1)] [])) _
          refine XS.goto X58.here hx rfl (pc0 := 104) (pc' := 134) rfl (hb hby at_104) (by decide) (by decide) ?_
          show Steps p.tables e below (T58.setTop (mkF m 134 #[.val (.int p1), .val (.int p2), .val (.int p3), .val (.int p4), .val (.int p5), .val (.int p6), .val (.ref b7), .val (.int (1 : Int32)), .val (.int (0 : Int32)), .val (.int (0 : Int32)), .val (.int p1)] [])) _
          refine XS.aload X58.here hx rfl (hb hby at_134) rfl rfl ?_
          show Steps p.tables e below (T58.setTop (mkF m 136 #[.val (.int p1), .val (.int p2), .val (.int p3), .val (.int p4), .val (.int p5), .val (.int p6), .val (.ref b7), .val (.int (1 : Int32)), .val (.int (0 : Int32)), .val (.int (0 : Int32)), .val (.int p1)] [(.ref b7)])) _
          refine XS.iload X58.here hx rfl (hb hby at_136) rfl ?_
          show Steps p.tables e below (T58.setTop (mkF m 138 #[.val (.int p1), .val (.int p2), .val (.int p3), .val (.int p4), .val (.int p5), .val (.int p6), .val (.ref b7), .val (.int (1 : Int32)), .val (.int (0 : Int32)), .val (.int (0 : Int32)), .val (.int p1)] [(.int (0 : Int32)), (.ref b7)])) _
          refine st163.trans ?_
          show Steps p.tables e below (T163.setTop (mkF m 141 #[.val (.int p1), .val (.int p2), .val (.int p3), .val (.int p4), .val (.int p5), .val (.int p6), .val (.ref b7), .val (.int (1 : Int32)), .val (.int (0 : Int32)), .val (.int (0 : Int32)), .val (.int p1)] [(.int p1)])) _
          refine XS.iload X163.here hx rfl (hb hby at_141) rfl ?_
          show Steps p.tables e below (T163.setTop (mkF m 143 #[.val (.int p1), .val (.int p2), .val (.int p3), .val (.int p4), .val (.int p5), .val (.int p6), .val (.ref b7), .val (.int (1 : Int32)), .val (.int (0 : Int32)), .val (.int (0 : Int32)), .val (.int p1)] [(.int p1), (.int p1)])) _
          refine XS.icmpNo X163.here hx rfl (hb hby at_143) rfl (teq (rfl : p1 = p1)).2 ?_
          show Steps p.tables e below (T163.setTop (mkF m 146 #[.val (.int p1), .val (.int p2), .val (.int p3), .val (.int p4), .val (.int p5), .val (.int p6), .val (.ref b7), .val (.int (1 : Int32)), .val (.int (0 : Int32)), .val (.int (0 : Int32)), .val (.int p1)] [])) _
          refine XS.iconst X163.here hx rfl (hb hby at_146) ?_
          show Steps p.tables e below (T163.setTop (mkF m 147 #[.val (.int p1), .val (.int p2), .val (.int p3), .val (.int p4), .val (.int p5), .val (.int p6), .val (.ref b7), .val (.int (1 : Int32)), .val (.int (0 : Int32)), .val (.int (0 : Int32)), .val (.int p1)] [(.int (1 : Int32))])) _
          refine XS.goto X163.here hx rfl (pc0 := 147) (pc' := 151) rfl (hb hby at_147) (by decide) (by decide) ?_
          show Steps p.tables e below (T163.setTop (mkF m 151 #[.val (.int p1), .val (.int p2), .val (.int p3), .val (.int p4), .val (.int p5), .val (.int p6), .val (.ref b7), .val (.int (1 : Int32)), .val (.int (0 : Int32)), .val (.int (0 : Int32)), .val (.int p1)] [(.int (1 : Int32))])) _
          exact retN X163 hx (t := .boolean) Bd.returns (by simp) (hb hby at_151) hr
        · show Q0 Z _ _ _ _ _ _ h0 n0 _ T163.heap _
          rw [u166]
          exact ⟨rfl, N163⟩
      · skip
        have f167 : Arv Z T58.heap b9 k10 (.array .int) (1 : Int32) [(.ref b23)] .null := (f57.keep Ku61 (ninS (Nat.ne_of_lt (Nat.lt_of_lt_of_le u14 u27)) (ninS (Ne.symm (Nat.ne_of_lt (Nat.lt_of_lt_of_le lt_b7 u13))) nin0)))
        obtain ⟨cq168, kq168, q168a, q168b, q168c⟩ := isOf hZ rfl u64
        obtain ⟨_, _, ⟨T168, L168, k168, n168⟩, -, X168, ⟨Lc168, hQ168, l168, y168, z168⟩, st168⟩ := X58.virtualBack hx (y := M_2) (z := M_2) hown (mvT hZ (hw _ (gw 22 rfl))) (mvT hZ (hw _ (gw 23 rfl))) (notFace_of_selects (args := #[]) (mvT hZ (hw _ (gw 25 rfl)))) (mvT hZ (hw _ (gw 25 rfl))) (mvT hZ (hw _ (gw 24 rfl))) (by decide) (backOf (W := 0) (rm4_8 l Z a0 hw [] b7 b9 b23 k10 p1 p2 p3 p4 k24 T58.heap n0  Ou61 u65 f167 u63) hZ (hw _ (gw 26 rfl)) (hw _ (gw 2 rfl)) (by decide) (by decide)) q168a q168c (g := (mkF m 138 #[.val (.int p1), .val (.int p2), .val (.int p3), .val (.int p4), .val (.int p5), .val (.int p6), .val (.ref b7), .val (.int (1 : Int32)), .val (.int (0 : Int32)), .val (.int (1 : Int32)), .val (.int p2)] [(.int (1 : Int32)), (.ref b7)])) rfl (by rw [hml]; rfl) (Steps.refl _) (argsL := [(.int (1 : Int32))]) (rest := []) (lenOf pd_2 rfl) rfl (by show 2 * 0 + _ ≤ _; exact Nat.le_of_eq rfl) (hb hby at_138) (fun _ _ => ⟨rfl, rfl, (by decide : 3 + 0 ≤ _), (by decide : 4099 + 0 ≤ _)⟩)
        dsimp only [Pt.U, Pt.locs, Pt.cells, Pt.slots] at X168 l168 y168 z168 st168 hQ168
        subst l168 y168 z168
        obtain ⟨rfl, u170, u171⟩ := hQ168
        have N168 := Fr.app N58 u170
        obtain ⟨fs, hr, hrun, hended, hW, hsame⟩ := X168.leave (v := some (.int (1 : Int32))) (fun h => by rw [Bd.returns] at h; cases h)
        refine ⟨_, _, pre161 _ ?_, hrun, hended, _, _, rfl, ?_, ⟨_, rfl⟩, hW, hsame.mono (by decide) (by decide)⟩
        · show Steps p.tables e below (T58.setTop (mkF m 60 #[.val (.int p1), .val (.int p2), .val (.int p3), .val (.int p4), .val (.int p5), .val (.int p6), .val (.ref b7), .val (.int (1 : Int32)), .val (.int (0 : Int32)), .unset, .unset] [(.int (3 : Int32)), (.int i159)])) _
          refine XS.iand X58.here hx rfl (hb hby at_60) rfl ?_
          show Steps p.tables e below (T58.setTop (mkF m 61 #[.val (.int p1), .val (.int p2), .val (.int p3), .val (.int p4), .val (.int p5), .val (.int p6), .val (.ref b7), .val (.int (1 : Int32)), .val (.int (0 : Int32)), .unset, .unset] [(.int (i159 &&& (3 : Int32)))])) _
          rw [hq160]
          show Steps p.tables e below (T58.setTop (mkF m 61 #[.val (.int p1), .val (.int p2), .val (.int p3), .val (.int p4), .val (.int p5), .val (.int p6), .val (.ref b7), .val (.int (1 : Int32)), .val (.int (0 : Int32)), .unset, .unset] [(.int (1 : Int32))])) _
          refine XS.istore X58.here hx rfl (hb hby at_61) rfl (l' := #[.val (.int p1), .val (.int p2), .val (.int p3), .val (.int p4), .val (.int p5), .val (.int p6), .val (.ref b7), .val (.int (1 : Int32)), .val (.int (0 : Int32)), .val (.int (1 : Int32)), .unset]) rfl ?_
          show Steps p.tables e below (T58.setTop (mkF m 63 #[.val (.int p1), .val (.int p2), .val (.int p3), .val (.int p4), .val (.int p5), .val (.int p6), .val (.ref b7), .val (.int (1 : Int32)), .val (.int (0 : Int32)), .val (.int (1 : Int32)), .unset] [])) _
          refine XS.iload X58.here hx rfl (hb hby at_63) rfl ?_
          show Steps p.tables e below (T58.setTop (mkF m 65 #[.val (.int p1), .val (.int p2), .val (.int p3), .val (.int p4), .val (.int p5), .val (.int p6), .val (.ref b7), .val (.int (1 : Int32)), .val (.int (0 : Int32)), .val (.int (1 : Int32)), .unset] [(.int (0 : Int32))])) _
          refine XS.ifYes X58.here hx rfl (pc0 := 65) (pc' := 77) rfl (hb hby at_65) rfl ((if0 _ _).trans (teq (by decide +kernel : (0 : Int32) = (0 : Int32))).1) (by decide) (by decide) ?_
          show Steps p.tables e below (T58.setTop (mkF m 77 #[.val (.int p1), .val (.int p2), .val (.int p3), .val (.int p4), .val (.int p5), .val (.int p6), .val (.ref b7), .val (.int (1 : Int32)), .val (.int (0 : Int32)), .val (.int (1 : Int32)), .unset] [])) _
          refine XS.iload X58.here hx rfl (hb hby at_77) rfl ?_
          show Steps p.tables e below (T58.setTop (mkF m 79 #[.val (.int p1), .val (.int p2), .val (.int p3), .val (.int p4), .val (.int p5), .val (.int p6), .val (.ref b7), .val (.int (1 : Int32)), .val (.int (0 : Int32)), .val (.int (1 : Int32)), .unset] [(.int (0 : Int32))])) _
          refine XS.ifYes X58.here hx rfl (pc0 := 79) (pc' := 96) rfl (hb hby at_79) rfl ((if0 _ _).trans (teq (by decide +kernel : (0 : Int32) = (0 : Int32))).1) (by decide) (by decide) ?_
          show Steps p.tables e below (T58.setTop (mkF m 96 #[.val (.int p1), .val (.int p2), .val (.int p3), .val (.int p4), .val (.int p5), .val (.int p6), .val (.ref b7), .val (.int (1 : Int32)), .val (.int (0 : Int32)), .val (.int (1 : Int32)), .unset] [])) _
          refine XS.iload X58.here hx rfl (hb hby at_96) rfl ?_
          show Steps p.tables e below (T58.setTop (mkF m 98 #[.val (.int p1), .val (.int p2), .val (.int p3), .val (.int p4), .val (.int p5), .val (.int p6), .val (.ref b7), .val (.int (1 : Int32)), .val (.int (0 : Int32)), .val (.int (1 : Int32)), .unset] [(.int (1 : Int32))])) _
          refine XS.ifYes X58.here hx rfl (pc0 := 98) (pc' := 107) rfl (hb hby at_98) rfl ((if0 _ _).trans (feq (by decide +kernel : ¬ ((1 : Int32) = (0 : Int32)))).2) (by decide) (by decide) ?_
          show Steps p.tables e below (T58.setTop (mkF m 107 #[.val (.int p1), .val (.int p2), .val (.int p3), .val (.int p4), .val (.int p5), .val (.int p6), .val (.ref b7), .val (.int (1 : Int32)), .val (.int (0 : Int32)), .val (.int (1 : Int32)), .unset] [])) _
          refine XS.iload X58.here hx rfl (hb hby at_107) rfl ?_
          show Steps p.tables e below (T58.setTop (mkF m 109 #[.val (.int p1), .val (.int p2), .val (.int p3), .val (.int p4), .val (.int p5), .val (.int p6), .val (.ref b7), .val (.int (1 : Int32)), .val (.int (0 : Int32)), .val (.int (1 : Int32)), .unset] [(.int (1 : Int32))])) _
          refine XS.iconst X58.here hx rfl (hb hby at_109) ?_
          show Steps p.tables e below (T58.setTop (mkF m 110 #[.val (.int p1), .val (.int p2), .val (.int p3), .val (.int p4), .val (.int p5), .val (.int p6), .val (.ref b7), .val (.int (1 : Int32)), .val (.int (0 : Int32)), .val (.int (1 : Int32)), .unset] [(.int (1 : Int32)), (.int (1 : Int32))])) _
          refine XS.icmpNo X58.here hx rfl (hb hby at_110) rfl (teq (by decide +kernel : (1 : Int32) = (1 : Int32))).2 ?_
          show Steps p.tables e below (T58.setTop (mkF m 113 #[.val (.int p1), .val (.int p2), .val (.int p3), .val (.int p4), .val (.int p5), .val (.int p6), .val (.ref b7), .val (.int (1 : Int32)), .val (.int (0 : Int32)), .val (.int (1 : Int32)), .unset] [])) _
          refine XS.iloadN X58.here hx rfl (hb hby at_113) rfl ?_
          show Steps p.tables e below (T58.setTop (mkF m 114 #[.val (.int p1), .val (.int p2), .val (.int p3), .val (.int p4), .val (.int p5), .val (.int p6), .val (.ref b7), .val (.int (1 : Int32)), .val (.int (0 : Int32)), .val (.int (1 : Int32)), .unset] [(.int p2)])) _
          refine XS.istore X58.here hx rfl (hb hby at_114) rfl (l' := #[.val (.int p1), .val (.int p2), .val (.int p3), .val (.int p4), .val (.int p5), .val (.int p6), .val (.ref b7), .val (.int (1 : Int32)), .val (.int (0 : Int32)), .val (.int (1 : Int32)), .val (.int p2)]) rfl ?_
          show Steps p.tables e below (T58.setTop (mkF m 116 #[.val (.int p1), .val (.int p2), .val (.int p3), .val (.int p4), .val (.int p5), .val (.int p6), .val (.ref b7), .val (.int (1 : Int32)), .val (.int (0 : Int32)), .val (.int (1 : Int32)), .val (.int p2)] [])) _
          refine XS.goto X58.here hx rfl (pc0 := 116) (pc' := 134) rfl (hb hby at_116) (by decide) (by decide) ?_
          show Steps p.tables e below (T58.setTop (mkF m 134 #[.val (.int p1), .val (.int p2), .val (.int p3), .val (.int p4), .val (.int p5), .val (.int p6), .val (.ref b7), .val (.int (1 : Int32)), .val (.int (0 : Int32)), .val (.int (1 : Int32)), .val (.int p2)] [])) _
          refine XS.aload X58.here hx rfl (hb hby at_134) rfl rfl ?_
          show Steps p.tables e below (T58.setTop (mkF m 136 #[.val (.int p1), .val (.int p2), .val (.int p3), .val (.int p4), .val (.int p5), .val (.int p6), .val (.ref b7), .val (.int (1 : Int32)), .val (.int (0 : Int32)), .val (.int (1 : Int32)), .val (.int p2)] [(.ref b7)])) _
          refine XS.iload X58.here hx rfl (hb hby at_136) rfl ?_
          show Steps p.tables e below (T58.setTop (mkF m 138 #[.val (.int p1), .val (.int p2), .val (.int p3), .val (.int p4), .val (.int p5), .val (.int p6), .val (.ref b7), .val (.int (1 : Int32)), .val (.int (0 : Int32)), .val (.int (1 : Int32)), .val (.int p2)] [(.int (1 : Int32)), (.ref b7)])) _
          refine st168.trans ?_
          show Steps p.tables e below (T168.setTop (mkF m 141 #[.val (.int p1), .val (.int p2), .val (.int p3), .val (.int p4), .val (.int p5), .val (.int p6), .val (.ref b7), .val (.int (1 : Int32)), .val (.int (0 : Int32)), .val (.int (1 : Int32)), .val (.int p2)] [(.int p2)])) _
          refine XS.iload X168.here hx rfl (hb hby at_141) rfl ?_
          show Steps p.tables e below (T168.setTop (mkF m 143 #[.val (.int p1), .val (.int p2), .val (.int p3), .val (.int p4), .val (.int p5), .val (.int p6), .val (.ref b7), .val (.int (1 : Int32)), .val (.int (0 : Int32)), .val (.int (1 : Int32)), .val (.int p2)] [(.int p2), (.int p2)])) _
          refine XS.icmpNo X168.here hx rfl (hb hby at_143) rfl (teq (rfl : p2 = p2)).2 ?_
          show Steps p.tables e below (T168.setTop (mkF m 146 #[.val (.int p1), .val (.int p2), .val (.int p3), .val (.int p4), .val (.int p5), .val (.int p6), .val (.ref b7), .val (.int (1 : Int32)), .val (.int (0 : Int32)), .val (.int (1 : Int32)), .val (.int p2)] [])) _
          refine XS.iconst X168.here hx rfl (hb hby at_146) ?_
          show Steps p.tables e below (T168.setTop (mkF m 147 #[.val (.int p1), .val (.int p2), .val (.int p3), .val (.int p4), .val (.int p5), .val (.int p6), .val (.ref b7), .val (.int (1 : Int32)), .val (.int (0 : Int32)), .val (.int (1 : Int32)), .val (.int p2)] [(.int (1 : Int32))])) _
          refine XS.goto X168.here hx rfl (pc0 := 147) (pc' := 151) rfl (hb hby at_147) (by decide) (by decide) ?_
          show Steps p.tables e below (T168.setTop (mkF m 151 #[.val (.int p1), .val (.int p2), .val (.int p3), .val (.int p4), .val (.int p5), .val (.int p6), .val (.ref b7), .val (.int (1 : Int32)), .val (.int (0 : Int32)), .val (.int (1 : Int32)), .val (.int p2)] [(.int (1 : Int32))])) _
          exact retN X168 hx (t := .boolean) Bd.returns (by simp) (hb hby at_151) hr
        · show Q0 Z _ _ _ _ _ _ h0 n0 _ T168.heap _
          rw [u171]
          exact ⟨rfl, N168⟩
      · skip
        have f172 : Arv Z T58.heap b9 k10 (.array .int) (1 : Int32) [(.ref b23)] .null := (f57.keep Ku61 (ninS (Nat.ne_of_lt (Nat.lt_of_lt_of_le u14 u27)) (ninS (Ne.symm (Nat.ne_of_lt (Nat.lt_of_lt_of_le lt_b7 u13))) nin0)))
        obtain ⟨cq173, kq173, q173a, q173b, q173c⟩ := isOf hZ rfl u64
        obtain ⟨_, _, ⟨T173, L173, k173, n173⟩, -, X173, ⟨Lc173, hQ173, l173, y173, z173⟩, st173⟩ := X58.virtualBack hx (y := M_2) (z := M_2) hown (mvT hZ (hw _ (gw 22 rfl))) (mvT hZ (hw _ (gw 23 rfl))) (notFace_of_selects (args := #[]) (mvT hZ (hw _ (gw 25 rfl)))) (mvT hZ (hw _ (gw 25 rfl))) (mvT hZ (hw _ (gw 24 rfl))) (by decide) (backOf (W := 0) (rm4_9 l Z a0 hw [] b7 b9 b23 k10 p1 p2 p3 p4 k24 T58.heap n0  Ou61 u65 f172 u63) hZ (hw _ (gw 26 rfl)) (hw _ (gw 2 rfl)) (by decide) (by decide)) q173a q173c (g := (mkF m 138 #[.val (.int p1), .val (.int p2), .val (.int p3), .val (.int p4), .val (.int p5), .val (.int p6), .val (.ref b7), .val (.int (1 : Int32)), .val (.int (0 : Int32)), .val (.int (2 : Int32)), .val (.int p3)] [(.int (2 : Int32)), (.ref b7)])) rfl (by rw [hml]; rfl) (Steps.refl _) (argsL := [(.int (2 : Int32))]) (rest := []) (lenOf pd_2 rfl) rfl (by show 2 * 0 + _ ≤ _; exact Nat.le_of_eq rfl) (hb hby at_138) (fun _ _ => ⟨rfl, rfl, (by decide : 3 + 0 ≤ _), (by decide : 4099 + 0 ≤ _)⟩)
        dsimp only [Pt.U, Pt.locs, Pt.cells, Pt.slots] at X173 l173 y173 z173 st173 hQ173
        subst l173 y173 z173
        obtain ⟨rfl, u175, u176⟩ := hQ173
        have N173 := Fr.app N58 u175
        obtain ⟨fs, hr, hrun, hended, hW, hsame⟩ := X173.leave (v := some (.int (1 : Int32))) (fun h => by rw [Bd.returns] at h; cases h)
        refine ⟨_, _, pre161 _ ?_, hrun, hended, _, _, rfl, ?_, ⟨_, rfl⟩, hW, hsame.mono (by decide) (by decide)⟩
        · show Steps p.tables e below (T58.setTop (mkF m 60 #[.val (.int p1), .val (.int p2), .val (.int p3), .val (.int p4), .val (.int p5), .val (.int p6), .val (.ref b7), .val (.int (1 : Int32)), .val (.int (0 : Int32)), .unset, .unset] [(.int (3 : Int32)), (.int i159)])) _
          refine XS.iand X58.here hx rfl (hb hby at_60) rfl ?_
          show Steps p.tables e below (T58.setTop (mkF m 61 #[.val (.int p1), .val (.int p2), .val (.int p3), .val (.int p4), .val (.int p5), .val (.int p6), .val (.ref b7), .val (.int (1 : Int32)), .val (.int (0 : Int32)), .unset, .unset] [(.int (i159 &&& (3 : Int32)))])) _
          rw [hq160]
          show Steps p.tables e below (T58.setTop (mkF m 61 #[.val (.int p1), .val (.int p2), .val (.int p3), .val (.int p4), .val (.int p5), .val (.int p6), .val (.ref b7), .val (.int (1 : Int32)), .val (.int (0 : Int32)), .unset, .unset] [(.int (2 : Int32))])) _
          refine XS.istore X58.here hx rfl (hb hby at_61) rfl (l' := #[.val (.int p1), .val (.int p2), .val (.int p3), .val (.int p4), .val (.int p5), .val (.int p6), .val (.ref b7), .val (.int (1 : Int32)), .val (.int (0 : Int32)), .val (.int (2 : Int32)), .unset]) rfl ?_
          show Steps p.tables e below (T58.setTop (mkF m 63 #[.val (.int p1), .val (.int p2), .val (.int p3), .val (.int p4), .val (.int p5), .val (.int p6), .val (.ref b7), .val (.int (1 : Int32)), .val (.int (0 : Int32)), .val (.int (2 : Int32)), .unset] [])) _
          refine XS.iload X58.here hx rfl (hb hby at_63) rfl ?_
          show Steps p.tables e below (T58.setTop (mkF m 65 #[.val (.int p1), .val (.int p2), .val (.int p3), .val (.int p4), .val (.int p5), .val (.int p6), .val (.ref b7), .val (.int (1 : Int32)), .val (.int (0 : Int32)), .val (.int (2 : Int32)), .unset] [(.int (0 : Int32))])) _
          refine XS.ifYes X58.here hx rfl (pc0 := 65) (pc' := 77) rfl (hb hby at_65) rfl ((if0 _ _).trans (teq (by decide +kernel : (0 : Int32) = (0 : Int32))).1) (by decide) (by decide) ?_
          show Steps p.tables e below (T58.setTop (mkF m 77 #[.val (.int p1), .val (.int p2), .val (.int p3), .val (.int p4), .val (.int p5), .val (.int p6), .val (.ref b7), .val (.int (1 : Int32)), .val (.int (0 : Int32)), .val (.int (2 : Int32)), .unset] [])) _
          refine XS.iload X58.here hx rfl (hb hby at_77) rfl ?_
          show Steps p.tables e below (T58.setTop (mkF m 79 #[.val (.int p1), .val (.int p2), .val (.int p3), .val (.int p4), .val (.int p5), .val (.int p6), .val (.ref b7), .val (.int (1 : Int32)), .val (.int (0 : Int32)), .val (.int (2 : Int32)), .unset] [(.int (0 : Int32))])) _
          refine XS.ifYes X58.here hx rfl (pc0 := 79) (pc' := 96) rfl (hb hby at_79) rfl ((if0 _ _).trans (teq (by decide +kernel : (0 : Int32) = (0 : Int32))).1) (by decide) (by decide) ?_
          show Steps p.tables e below (T58.setTop (mkF m 96 #[.val (.int p1), .val (.int p2), .val (.int p3), .val (.int p4), .val (.int p5), .val (.int p6), .val (.ref b7), .val (.int (1 : Int32)), .val (.int (0 : Int32)), .val (.int (2 : Int32)), .unset] [])) _
          refine XS.iload X58.here hx rfl (hb hby at_96) rfl ?_
          show Steps p.tables e below (T58.setTop (mkF m 98 #[.val (.int p1), .val (.int p2), .val (.int p3), .val (.int p4), .val (.int p5), .val (.int p6), .val (.ref b7), .val (.int (1 : Int32)), .val (.int (0 : Int32)), .val (.int (2 : Int32)), .unset] [(.int (2 : Int32))])) _
          refine XS.ifYes X58.here hx rfl (pc0 := 98) (pc' := 107) rfl (hb hby at_98) rfl ((if0 _ _).trans (feq (by decide +kernel : ¬ ((2 : Int32) = (0 : Int32)))).2) (by decide) (by decide) ?_
          show Steps p.tables e below (T58.setTop (mkF m 107 #[.val (.int p1), .val (.int p2), .val (.int p3), .val (.int p4), .val (.int p5), .val (.int p6), .val (.ref b7), .val (.int (1 : Int32)), .val (.int (0 : Int32)), .val (.int (2 : Int32)), .unset] [])) _
          refine XS.iload X58.here hx rfl (hb hby at_107) rfl ?_
          show Steps p.tables e below (T58.setTop (mkF m 109 #[.val (.int p1), .val (.int p2), .val (.int p3), .val (.int p4), .val (.int p5), .val (.int p6), .val (.ref b7), .val (.int (1 : Int32)), .val (.int (0 : Int32)), .val (.int (2 : Int32)), .unset] [(.int (2 : Int32))])) _
          refine XS.iconst X58.here hx rfl (hb hby at_109) ?_
          show Steps p.tables e below (T58.setTop (mkF m 110 #[.val (.int p1), .val (.int p2), .val (.int p3), .val (.int p4), .val (.int p5), .val (.int p6), .val (.ref b7), .val (.int (1 : Int32)), .val (.int (0 : Int32)), .val (.int (2 : Int32)), .unset] [(.int (1 : Int32)), (.int (2 : Int32))])) _
          refine XS.icmpYes X58.here hx rfl (pc0 := 110) (pc' := 119) rfl (hb hby at_110) rfl (feq (by decide +kernel : ¬ ((2 : Int32) = (1 : Int32)))).2 (by decide) (by decide) ?_
          show Steps p.tables e below (T58.setTop (mkF m 119 #[.val (.int p1), .val (.int p2), .val (.int p3), .val (.int p4), .val (.int p5), .val (.int p6), .val (.ref b7), .val (.int (1 : Int32)), .val (.int (0 : Int32)), .val (.int (2 : Int32)), .unset] [])) _
          refine XS.iload X58.here hx rfl (hb hby at_119) rfl ?_
          show Steps p.tables e below (T58.setTop (mkF m 121 #[.val (.int p1), .val (.int p2), .val (.int p3), .val (.int p4), .val (.int p5), .val (.int p6), .val (.ref b7), .val (.int (1 : Int32)), .val (.int (0 : Int32)), .val (.int (2 : Int32)), .unset] [(.int (2 : Int32))])) _
          refine XS.iconst X58.here hx rfl (hb hby at_121) ?_
          show Steps p.tables e below (T58.setTop (mkF m 122 #[.val (.int p1), .val (.int p2), .val (.int p3), .val (.int p4), .val (.int p5), .val (.int p6), .val (.ref b7), .val (.int (1 : Int32)), .val (.int (0 : Int32)), .val (.int (2 : Int32)), .unset] [(.int (2 : Int32)), (.int (2 : Int32))])) _
          refine XS.icmpNo X58.here hx rfl (hb hby at_122) rfl (teq (by decide +kernel : (2 : Int32) = (2 : Int32))).2 ?_
          show Steps p.tables e below (T58.setTop (mkF m 125 #[.val (.int p1), .val (.int p2), .val (.int p3), .val (.int p4), .val (.int p5), .val (.int p6), .val (.ref b7), .val (.int (1 : Int32)), .val (.int (0 : Int32)), .val (.int (2 : Int32)), .unset] [])) _
          refine XS.iloadN X58.here hx rfl (hb hby at_125) rfl ?_
          show Steps p.tables e below (T58.setTop (mkF m 126 #[.val (.int p1), .val (.int p2), .val (.int p3), .val (.int p4), .val (.int p5), .val (.int p6), .val (.ref b7), .val (.int (1 : Int32)), .val (.int (0 : Int32)), .val (.int (2 : Int32)), .unset] [(.int p3)])) _
          refine XS.istore X58.here hx rfl (hb hby at_126) rfl (l' := #[.val (.int p1), .val (.int p2), .val (.int p3), .val (.int p4), .val (.int p5), .val (.int p6), .val (.ref b7), .val (.int (1 : Int32)), .val (.int (0 : Int32)), .val (.int (2 : Int32)), .val (.int p3)]) rfl ?_
          show Steps p.tables e below (T58.setTop (mkF m 128 #[.val (.int p1), .val (.int p2), .val (.int p3), .val (.int p4), .val (.int p5), .val (.int p6), .val (.ref b7), .val (.int (1 : Int32)), .val (.int (0 : Int32)), .val (.int (2 : Int32)), .val (.int p3)] [])) _
          refine XS.goto X58.here hx rfl (pc0 := 128) (pc' := 134) rfl (hb hby at_128) (by decide) (by decide) ?_
          show Steps p.tables e below (T58.setTop (mkF m 134 #[.val (.int p1), .val (.int p2), .val (.int p3), .val (.int p4), .val (.int p5), .val (.int p6), .val (.ref b7), .val (.int (1 : Int32)), .val (.int (0 : Int32)), .val (.int (2 : Int32)), .val (.int p3)] [])) _
          refine XS.aload X58.here hx rfl (hb hby at_134) rfl rfl ?_
          show Steps p.tables e below (T58.setTop (mkF m 136 #[.val (.int p1), .val (.int p2), .val (.int p3), .val (.int p4), .val (.int p5), .val (.int p6), .val (.ref b7), .val (.int (1 : Int32)), .val (.int (0 : Int32)), .val (.int (2 : Int32)), .val (.int p3)] [(.ref b7)])) _
          refine XS.iload X58.here hx rfl (hb hby at_136) rfl ?_
          show Steps p.tables e below (T58.setTop (mkF m 138 #[.val (.int p1), .val (.int p2), .val (.int p3), .val (.int p4), .val (.int p5), .val (.int p6), .val (.ref b7), .val (.int (1 : Int32)), .val (.int (0 : Int32)), .val (.int (2 : Int32)), .val (.int p3)] [(.int (2 : Int32)), (.ref b7)])) _
          refine st173.trans ?_
          show Steps p.tables e below (T173.setTop (mkF m 141 #[.val (.int p1), .val (.int p2), .val (.int p3), .val (.int p4), .val (.int p5), .val (.int p6), .val (.ref b7), .val (.int (1 : Int32)), .val (.int (0 : Int32)), .val (.int (2 : Int32)), .val (.int p3)] [(.int p3)])) _
          refine XS.iload X173.here hx rfl (hb hby at_141) rfl ?_
          show Steps p.tables e below (T173.setTop (mkF m 143 #[.val (.int p1), .val (.int p2), .val (.int p3), .val (.int p4), .val (.int p5), .val (.int p6), .val (.ref b7), .val (.int (1 : Int32)), .val (.int (0 : Int32)), .val (.int (2 : Int32)), .val (.int p3)] [(.int p3), (.int p3)])) _
          refine XS.icmpNo X173.here hx rfl (hb hby at_143) rfl (teq (rfl : p3 = p3)).2 ?_
          show Steps p.tables e below (T173.setTop (mkF m 146 #[.val (.int p1), .val (.int p2), .val (.int p3), .val (.int p4), .val (.int p5), .val (.int p6), .val (.ref b7), .val (.int (1 : Int32)), .val (.int (0 : Int32)), .val (.int (2 : Int32)), .val (.int p3)] [])) _
          refine XS.iconst X173.here hx rfl (hb hby at_146) ?_
          show Steps p.tables e below (T173.setTop (mkF m 147 #[.val (.int p1), .val (.int p2), .val (.int p3), .val (.int p4), .val (.int p5), .val (.int p6), .val (.ref b7), .val (.int (1 : Int32)), .val (.int (0 : Int32)), .val (.int (2 : Int32)), .val (.int p3)] [(.int (1 : Int32))])) _
          refine XS.goto X173.here hx rfl (pc0 := 147) (pc' := 151) rfl (hb hby at_147) (by decide) (by decide) ?_
          show Steps p.tables e below (T173.setTop (mkF m 151 #[.val (.int p1), .val (.int p2), .val (.int p3), .val (.int p4), .val (.int p5), .val (.int p6), .val (.ref b7), .val (.int (1 : Int32)), .val (.int (0 : Int32)), .val (.int (2 : Int32)), .val (.int p3)] [(.int (1 : Int32))])) _
          exact retN X173 hx (t := .boolean) Bd.returns (by simp) (hb hby at_151) hr
        · show Q0 Z _ _ _ _ _ _ h0 n0 _ T173.heap _
          rw [u176]
          exact ⟨rfl, N173⟩
      · skip
        have f177 : Arv Z T58.heap b9 k10 (.array .int) (1 : Int32) [(.ref b23)] .null := (f57.keep Ku61 (ninS (Nat.ne_of_lt (Nat.lt_of_lt_of_le u14 u27)) (ninS (Ne.symm (Nat.ne_of_lt (Nat.lt_of_lt_of_le lt_b7 u13))) nin0)))
        obtain ⟨cq178, kq178, q178a, q178b, q178c⟩ := isOf hZ rfl u64
        obtain ⟨_, _, ⟨T178, L178, k178, n178⟩, -, X178, ⟨Lc178, hQ178, l178, y178, z178⟩, st178⟩ := X58.virtualBack hx (y := M_2) (z := M_2) hown (mvT hZ (hw _ (gw 22 rfl))) (mvT hZ (hw _ (gw 23 rfl))) (notFace_of_selects (args := #[]) (mvT hZ (hw _ (gw 25 rfl)))) (mvT hZ (hw _ (gw 25 rfl))) (mvT hZ (hw _ (gw 24 rfl))) (by decide) (backOf (W := 0) (rm4_10 l Z a0 hw [] b7 b9 b23 k10 p1 p2 p3 p4 k24 T58.heap n0  Ou61 u65 f177 u63) hZ (hw _ (gw 26 rfl)) (hw _ (gw 2 rfl)) (by decide) (by decide)) q178a q178c (g := (mkF m 138 #[.val (.int p1), .val (.int p2), .val (.int p3), .val (.int p4), .val (.int p5), .val (.int p6), .val (.ref b7), .val (.int (1 : Int32)), .val (.int (0 : Int32)), .val (.int (3 : Int32)), .val (.int p4)] [(.int (3 : Int32)), (.ref b7)])) rfl (by rw [hml]; rfl) (Steps.refl _) (argsL := [(.int (3 : Int32))]) (rest := []) (lenOf pd_2 rfl) rfl (by show 2 * 0 + _ ≤ _; exact Nat.le_of_eq rfl) (hb hby at_138) (fun _ _ => ⟨rfl, rfl, (by decide : 3 + 0 ≤ _), (by decide : 4099 + 0 ≤ _)⟩)
        dsimp only [Pt.U, Pt.locs, Pt.cells, Pt.slots] at X178 l178 y178 z178 st178 hQ178
        subst l178 y178 z178
        obtain ⟨rfl, u180, u181⟩ := hQ178
        have N178 := Fr.app N58 u180
        obtain ⟨fs, hr, hrun, hended, hW, hsame⟩ := X178.leave (v := some (.int (1 : Int32))) (fun h => by rw [Bd.returns] at h; cases h)
        refine ⟨_, _, pre161 _ ?_, hrun, hended, _, _, rfl, ?_, ⟨_, rfl⟩, hW, hsame.mono (by decide) (by decide)⟩
        · show Steps p.tables e below (T58.setTop (mkF m 60 #[.val (.int p1), .val (.int p2), .val (.int p3), .val (.int p4), .val (.int p5), .val (.int p6), .val (.ref b7), .val (.int (1 : Int32)), .val (.int (0 : Int32)), .unset, .unset] [(.int (3 : Int32)), (.int i159)])) _
          refine XS.iand X58.here hx rfl (hb hby at_60) rfl ?_
          show Steps p.tables e below (T58.setTop (mkF m 61 #[.val (.int p1), .val (.int p2), .val (.int p3), .val (.int p4), .val (.int p5), .val (.int p6), .val (.ref b7), .val (.int (1 : Int32)), .val (.int (0 : Int32)), .unset, .unset] [(.int (i159 &&& (3 : Int32)))])) _
          rw [hq160]
          show Steps p.tables e below (T58.setTop (mkF m 61 #[.val (.int p1), .val (.int p2), .val (.int p3), .val (.int p4), .val (.int p5), .val (.int p6), .val (.ref b7), .val (.int (1 : Int32)), .val (.int (0 : Int32)), .unset, .unset] [(.int (3 : Int32))])) _
          refine XS.istore X58.here hx rfl (hb hby at_61) rfl (l' := #[.val (.int p1), .val (.int p2), .val (.int p3), .val (.int p4), .val (.int p5), .val (.int p6), .val (.ref b7), .val (.int (1 : Int32)), .val (.int (0 : Int32)), .val (.int (3 : Int32)), .unset]) rfl ?_
          show Steps p.tables e below (T58.setTop (mkF m 63 #[.val (.int p1), .val (.int p2), .val (.int p3), .val (.int p4), .val (.int p5), .val (.int p6), .val (.ref b7), .val (.int (1 : Int32)), .val (.int (0 : Int32)), .val (.int (3 : Int32)), .unset] [])) _
          refine XS.iload X58.here hx rfl (hb hby at_63) rfl ?_
          show Steps p.tables e below (T58.setTop (mkF m 65 #[.val (.int p1), .val (.int p2), .val (.int p3), .val (.int p4), .val (.int p5), .val (.int p6), .val (.ref b7), .val (.int (1 : Int32)), .val (.int (0 : Int32)), .val (.int (3 : Int32)), .unset] [(.int (0 : Int32))])) _
          refine XS.ifYes X58.here hx rfl (pc0 := 65) (pc' := 77) rfl (hb hby at_65) rfl ((if0 _ _).trans (teq (by decide +kernel : (0 : Int32) = (0 : Int32))).1) (by decide) (by decide) ?_
          show Steps p.tables e below (T58.setTop (mkF m 77 #[.val (.int p1), .val (.int p2), .val (.int p3), .val (.int p4), .val (.int p5), .val (.int p6), .val (.ref b7), .val (.int (1 : Int32)), .val (.int (0 : Int32)), .val (.int (3 : Int32)), .unset] [])) _
          refine XS.iload X58.here hx rfl (hb hby at_77) rfl ?_
          show Steps p.tables e below (T58.setTop (mkF m 79 #[.val (.int p1), .val (.int p2), .val (.int p3), .val (.int p4), .val (.int p5), .val (.int p6), .val (.ref b7), .val (.int (1 : Int32)), .val (.int (0 : Int32)), .val (.int (3 : Int32)), .unset] [(.int (0 : Int32))])) _
          refine XS.ifYes X58.here hx rfl (pc0 := 79) (pc' := 96) rfl (hb hby at_79) rfl ((if0 _ _).trans (teq (by decide +kernel : (0 : Int32) = (0 : Int32))).1) (by decide) (by decide) ?_
          show Steps p.tables e below (T58.setTop (mkF m 96 #[.val (.int p1), .val (.int p2), .val (.int p3), .val (.int p4), .val (.int p5), .val (.int p6), .val (.ref b7), .val (.int (1 : Int32)), .val (.int (0 : Int32)), .val (.int (3 : Int32)), .unset] [])) _
          refine XS.iload X58.here hx rfl (hb hby at_96) rfl ?_
          show Steps p.tables e below (T58.setTop (mkF m 98 #[.val (.int p1), .val (.int p2), .val (.int p3), .val (.int p4), .val (.int p5), .val (.int p6), .val (.ref b7), .val (.int (1 : Int32)), .val (.int (0 : Int32)), .val (.int (3 : Int32)), .unset] [(.int (3 : Int32))])) _
          refine XS.ifYes X58.here hx rfl (pc0 := 98) (pc' := 107) rfl (hb hby at_98) rfl ((if0 _ _).trans (feq (by decide +kernel : ¬ ((3 : Int32) = (0 : Int32)))).2) (by decide) (by decide) ?_
          show Steps p.tables e below (T58.setTop (mkF m 107 #[.val (.int p1), .val (.int p2), .val (.int p3), .val (.int p4), .val (.int p5), .val (.int p6), .val (.ref b7), .val (.int (1 : Int32)), .val (.int (0 : Int32)), .val (.int (3 : Int32)), .unset] [])) _
          refine XS.iload X58.here hx rfl (hb hby at_107) rfl ?_
          show Steps p.tables e below (T58.setTop (mkF m 109 #[.val (.int p1), .val (.int p2), .val (.int p3), .val (.int p4), .val (.int p5), .val (.int p6), .val (.ref b7), .val (.int (1 : Int32)), .val (.int (0 : Int32)), .val (.int (3 : Int32)), .unset] [(.int (3 : Int32))])) _
          refine XS.iconst X58.here hx rfl (hb hby at_109) ?_
          show Steps p.tables e below (T58.setTop (mkF m 110 #[.val (.int p1), .val (.int p2), .val (.int p3), .val (.int p4), .val (.int p5), .val (.int p6), .val (.ref b7), .val (.int (1 : Int32)), .val (.int (0 : Int32)), .val (.int (3 : Int32)), .unset] [(.int (1 : Int32)), (.int (3 : Int32))])) _
          refine XS.icmpYes X58.here hx rfl (pc0 := 110) (pc' := 119) rfl (hb hby at_110) rfl (feq (by decide +kernel : ¬ ((3 : Int32) = (1 : Int32)))).2 (by decide) (by decide) ?_
          show Steps p.tables e below (T58.setTop (mkF m 119 #[.val (.int p1), .val (.int p2), .val (.int p3), .val (.int p4), .val (.int p5), .val (.int p6), .val (.ref b7), .val (.int (1 : Int32)), .val (.int (0 : Int32)), .val (.int (3 : Int32)), .unset] [])) _
          refine XS.iload X58.here hx rfl (hb hby at_119) rfl ?_
          show Steps p.tables e below (T58.setTop (mkF m 121 #[.val (.int p1), .val (.int p2), .val (.int p3), .val (.int p4), .val (.int p5), .val (.int p6), .val (.ref b7), .val (.int (1 : Int32)), .val (.int (0 : Int32)), .val (.int (3 : Int32)), .unset] [(.int (3 : Int32))])) _
          refine XS.iconst X58.here hx rfl (hb hby at_121) ?_
          show Steps p.tables e below (T58.setTop (mkF m 122 #[.val (.int p1), .val (.int p2), .val (.int p3), .val (.int p4), .val (.int p5), .val (.int p6), .val (.ref b7), .val (.int (1 : Int32)), .val (.int (0 : Int32)), .val (.int (3 : Int32)), .unset] [(.int (2 : Int32)), (.int (3 : Int32))])) _
          refine XS.icmpYes X58.here hx rfl (pc0 := 122) (pc' := 131) rfl (hb hby at_122) rfl (feq (by decide +kernel : ¬ ((3 : Int32) = (2 : Int32)))).2 (by decide) (by decide) ?_
          show Steps p.tables e below (T58.setTop (mkF m 131 #[.val (.int p1), .val (.int p2), .val (.int p3), .val (.int p4), .val (.int p5), .val (.int p6), .val (.ref b7), .val (.int (1 : Int32)), .val (.int (0 : Int32)), .val (.int (3 : Int32)), .unset] [])) _
          refine XS.iloadN X58.here hx rfl (hb hby at_131) rfl ?_
          show Steps p.tables e below (T58.setTop (mkF m 132 #[.val (.int p1), .val (.int p2), .val (.int p3), .val (.int p4), .val (.int p5), .val (.int p6), .val (.ref b7), .val (.int (1 : Int32)), .val (.int (0 : Int32)), .val (.int (3 : Int32)), .unset] [(.int p4)])) _
          refine XS.istore X58.here hx rfl (hb hby at_132) rfl (l' := #[.val (.int p1), .val (.int p2), .val (.int p3), .val (.int p4), .val (.int p5), .val (.int p6), .val (.ref b7), .val (.int (1 : Int32)), .val (.int (0 : Int32)), .val (.int (3 : Int32)), .val (.int p4)]) rfl ?_
          show Steps p.tables e below (T58.setTop (mkF m 134 #[.val (.int p1), .val (.int p2), .val (.int p3), .val (.int p4), .val (.int p5), .val (.int p6), .val (.ref b7), .val (.int (1 : Int32)), .val (.int (0 : Int32)), .val (.int (3 : Int32)), .val (.int p4)] [])) _
          refine XS.aload X58.here hx rfl (hb hby at_134) rfl rfl ?_
          show Steps p.tables e below (T58.setTop (mkF m 136 #[.val (.int p1), .val (.int p2), .val (.int p3), .val (.int p4), .val (.int p5), .val (.int p6), .val (.ref b7), .val (.int (1 : Int32)), .val (.int (0 : Int32)), .val (.int (3 : Int32)), .val (.int p4)] [(.ref b7)])) _
          refine XS.iload X58.here hx rfl (hb hby at_136) rfl ?_
          show Steps p.tables e below (T58.setTop (mkF m 138 #[.val (.int p1), .val (.int p2), .val (.int p3), .val (.int p4), .val (.int p5), .val (.int p6), .val (.ref b7), .val (.int (1 : Int32)), .val (.int (0 : Int32)), .val (.int (3 : Int32)), .val (.int p4)] [(.int (3 : Int32)), (.ref b7)])) _
          refine st178.trans ?_
          show Steps p.tables e below (T178.setTop (mkF m 141 #[.val (.int p1), .val (.int p2), .val (.int p3), .val (.int p4), .val (.int p5), .val (.int p6), .val (.ref b7), .val (.int (1 : Int32)), .val (.int (0 : Int32)), .val (.int (3 : Int32)), .val (.int p4)] [(.int p4)])) _
          refine XS.iload X178.here hx rfl (hb hby at_141) rfl ?_
          show Steps p.tables e below (T178.setTop (mkF m 143 #[.val (.int p1), .val (.int p2), .val (.int p3), .val (.int p4), .val (.int p5), .val (.int p6), .val (.ref b7), .val (.int (1 : Int32)), .val (.int (0 : Int32)), .val (.int (3 : Int32)), .val (.int p4)] [(.int p4), (.int p4)])) _
          refine XS.icmpNo X178.here hx rfl (hb hby at_143) rfl (teq (rfl : p4 = p4)).2 ?_
          show Steps p.tables e below (T178.setTop (mkF m 146 #[.val (.int p1), .val (.int p2), .val (.int p3), .val (.int p4), .val (.int p5), .val (.int p6), .val (.ref b7), .val (.int (1 : Int32)), .val (.int (0 : Int32)), .val (.int (3 : Int32)), .val (.int p4)] [])) _
          refine XS.iconst X178.here hx rfl (hb hby at_146) ?_
          show Steps p.tables e below (T178.setTop (mkF m 147 #[.val (.int p1), .val (.int p2), .val (.int p3), .val (.int p4), .val (.int p5), .val (.int p6), .val (.ref b7), .val (.int (1 : Int32)), .val (.int (0 : Int32)), .val (.int (3 : Int32)), .val (.int p4)] [(.int (1 : Int32))])) _
          refine XS.goto X178.here hx rfl (pc0 := 147) (pc' := 151) rfl (hb hby at_147) (by decide) (by decide) ?_
          show Steps p.tables e below (T178.setTop (mkF m 151 #[.val (.int p1), .val (.int p2), .val (.int p3), .val (.int p4), .val (.int p5), .val (.int p6), .val (.ref b7), .val (.int (1 : Int32)), .val (.int (0 : Int32)), .val (.int (3 : Int32)), .val (.int p4)] [(.int (1 : Int32))])) _
          exact retN X178 hx (t := .boolean) Bd.returns (by simp) (hb hby at_151) hr
        · show Q0 Z _ _ _ _ _ _ h0 n0 _ T178.heap _
          rw [u181]
          exact ⟨rfl, N178⟩
    · skip
      obtain ⟨i182, hi182⟩ : ∃ z, z = ((p5.toUInt32 >>> ((3 : Int32) &&& 31).toUInt32).toInt32) := ⟨_, rfl⟩
      have pre184 : ∀ t, Steps p.tables e below (T58.setTop (mkF m 60 #[.val (.int p1), .val (.int p2), .val (.int p3), .val (.int p4), .val (.int p5), .val (.int p6), .val (.ref b7), .val (.int (1 : Int32)), .val (.int (1 : Int32)), .unset, .unset] [(.int (3 : Int32)), (.int i182)])) t → Steps p.tables e below (s₁.setTop (entryFrame m #[(.int p1), (.int p2), (.int p3), (.int p4), (.int p5), (.int p6)] maxLocals)) t := by
        intro t kt
        refine pre157 t ?_
        show Steps p.tables e below (T58.setTop (mkF m 45 #[.val (.int p1), .val (.int p2), .val (.int p3), .val (.int p4), .val (.int p5), .val (.int p6), .val (.ref b7), .val (.int (1 : Int32)), .unset, .unset, .unset] [(.int i156)])) _
        refine XS.ifNo X58.here hx rfl (hb hby at_45) rfl ((if0 _ _).trans (feq hc158).1) ?_
        show Steps p.tables e below (T58.setTop (mkF m 48 #[.val (.int p1), .val (.int p2), .val (.int p3), .val (.int p4), .val (.int p5), .val (.int p6), .val (.ref b7), .val (.int (1 : Int32)), .unset, .unset, .unset] [])) _
        refine XS.iconst X58.here hx rfl (hb hby at_48) ?_
        show Steps p.tables e below (T58.setTop (mkF m 49 #[.val (.int p1), .val (.int p2), .val (.int p3), .val (.int p4), .val (.int p5), .val (.int p6), .val (.ref b7), .val (.int (1 : Int32)), .unset, .unset, .unset] [(.int (1 : Int32))])) _
        refine XS.goto X58.here hx rfl (pc0 := 49) (pc' := 53) rfl (hb hby at_49) (by decide) (by decide) ?_
        show Steps p.tables e below (T58.setTop (mkF m 53 #[.val (.int p1), .val (.int p2), .val (.int p3), .val (.int p4), .val (.int p5), .val (.int p6), .val (.ref b7), .val (.int (1 : Int32)), .unset, .unset, .unset] [(.int (1 : Int32))])) _
        refine XS.istore X58.here hx rfl (hb hby at_53) rfl (l' := #[.val (.int p1), .val (.int p2), .val (.int p3), .val (.int p4), .val (.int p5), .val (.int p6), .val (.ref b7), .val (.int (1 : Int32)), .val (.int (1 : Int32)), .unset, .unset]) rfl ?_
        show Steps p.tables e below (T58.setTop (mkF m 55 #[.val (.int p1), .val (.int p2), .val (.int p3), .val (.int p4), .val (.int p5), .val (.int p6), .val (.ref b7), .val (.int (1 : Int32)), .val (.int (1 : Int32)), .unset, .unset] [])) _
        refine XS.iload X58.here hx rfl (hb hby at_55) rfl ?_
        show Steps p.tables e below (T58.setTop (mkF m 57 #[.val (.int p1), .val (.int p2), .val (.int p3), .val (.int p4), .val (.int p5), .val (.int p6), .val (.ref b7), .val (.int (1 : Int32)), .val (.int (1 : Int32)), .unset, .unset] [(.int p5)])) _
        refine XS.iconst X58.here hx rfl (hb hby at_57) ?_
        show Steps p.tables e below (T58.setTop (mkF m 58 #[.val (.int p1), .val (.int p2), .val (.int p3), .val (.int p4), .val (.int p5), .val (.int p6), .val (.ref b7), .val (.int (1 : Int32)), .val (.int (1 : Int32)), .unset, .unset] [(.int (3 : Int32)), (.int p5)])) _
        refine XS.iushr X58.here hx rfl (hb hby at_58) rfl ?_
        show Steps p.tables e below (T58.setTop (mkF m 59 #[.val (.int p1), .val (.int p2), .val (.int p3), .val (.int p4), .val (.int p5), .val (.int p6), .val (.ref b7), .val (.int (1 : Int32)), .val (.int (1 : Int32)), .unset, .unset] [(.int ((p5.toUInt32 >>> ((3 : Int32) &&& 31).toUInt32).toInt32))])) _
        rw [← hi182]
        show Steps p.tables e below (T58.setTop (mkF m 59 #[.val (.int p1), .val (.int p2), .val (.int p3), .val (.int p4), .val (.int p5), .val (.int p6), .val (.ref b7), .val (.int (1 : Int32)), .val (.int (1 : Int32)), .unset, .unset] [(.int i182)])) _
        refine XS.iconst X58.here hx rfl (hb hby at_59) ?_
        show Steps p.tables e below (T58.setTop (mkF m 60 #[.val (.int p1), .val (.int p2), .val (.int p3), .val (.int p4), .val (.int p5), .val (.int p6), .val (.ref b7), .val (.int (1 : Int32)), .val (.int (1 : Int32)), .unset, .unset] [(.int (3 : Int32)), (.int i182)])) _
        exact kt
      rcases (own_and3 i182) with hq183 | hq183 | hq183 | hq183
      · skip
        have f185 : Arv Z T58.heap b9 k10 (.array .int) (1 : Int32) [(.ref b23)] .null := (f57.keep Ku61 (ninS (Nat.ne_of_lt (Nat.lt_of_lt_of_le u14 u27)) (ninS (Ne.symm (Nat.ne_of_lt (Nat.lt_of_lt_of_le lt_b7 u13))) nin0)))
        obtain ⟨cq186, kq186, q186a, q186b, q186c⟩ := isOf hZ rfl u64
        obtain ⟨_, _, ⟨T186, L186, k186, n186⟩, -, X186, ⟨Lc186, hQ186, l186, y186, z186⟩, st186⟩ := X58.virtualBack hx (y := M_3) (z := M_3) hown (mvT hZ (hw _ (gw 27 rfl))) (mvT hZ (hw _ (gw 28 rfl))) (notFace_of_selects (args := #[]) (mvT hZ (hw _ (gw 30 rfl)))) (mvT hZ (hw _ (gw 30 rfl))) (mvT hZ (hw _ (gw 29 rfl))) (by decide) (backOf (W := 0) (rm5_12 l Z a0 hw [] b7 p6 b9 b23 k10 p1 p2 p3 p4 k24 T58.heap n0  Ou61 u65 f185 u63 g_b23 u62) hZ (hw _ (gw 31 rfl)) (hw _ (gw 2 rfl)) (by decide) (by decide)) q186a q186c (g := (mkF m 74 #[.val (.int p1), .val (.int p2), .val (.int p3), .val (.int p4), .val (.int p5), .val (.int p6), .val (.ref b7), .val (.int (1 : Int32)), .val (.int (1 : Int32)), .val (.int (0 : Int32)), .unset] [(.int p6), (.int (1 : Int32)), (.ref b7)])) rfl (by rw [hml]; rfl) (Steps.refl _) (argsL := [(.int (1 : Int32)), (.int p6)]) (rest := []) (lenOf pd_3 rfl) rfl (by show 2 * 0 + _ ≤ _; exact Nat.le_of_eq rfl) (hb hby at_74) (fun _ _ => ⟨rfl, rfl, (by decide : 3 + 0 ≤ _), (by decide : 4099 + 0 ≤ _)⟩)
        dsimp only [Pt.U, Pt.locs, Pt.cells, Pt.slots] at X186 l186 y186 z186 st186 hQ186
        subst l186 y186 z186
        obtain ⟨rfl, u188, Ku189, u190, u191⟩ := hQ186
        have Ou189 : Old Z n0 T186.heap := Ou61.keep Ku189 (allS g_b23 all0)
        have N186 := Fr.app N58 u188
        have f192 : Fld Z T186.heap b7 "com/example/vestry/vestry/Ints" "blocks" "[[I" (.ref b9) := (u65.keep Ku189 (ninS (Nat.ne_of_lt (Nat.lt_of_lt_of_le (Nat.lt_of_lt_of_le lt_b7 Ku15.1) u27)) nin0))
        have f193 : Arv Z T186.heap b9 k10 (.array .int) (1 : Int32) [(.ref b23)] .null := (f185.keep Ku189 (ninS (Nat.ne_of_lt (Nat.lt_of_lt_of_le u14 u27)) nin0))
        have f195 : Exa Z T186.heap b7 "com/example/vestry/vestry/Ints" := (u64.keep Ku189)
        obtain ⟨cq194, kq194, q194a, q194b, q194c⟩ := isOf hZ rfl f195
        obtain ⟨_, _, ⟨T194, L194, k194, n194⟩, -, X194, ⟨Lc194, hQ194, l194, y194, z194⟩, st194⟩ := X186.virtualBack hx (y := M_2) (z := M_2) hown (mvT hZ (hw _ (gw 22 rfl))) (mvT hZ (hw _ (gw 23 rfl))) (notFace_of_selects (args := #[]) (mvT hZ (hw _ (gw 25 rfl)))) (mvT hZ (hw _ (gw 25 rfl))) (mvT hZ (hw _ (gw 24 rfl))) (by decide) (backOf (W := 0) (rm4_7 l Z a0 hw [] b7 b9 b23 k10 p1 p6 p3 p4 k24 T186.heap n0  Ou189 f192 f193 u191) hZ (hw _ (gw 26 rfl)) (hw _ (gw 2 rfl)) (by decide) (by decide)) q194a q194c (g := (mkF m 138 #[.val (.int p1), .val (.int p2), .val (.int p3), .val (.int p4), .val (.int p5), .val (.int p6), .val (.ref b7), .val (.int (1 : Int32)), .val (.int (1 : Int32)), .val (.int (0 : Int32)), .val (.int p1)] [(.int (0 : Int32)), (.ref b7)])) rfl (by rw [hml]; rfl) (Steps.refl _) (argsL := [(.int (0 : Int32))]) (rest := []) (lenOf pd_2 rfl) rfl (by show 2 * 0 + _ ≤ _; exact Nat.le_of_eq rfl) (hb hby at_138) (fun _ _ => ⟨rfl, rfl, (by decide : 3 + 0 ≤ _), (by decide : 4099 + 0 ≤ _)⟩)
        dsimp only [Pt.U, Pt.locs, Pt.cells, Pt.slots] at X194 l194 y194 z194 st194 hQ194
        subst l194 y194 z194
        obtain ⟨rfl, u197, u198⟩ := hQ194
        have N194 := Fr.app N186 u197
        obtain ⟨fs, hr, hrun, hended, hW, hsame⟩ := X194.leave (v := some (.int (1 : Int32))) (fun h => by rw [Bd.returns] at h; cases h)
        refine ⟨_, _, pre184 _ ?_, hrun, hended, _, _, rfl, ?_, ⟨_, rfl⟩, hW, hsame.mono (by decide) (by decide)⟩
        · show Steps p.tables e below (T58.setTop (mkF m 60 #[.val (.int p1), .val (.int p2), .val (.int p3), .val (.int p4), .val (.int p5), .val (.int p6), .val (.ref b7), .val (.int (1 : Int32)), .val (.int (1 : Int32)), .unset, .unset] [(.int (3 : Int32)), (.int i182)])) _
          refine XS.iand X58.here hx rfl (hb hby at_60) rfl ?_
          show Steps p.tables e below (T58.setTop (mkF m 61 #[.val (.int p1), .val (.int p2), .val (.int p3), .val (.int p4), .val (.int p5), .val (.int p6), .val (.ref b7), .val (.int (1 : Int32)), .val (.int (1 : Int32)), .unset, .unset] [(.int (i182 &&& (3 : Int32)))])) _
          rw [hq183]
          show Steps p.tables e below (T58.setTop (mkF m 61 #[.val (.int p1), .val (.int p2), .val (.int p3), .val (.int p4), .val (.int p5), .val (.int p6), .val (.ref b7), .val (.int (1 : Int32)), .val (.int (1 : Int32)), .unset, .unset] [(.int (0 : Int32))])) _
          refine XS.istore X58.here hx rfl (hb hby at_61) rfl (l' := #[.val (.int p1), .val (.int p2), .val (.int p3), .val (.int p4), .val (.int p5), .val (.int p6), .val (.ref b7), .val (.int (1 : Int32)), .val (.int (1 : Int32)), .val (.int (0 : Int32)), .unset]) rfl ?_
          show Steps p.tables e below (T58.setTop (mkF m 63 #[.val (.int p1), .val (.int p2), .val (.int p3), .val (.int p4), .val (.int p5), .val (.int p6), .val (.ref b7), .val (.int (1 : Int32)), .val (.int (1 : Int32)), .val (.int (0 : Int32)), .unset] [])) _
          refine XS.iload X58.here hx rfl (hb hby at_63) rfl ?_
          show Steps p.tables e below (T58.setTop (mkF m 65 #[.val (.int p1), .val (.int p2), .val (.int p3), .val (.int p4), .val (.int p5), .val (.int p6), .val (.ref b7), .val (.int (1 : Int32)), .val (.int (1 : Int32)), .val (.int (0 : Int32)), .unset] [(.int (1 : Int32))])) _
          refine XS.ifNo X58.here hx rfl (hb hby at_65) rfl ((if0 _ _).trans (feq (by decide +kernel : ¬ ((1 : Int32) = (0 : Int32)))).1) ?_
          show Steps p.tables e below (T58.setTop (mkF m 68 #[.val (.int p1), .val (.int p2), .val (.int p3), .val (.int p4), .val (.int p5), .val (.int p6), .val (.ref b7), .val (.int (1 : Int32)), .val (.int (1 : Int32)), .val (.int (0 : Int32)), .unset] [])) _
          refine XS.aload X58.here hx rfl (hb hby at_68) rfl rfl ?_
          show Steps p.tables e below (T58.setTop (mkF m 70 #[.val (.int p1), .val (.int p2), .val (.int p3), .val (.int p4), .val (.int p5), .val (.int p6), .val (.ref b7), .val (.int (1 : Int32)), .val (.int (1 : Int32)), .val (.int (0 : Int32)), .unset] [(.ref b7)])) _
          refine XS.iload X58.here hx rfl (hb hby at_70) rfl ?_
          show Steps p.tables e below (T58.setTop (mkF m 72 #[.val (.int p1), .val (.int p2), .val (.int p3), .val (.int p4), .val (.int p5), .val (.int p6), .val (.ref b7), .val (.int (1 : Int32)), .val (.int (1 : Int32)), .val (.int (0 : Int32)), .unset] [(.int (1 : Int32)), (.ref b7)])) _
          refine XS.iload X58.here hx rfl (hb hby at_72) rfl ?_
          show Steps p.tables e below (T58.setTop (mkF m 74 #[.val (.int p1), .val (.int p2), .val (.int p3), .val (.int p4), .val (.int p5), .val (.int p6), .val (.ref b7), .val (.int (1 : Int32)), .val (.int (1 : Int32)), .val (.int (0 : Int32)), .unset] [(.int p6), (.int (1 : Int32)), (.ref b7)])) _
          refine st186.trans ?_
          show Steps p.tables e below (T186.setTop (mkF m 77 #[.val (.int p1), .val (.int p2), .val (.int p3), .val (.int p4), .val (.int p5), .val (.int p6), .val (.ref b7), .val (.int (1 : Int32)), .val (.int (1 : Int32)), .val (.int (0 : Int32)), .unset] [])) _
          refine XS.iload X186.here hx rfl (hb hby at_77) rfl ?_
          show Steps p.tables e below (T186.setTop (mkF m 79 #[.val (.int p1), .val (.int p2), .val (.int p3), .val (.int p4), .val (.int p5), .val (.int p6), .val (.ref b7), .val (.int (1 : Int32)), .val (.int (1 : Int32)), .val (.int (0 : Int32)), .unset] [(.int (1 : Int32))])) _
          refine XS.ifNo X186.here hx rfl (hb hby at_79) rfl ((if0 _ _).trans (feq (by decide +kernel : ¬ ((1 : Int32) = (0 : Int32)))).1) ?_
          show Steps p.tables e below (T186.setTop (mkF m 82 #[.val (.int p1), .val (.int p2), .val (.int p3), .val (.int p4), .val (.int p5), .val (.int p6), .val (.ref b7), .val (.int (1 : Int32)), .val (.int (1 : Int32)), .val (.int (0 : Int32)), .unset] [])) _
          refine XS.iload X186.here hx rfl (hb hby at_82) rfl ?_
          show Steps p.tables e below (T186.setTop (mkF m 84 #[.val (.int p1), .val (.int p2), .val (.int p3), .val (.int p4), .val (.int p5), .val (.int p6), .val (.ref b7), .val (.int (1 : Int32)), .val (.int (1 : Int32)), .val (.int (0 : Int32)), .unset] [(.int (0 : Int32))])) _
          refine XS.iload X186.here hx rfl (hb hby at_84) rfl ?_
          show Steps p.tables e below (T186.setTop (mkF m 86 #[.val (.int p1), .val (.int p2), .val (.int p3), .val (.int p4), .val (.int p5), .val (.int p6), .val (.ref b7), .val (.int (1 : Int32)), .val (.int (1 : Int32)), .val (.int (0 : Int32)), .unset] [(.int (1 : Int32)), (.int (0 : Int32))])) _
          refine XS.icmpYes X186.here hx rfl (pc0 := 86) (pc' := 96) rfl (hb hby at_86) rfl (feq (by decide +kernel : ¬ ((0 : Int32) = (1 : Int32)))).2 (by decide) (by decide) ?_
          show Steps p.tables e below (T186.setTop (mkF m 96 #[.val (.int p1), .val (.int p2), .val (.int p3), .val (.int p4), .val (.int p5), .val (.int p6), .val (.ref b7), .val (.int (1 : Int32)), .val (.int (1 : Int32)), .val (.int (0 : Int32)), .unset] [])) _
          refine XS.iload X186.here hx rfl (hb hby at_96) rfl ?_
          show Steps p.tables e below (T186.setTop (mkF m 98 #[.val (.int p1), .val (.int p2), .val (.int p3), .val (.int p4), .val (.int p5), .val (.int p6), .val (.ref b7), .val (.int (1 : Int32)), .val (.int (1 : Int32)), .val (.int (0 : Int32)), .unset] [(.int (0 : Int32))])) _
          refine XS.ifNo X186.here hx rfl (hb hby at_98) rfl ((if0 _ _).trans (teq (by decide +kernel : (0 : Int32) = (0 : Int32))).2) ?_
          show Steps p.tables e below (T186.setTop (mkF m 101 #[.val (.int p1), .val (.int p2), .val (.int p3), .val (.int p4), .val (.int p5), .val (.int p6), .val (.ref b7), .val (.int (1 : Int32)), .val (.int (1 : Int32)), .val (.int (0 : Int32)), .unset] [])) _
          refine XS.iloadN X186.here hx rfl (hb hby at_101) rfl ?_
          show Steps p.tables e below (T186.setTop (mkF m 102 #[.val (.int p1), .val (.int p2), .val (.int p3), .val (.int p4), .val (.int p5), .val (.int p6), .val (.ref b7), .val (.int (1 : Int32)), .val (.int (1 : Int32)), .val (.int (0 : Int32)), .unset] [(.int p1)])) _
          refine XS.istore X186.here hx rfl (hb hby at_102) rfl (l' := #[.val (.int p1), .val (.int p2), .val (.int p3), .val (.int p4), .val (.int p5), .val (.int p6), .val (.ref b7), .val (.int (1 : Int32)), .val (.int (1 : Int32)), .val (.int (0 : Int32)), .val (.int p1)]) rfl ?_
          show Steps p.tables e below (T186.setTop (mkF m 104 #[.val (.int p1), .val (.int p2), .val (.int p3), .val (.int p4), .val (.int p5), .val (.int p6), .val (.ref b7), .val (.int (1 : Int32)), .val (.int (1 : Int32)), .val (.int (0 : Int32)), .val (.int p1)] [])) _
          refine XS.goto X186.here hx rfl (pc0 := 104) (pc' := 134) rfl (hb hby at_104) (by decide) (by decide) ?_
          show Steps p.tables e below (T186.setTop (mkF m 134 #[.val (.int p1), .val (.int p2), .val (.int p3), .val (.int p4), .val (.int p5), .val (.int p6), .val (.ref b7), .val (.int (1 : Int32)), .val (.int (1 : Int32)), .val (.int (0 : Int32)), .val (.int p1)] [])) _
          refine XS.aload X186.here hx rfl (hb hby at_134) rfl rfl ?_
          show Steps p.tables e below (T186.setTop (mkF m 136 #[.val (.int p1), .val (.int p2), .val (.int p3), .val (.int p4), .val (.int p5), .val (.int p6), .val (.ref b7), .val (.int (1 : Int32)), .val (.int (1 : Int32)), .val (.int (0 : Int32)), .val (.int p1)] [(.ref b7)])) _
          refine XS.iload X186.here hx rfl (hb hby at_136) rfl ?_
          show Steps p.tables e below (T186.setTop (mkF m 138 #[.val (.int p1), .val (.int p2), .val (.int p3), .val (.int p4), .val (.int p5), .val (.int p6), .val (.ref b7), .val (.int (1 : Int32)), .val (.int (1 : Int32)), .val (.int (0 : Int32)), .val (.int p1)] [(.int (0 : Int32)), (.ref b7)])) _
          refine st194.trans ?_
          show Steps p.tables e below (T194.setTop (mkF m 141 #[.val (.int p1), .val (.int p2), .val (.int p3), .val (.int p4), .val (.int p5), .val (.int p6), .val (.ref b7), .val (.int (1 : Int32)), .val (.int (1 : Int32)), .val (.int (0 : Int32)), .val (.int p1)] [(.int p1)])) _
          refine XS.iload X194.here hx rfl (hb hby at_141) rfl ?_
          show Steps p.tables e below (T194.setTop (mkF m 143 #[.val (.int p1), .val (.int p2), .val (.int p3), .val (.int p4), .val (.int p5), .val (.int p6), .val (.ref b7), .val (.int (1 : Int32)), .val (.int (1 : Int32)), .val (.int (0 : Int32)), .val (.int p1)] [(.int p1), (.int p1)])) _
          refine XS.icmpNo X194.here hx rfl (hb hby at_143) rfl (teq (rfl : p1 = p1)).2 ?_
          show Steps p.tables e below (T194.setTop (mkF m 146 #[.val (.int p1), .val (.int p2), .val (.int p3), .val (.int p4), .val (.int p5), .val (.int p6), .val (.ref b7), .val (.int (1 : Int32)), .val (.int (1 : Int32)), .val (.int (0 : Int32)), .val (.int p1)] [])) _
          refine XS.iconst X194.here hx rfl (hb hby at_146) ?_
          show Steps p.tables e below (T194.setTop (mkF m 147 #[.val (.int p1), .val (.int p2), .val (.int p3), .val (.int p4), .val (.int p5), .val (.int p6), .val (.ref b7), .val (.int (1 : Int32)), .val (.int (1 : Int32)), .val (.int (0 : Int32)), .val (.int p1)] [(.int (1 : Int32))])) _
          refine XS.goto X194.here hx rfl (pc0 := 147) (pc' := 151) rfl (hb hby at_147) (by decide) (by decide) ?_
          show Steps p.tables e below (T194.setTop (mkF m 151 #[.val (.int p1), .val (.int p2), .val (.int p3), .val (.int p4), .val (.int p5), .val (.int p6), .val (.ref b7), .val (.int (1 : Int32)), .val (.int (1 : Int32)), .val (.int (0 : Int32)), .val (.int p1)] [(.int (1 : Int32))])) _
          exact retN X194 hx (t := .boolean) Bd.returns (by simp) (hb hby at_151) hr
        · show Q0 Z _ _ _ _ _ _ h0 n0 _ T194.heap _
          rw [u198]
          exact ⟨rfl, N194⟩
      · skip
        have f199 : Arv Z T58.heap b9 k10 (.array .int) (1 : Int32) [(.ref b23)] .null := (f57.keep Ku61 (ninS (Nat.ne_of_lt (Nat.lt_of_lt_of_le u14 u27)) (ninS (Ne.symm (Nat.ne_of_lt (Nat.lt_of_lt_of_le lt_b7 u13))) nin0)))
        obtain ⟨cq200, kq200, q200a, q200b, q200c⟩ := isOf hZ rfl u64
        obtain ⟨_, _, ⟨T200, L200, k200, n200⟩, -, X200, ⟨Lc200, hQ200, l200, y200, z200⟩, st200⟩ := X58.virtualBack hx (y := M_3) (z := M_3) hown (mvT hZ (hw _ (gw 27 rfl))) (mvT hZ (hw _ (gw 28 rfl))) (notFace_of_selects (args := #[]) (mvT hZ (hw _ (gw 30 rfl)))) (mvT hZ (hw _ (gw 30 rfl))) (mvT hZ (hw _ (gw 29 rfl))) (by decide) (backOf (W := 0) (rm5_12 l Z a0 hw [] b7 p6 b9 b23 k10 p1 p2 p3 p4 k24 T58.heap n0  Ou61 u65 f199 u63 g_b23 u62) hZ (hw _ (gw 31 rfl)) (hw _ (gw 2 rfl)) (by decide) (by decide)) q200a q200c (g := (mkF m 74 #[.val (.int p1), .val (.int p2), .val (.int p3), .val (.int p4), .val (.int p5), .val (.int p6), .val (.ref b7), .val (.int (1 : Int32)), .val (.int (1 : Int32)), .val (.int (1 : Int32)), .unset] [(.int p6), (.int (1 : Int32)), (.ref b7)])) rfl (by rw [hml]; rfl) (Steps.refl _) (argsL := [(.int (1 : Int32)), (.int p6)]) (rest := []) (lenOf pd_3 rfl) rfl (by show 2 * 0 + _ ≤ _; exact Nat.le_of_eq rfl) (hb hby at_74) (fun _ _ => ⟨rfl, rfl, (by decide : 3 + 0 ≤ _), (by decide : 4099 + 0 ≤ _)⟩)
        dsimp only [Pt.U, Pt.locs, Pt.cells, Pt.slots] at X200 l200 y200 z200 st200 hQ200
        subst l200 y200 z200
        obtain ⟨rfl, u202, Ku203, u204, u205⟩ := hQ200
        have Ou203 : Old Z n0 T200.heap := Ou61.keep Ku203 (allS g_b23 all0)
        have N200 := Fr.app N58 u202
        have f206 : Fld Z T200.heap b7 "com/example/vestry/vestry/Ints" "blocks" "[[I" (.ref b9) := (u65.keep Ku203 (ninS (Nat.ne_of_lt (Nat.lt_of_lt_of_le (Nat.lt_of_lt_of_le lt_b7 Ku15.1) u27)) nin0))
        have f207 : Arv Z T200.heap b9 k10 (.array .int) (1 : Int32) [(.ref b23)] .null := (f199.keep Ku203 (ninS (Nat.ne_of_lt (Nat.lt_of_lt_of_le u14 u27)) nin0))
        have f209 : Exa Z T200.heap b7 "com/example/vestry/vestry/Ints" := (u64.keep Ku203)
        obtain ⟨cq208, kq208, q208a, q208b, q208c⟩ := isOf hZ rfl f209
        obtain ⟨_, _, ⟨T208, L208, k208, n208⟩, -, X208, ⟨Lc208, hQ208, l208, y208, z208⟩, st208⟩ := X200.virtualBack hx (y := M_2) (z := M_2) hown (mvT hZ (hw _ (gw 22 rfl))) (mvT hZ (hw _ (gw 23 rfl))) (notFace_of_selects (args := #[]) (mvT hZ (hw _ (gw 25 rfl)))) (mvT hZ (hw _ (gw 25 rfl))) (mvT hZ (hw _ (gw 24 rfl))) (by decide) (backOf (W := 0) (rm4_8 l Z a0 hw [] b7 b9 b23 k10 p1 p6 p3 p4 k24 T200.heap n0  Ou203 f206 f207 u205) hZ (hw _ (gw 26 rfl)) (hw _ (gw 2 rfl)) (by decide) (by decide)) q208a q208c (g := (mkF m 138 #[.val (.int p1), .val (.int p2), .val (.int p3), .val (.int p4), .val (.int p5), .val (.int p6), .val (.ref b7), .val (.int (1 : Int32)), .val (.int (1 : Int32)), .val (.int (1 : Int32)), .val (.int p6)] [(.int (1 : Int32)), (.ref b7)])) rfl (by rw [hml]; rfl) (Steps.refl _) (argsL := [(.int (1 : Int32))]) (rest := []) (lenOf pd_2 rfl) rfl (by show 2 * 0 + _ ≤ _; exact Nat.le_of_eq rfl) (hb hby at_138) (fun _ _ => ⟨rfl, rfl, (by decide : 3 + 0 ≤ _), (by decide : 4099 + 0 ≤ _)⟩)
        dsimp only [Pt.U, Pt.locs, Pt.cells, Pt.slots] at X208 l208 y208 z208 st208 hQ208
        subst l208 y208 z208
        obtain ⟨rfl, u211, u212⟩ := hQ208
        have N208 := Fr.app N200 u211
        obtain ⟨fs, hr, hrun, hended, hW, hsame⟩ := X208.leave (v := some (.int (1 : Int32))) (fun h => by rw [Bd.returns] at h; cases h)
        refine ⟨_, _, pre184 _ ?_, hrun, hended, _, _, rfl, ?_, ⟨_, rfl⟩, hW, hsame.mono (by decide) (by decide)⟩
        · show Steps p.tables e below (T58.setTop (mkF m 60 #[.val (.int p1), .val (.int p2), .val (.int p3), .val (.int p4), .val (.int p5), .val (.int p6), .val (.ref b7), .val (.int (1 : Int32)), .val (.int (1 : Int32)), .unset, .unset] [(.int (3 : Int32)), (.int i182)])) _
          refine XS.iand X58.here hx rfl (hb hby at_60) rfl ?_
          show Steps p.tables e below (T58.setTop (mkF m 61 #[.val (.int p1), .val (.int p2), .val (.int p3), .val (.int p4), .val (.int p5), .val (.int p6), .val (.ref b7), .val (.int (1 : Int32)), .val (.int (1 : Int32)), .unset, .unset] [(.int (i182 &&& (3 : Int32)))])) _
          rw [hq183]
          show Steps p.tables e below (T58.setTop (mkF m 61 #[.val (.int p1), .val (.int p2), .val (.int p3), .val (.int p4), .val (.int p5), .val (.int p6), .val (.ref b7), .val (.int (1 : Int32)), .val (.int (1 : Int32)), .unset, .unset] [(.int (1 : Int32))])) _
          refine XS.istore X58.here hx rfl (hb hby at_61) rfl (l' := #[.val (.int p1), .val (.int p2), .val (.int p3), .val (.int p4), .val (.int p5), .val (.int p6), .val (.ref b7), .val (.int (1 : Int32)), .val (.int (1 : Int32)), .val (.int (1 : Int32)), .unset]) rfl ?_
          show Steps p.tables e below (T58.setTop (mkF m 63 #[.val (.int p1), .val (.int p2), .val (.int p3), .val (.int p4), .val (.int p5), .val (.int p6), .val (.ref b7), .val (.int (1 : Int32)), .val (.int (1 : Int32)), .val (.int (1 : Int32)), .unset] [])) _
          refine XS.iload X58.here hx rfl (hb hby at_63) rfl ?_
          show Steps p.tables e below (T58.setTop (mkF m 65 #[.val (.int p1), .val (.int p2), .val (.int p3), .val (.int p4), .val (.int p5), .val (.int p6), .val (.ref b7), .val (.int (1 : Int32)), .val (.int (1 : Int32)), .val (.int (1 : Int32)), .unset] [(.int (1 : Int32))])) _
          refine XS.ifNo X58.here hx rfl (hb hby at_65) rfl ((if0 _ _).trans (feq (by decide +kernel : ¬ ((1 : Int32) = (0 : Int32)))).1) ?_
          show Steps p.tables e below (T58.setTop (mkF m 68 #[.val (.int p1), .val (.int p2), .val (.int p3), .val (.int p4), .val (.int p5), .val (.int p6), .val (.ref b7), .val (.int (1 : Int32)), .val (.int (1 : Int32)), .val (.int (1 : Int32)), .unset] [])) _
          refine XS.aload X58.here hx rfl (hb hby at_68) rfl rfl ?_
          show Steps p.tables e below (T58.setTop (mkF m 70 #[.val (.int p1), .val (.int p2), .val (.int p3), .val (.int p4), .val (.int p5), .val (.int p6), .val (.ref b7), .val (.int (1 : Int32)), .val (.int (1 : Int32)), .val (.int (1 : Int32)), .unset] [(.ref b7)])) _
          refine XS.iload X58.here hx rfl (hb hby at_70) rfl ?_
          show Steps p.tables e below (T58.setTop (mkF m 72 #[.val (.int p1), .val (.int p2), .val (.int p3), .val (.int p4), .val (.int p5), .val (.int p6), .val (.ref b7), .val (.int (1 : Int32)), .val (.int (1 : Int32)), .val (.int (1 : Int32)), .unset] [(.int (1 : Int32)), (.ref b7)])) _
          refine XS.iload X58.here hx rfl (hb hby at_72) rfl ?_
          show Steps p.tables e below (T58.setTop (mkF m 74 #[.val (.int p1), .val (.int p2), .val (.int p3), .val (.int p4), .val (.int p5), .val (.int p6), .val (.ref b7), .val (.int (1 : Int32)), .val (.int (1 : Int32)), .val (.int (1 : Int32)), .unset] [(.int p6), (.int (1 : Int32)), (.ref b7)])) _
          refine st200.trans ?_
          show Steps p.tables e below (T200.setTop (mkF m 77 #[.val (.int p1), .val (.int p2), .val (.int p3), .val (.int p4), .val (.int p5), .val (.int p6), .val (.ref b7), .val (.int (1 : Int32)), .val (.int (1 : Int32)), .val (.int (1 : Int32)), .unset] [])) _
          refine XS.iload X200.here hx rfl (hb hby at_77) rfl ?_
          show Steps p.tables e below (T200.setTop (mkF m 79 #[.val (.int p1), .val (.int p2), .val (.int p3), .val (.int p4), .val (.int p5), .val (.int p6), .val (.ref b7), .val (.int (1 : Int32)), .val (.int (1 : Int32)), .val (.int (1 : Int32)), .unset] [(.int (1 : Int32))])) _
          refine XS.ifNo X200.here hx rfl (hb hby at_79) rfl ((if0 _ _).trans (feq (by decide +kernel : ¬ ((1 : Int32) = (0 : Int32)))).1) ?_
          show Steps p.tables e below (T200.setTop (mkF m 82 #[.val (.int p1), .val (.int p2), .val (.int p3), .val (.int p4), .val (.int p5), .val (.int p6), .val (.ref b7), .val (.int (1 : Int32)), .val (.int (1 : Int32)), .val (.int (1 : Int32)), .unset] [])) _
          refine XS.iload X200.here hx rfl (hb hby at_82) rfl ?_
          show Steps p.tables e below (T200.setTop (mkF m 84 #[.val (.int p1), .val (.int p2), .val (.int p3), .val (.int p4), .val (.int p5), .val (.int p6), .val (.ref b7), .val (.int (1 : Int32)), .val (.int (1 : Int32)), .val (.int (1 : Int32)), .unset] [(.int (1 : Int32))])) _
          refine XS.iload X200.here hx rfl (hb hby at_84) rfl ?_
          show Steps p.tables e below (T200.setTop (mkF m 86 #[.val (.int p1), .val (.int p2), .val (.int p3), .val (.int p4), .val (.int p5), .val (.int p6), .val (.ref b7), .val (.int (1 : Int32)), .val (.int (1 : Int32)), .val (.int (1 : Int32)), .unset] [(.int (1 : Int32)), (.int (1 : Int32))])) _
          refine XS.icmpNo X200.here hx rfl (hb hby at_86) rfl (teq (by decide +kernel : (1 : Int32) = (1 : Int32))).2 ?_
          show Steps p.tables e below (T200.setTop (mkF m 89 #[.val (.int p1), .val (.int p2), .val (.int p3), .val (.int p4), .val (.int p5), .val (.int p6), .val (.ref b7), .val (.int (1 : Int32)), .val (.int (1 : Int32)), .val (.int (1 : Int32)), .unset] [])) _
          refine XS.iload X200.here hx rfl (hb hby at_89) rfl ?_
          show Steps p.tables e below (T200.setTop (mkF m 91 #[.val (.int p1), .val (.int p2), .val (.int p3), .val (.int p4), .val (.int p5), .val (.int p6), .val (.ref b7), .val (.int (1 : Int32)), .val (.int (1 : Int32)), .val (.int (1 : Int32)), .unset] [(.int p6)])) _
          refine XS.istore X200.here hx rfl (hb hby at_91) rfl (l' := #[.val (.int p1), .val (.int p2), .val (.int p3), .val (.int p4), .val (.int p5), .val (.int p6), .val (.ref b7), .val (.int (1 : Int32)), .val (.int (1 : Int32)), .val (.int (1 : Int32)), .val (.int p6)]) rfl ?_
          show Steps p.tables e below (T200.setTop (mkF m 93 #[.val (.int p1), .val (.int p2), .val (.int p3), .val (.int p4), .val (.int p5), .val (.int p6), .val (.ref b7), .val (.int (1 : Int32)), .val (.int (1 : Int32)), .val (.int (1 : Int32)), .val (.int p6)] [])) _
          refine XS.goto X200.here hx rfl (pc0 := 93) (pc' := 134) rfl (hb hby at_93) (by decide) (by decide) ?_
          show Steps p.tables e below (T200.setTop (mkF m 134 #[.val (.int p1), .val (.int p2), .val (.int p3), .val (.int p4), .val (.int p5), .val (.int p6), .val (.ref b7), .val (.int (1 : Int32)), .val (.int (1 : Int32)), .val (.int (1 : Int32)), .val (.int p6)] [])) _
          refine XS.aload X200.here hx rfl (hb hby at_134) rfl rfl ?_
          show Steps p.tables e below (T200.setTop (mkF m 136 #[.val (.int p1), .val (.int p2), .val (.int p3), .val (.int p4), .val (.int p5), .val (.int p6), .val (.ref b7), .val (.int (1 : Int32)), .val (.int (1 : Int32)), .val (.int (1 : Int32)), .val (.int p6)] [(.ref b7)])) _
          refine XS.iload X200.here hx rfl (hb hby at_136) rfl ?_
          show Steps p.tables e below (T200.setTop (mkF m 138 #[.val (.int p1), .val (.int p2), .val (.int p3), .val (.int p4), .val (.int p5), .val (.int p6), .val (.ref b7), .val (.int (1 : Int32)), .val (.int (1 : Int32)), .val (.int (1 : Int32)), .val (.int p6)] [(.int (1 : Int32)), (.ref b7)])) _
          refine st208.trans ?_
          show Steps p.tables e below (T208.setTop (mkF m 141 #[.val (.int p1), .val (.int p2), .val (.int p3), .val (.int p4), .val (.int p5), .val (.int p6), .val (.ref b7), .val (.int (1 : Int32)), .val (.int (1 : Int32)), .val (.int (1 : Int32)), .val (.int p6)] [(.int p6)])) _
          refine XS.iload X208.here hx rfl (hb hby at_141) rfl ?_
          show Steps p.tables e below (T208.setTop (mkF m 143 #[.val (.int p1), .val (.int p2), .val (.int p3), .val (.int p4), .val (.int p5), .val (.int p6), .val (.ref b7), .val (.int (1 : Int32)), .val (.int (1 : Int32)), .val (.int (1 : Int32)), .val (.int p6)] [(.int p6), (.int p6)])) _
          refine XS.icmpNo X208.here hx rfl (hb hby at_143) rfl (teq (rfl : p6 = p6)).2 ?_
          show Steps p.tables e below (T208.setTop (mkF m 146 #[.val (.int p1), .val (.int p2), .val (.int p3), .val (.int p4), .val (.int p5), .val (.int p6), .val (.ref b7), .val (.int (1 : Int32)), .val (.int (1 : Int32)), .val (.int (1 : Int32)), .val (.int p6)] [])) _
          refine XS.iconst X208.here hx rfl (hb hby at_146) ?_
          show Steps p.tables e below (T208.setTop (mkF m 147 #[.val (.int p1), .val (.int p2), .val (.int p3), .val (.int p4), .val (.int p5), .val (.int p6), .val (.ref b7), .val (.int (1 : Int32)), .val (.int (1 : Int32)), .val (.int (1 : Int32)), .val (.int p6)] [(.int (1 : Int32))])) _
          refine XS.goto X208.here hx rfl (pc0 := 147) (pc' := 151) rfl (hb hby at_147) (by decide) (by decide) ?_
          show Steps p.tables e below (T208.setTop (mkF m 151 #[.val (.int p1), .val (.int p2), .val (.int p3), .val (.int p4), .val (.int p5), .val (.int p6), .val (.ref b7), .val (.int (1 : Int32)), .val (.int (1 : Int32)), .val (.int (1 : Int32)), .val (.int p6)] [(.int (1 : Int32))])) _
          exact retN X208 hx (t := .boolean) Bd.returns (by simp) (hb hby at_151) hr
        · show Q0 Z _ _ _ _ _ _ h0 n0 _ T208.heap _
          rw [u212]
          exact ⟨rfl, N208⟩
      · skip
        have f213 : Arv Z T58.heap b9 k10 (.array .int) (1 : Int32) [(.ref b23)] .null := (f57.keep Ku61 (ninS (Nat.ne_of_lt (Nat.lt_of_lt_of_le u14 u27)) (ninS (Ne.symm (Nat.ne_of_lt (Nat.lt_of_lt_of_le lt_b7 u13))) nin0)))
        obtain ⟨cq214, kq214, q214a, q214b, q214c⟩ := isOf hZ rfl u64
        obtain ⟨_, _, ⟨T214, L214, k214, n214⟩, -, X214, ⟨Lc214, hQ214, l214, y214, z214⟩, st214⟩ := X58.virtualBack hx (y := M_3) (z := M_3) hown (mvT hZ (hw _ (gw 27 rfl))) (mvT hZ (hw _ (gw 28 rfl))) (notFace_of_selects (args := #[]) (mvT hZ (hw _ (gw 30 rfl)))) (mvT hZ (hw _ (gw 30 rfl))) (mvT hZ (hw _ (gw 29 rfl))) (by decide) (backOf (W := 0) (rm5_12 l Z a0 hw [] b7 p6 b9 b23 k10 p1 p2 p3 p4 k24 T58.heap n0  Ou61 u65 f213 u63 g_b23 u62) hZ (hw _ (gw 31 rfl)) (hw _ (gw 2 rfl)) (by decide) (by decide)) q214a q214c (g := (mkF m 74 #[.val (.int p1), .val (.int p2), .val (.int p3), .val (.int p4), .val (.int p5), .val (.int p6), .val (.ref b7), .val (.int (1 : Int32)), .val (.int (1 : Int32)), .val (.int (2 : Int32)), .unset] [(.int p6), (.int (1 : Int32)), (.ref b7)])) rfl (by rw [hml]; rfl) (Steps.refl _) (argsL := [(.int (1 : Int32)), (.int p6)]) (rest := []) (lenOf pd_3 rfl) rfl (by show 2 * 0 + _ ≤ _; exact Nat.le_of_eq rfl) (hb hby at_74) (fun _ _ => ⟨rfl, rfl, (by decide : 3 + 0 ≤ _), (by decide : 4099 + 0 ≤ _)⟩)
        dsimp only [Pt.U, Pt.locs, Pt.cells, Pt.slots] at X214 l214 y214 z214 st214 hQ214
        subst l214 y214 z214
        obtain ⟨rfl, u216, Ku217, u218, u219⟩ := hQ214
        have Ou217 : Old Z n0 T214.heap := Ou61.keep Ku217 (allS g_b23 all0)
        have N214 := Fr.app N58 u216
        have f220 : Fld Z T214.heap b7 "com/example/vestry/vestry/Ints" "blocks" "[[I" (.ref b9) := (u65.keep Ku217 (ninS (Nat.ne_of_lt (Nat.lt_of_lt_of_le (Nat.lt_of_lt_of_le lt_b7 Ku15.1) u27)) nin0))
        have f221 : Arv Z T214.heap b9 k10 (.array .int) (1 : Int32) [(.ref b23)] .null := (f213.keep Ku217 (ninS (Nat.ne_of_lt (Nat.lt_of_lt_of_le u14 u27)) nin0))
        have f223 : Exa Z T214.heap b7 "com/example/vestry/vestry/Ints" := (u64.keep Ku217)
        obtain ⟨cq222, kq222, q222a, q222b, q222c⟩ := isOf hZ rfl f223
        obtain ⟨_, _, ⟨T222, L222, k222, n222⟩, -, X222, ⟨Lc222, hQ222, l222, y222, z222⟩, st222⟩ := X214.virtualBack hx (y := M_2) (z := M_2) hown (mvT hZ (hw _ (gw 22 rfl))) (mvT hZ (hw _ (gw 23 rfl))) (notFace_of_selects (args := #[]) (mvT hZ (hw _ (gw 25 rfl)))) (mvT hZ (hw _ (gw 25 rfl))) (mvT hZ (hw _ (gw 24 rfl))) (by decide) (backOf (W := 0) (rm4_9 l Z a0 hw [] b7 b9 b23 k10 p1 p6 p3 p4 k24 T214.heap n0  Ou217 f220 f221 u219) hZ (hw _ (gw 26 rfl)) (hw _ (gw 2 rfl)) (by decide) (by decide)) q222a q222c (g := (mkF m 138 #[.val (.int p1), .val (.int p2), .val (.int p3), .val (.int p4), .val (.int p5), .val (.int p6), .val (.ref b7), .val (.int (1 : Int32)), .val (.int (1 : Int32)), .val (.int (2 : Int32)), .val (.int p3)] [(.int (2 : Int32)), (.ref b7)])) rfl (by rw [hml]; rfl) (Steps.refl _) (argsL := [(.int (2 : Int32))]) (rest := []) (lenOf pd_2 rfl) rfl (by show 2 * 0 + _ ≤ _; exact Nat.le_of_eq rfl) (hb hby at_138) (fun _ _ => ⟨rfl, rfl, (by decide : 3 + 0 ≤ _), (by decide : 4099 + 0 ≤ _)⟩)
        dsimp only [Pt.U, Pt.locs, Pt.cells, Pt.slots] at X222 l222 y222 z222 st222 hQ222
        subst l222 y222 z222
        obtain ⟨rfl, u225, u226⟩ := hQ222
        have N222 := Fr.app N214 u225
        obtain ⟨fs, hr, hrun, hended, hW, hsame⟩ := X222.leave (v := some (.int (1 : Int32))) (fun h => by rw [Bd.returns] at h; cases h)
        refine ⟨_, _, pre184 _ ?_, hrun, hended, _, _, rfl, ?_, ⟨_, rfl⟩, hW, hsame.mono (by decide) (by decide)⟩
        · show Steps p.tables e below (T58.setTop (mkF m 60 #[.val (.int p1), .val (.int p2), .val (.int p3), .val (.int p4), .val (.int p5), .val (.int p6), .val (.ref b7), .val (.int (1 : Int32)), .val (.int (1 : Int32)), .unset, .unset] [(.int (3 : Int32)), (.int i182)])) _
          refine XS.iand X58.here hx rfl (hb hby at_60) rfl ?_
          show Steps p.tables e below (T58.setTop (mkF m 61 #[.val (.int p1), .val (.int p2), .val (.int p3), .val (.int p4), .val (.int p5), .val (.int p6), .val (.ref b7), .val (.int (1 : Int32)), .val (.int (1 : Int32)), .unset, .unset] [(.int (i182 &&& (3 : Int32)))])) _
          rw [hq183]
          show Steps p.tables e below (T58.setTop (mkF m 61 #[.val (.int p1), .val (.int p2), .val (.int p3), .val (.int p4), .val (.int p5), .val (.int p6), .val (.ref b7), .val (.int (1 : Int32)), .val (.int (1 : Int32)), .unset, .unset] [(.int (2 : Int32))])) _
          refine XS.istore X58.here hx rfl (hb hby at_61) rfl (l' := #[.val (.int p1), .val (.int p2), .val (.int p3), .val (.int p4), .val (.int p5), .val (.int p6), .val (.ref b7), .val (.int (1 : Int32)), .val (.int (1 : Int32)), .val (.int (2 : Int32)), .unset]) rfl ?_
          show Steps p.tables e below (T58.setTop (mkF m 63 #[.val (.int p1), .val (.int p2), .val (.int p3), .val (.int p4), .val (.int p5), .val (.int p6), .val (.ref b7), .val (.int (1 : Int32)), .val (.int (1 : Int32)), .val (.int (2 : Int32)), .unset] [])) _
          refine XS.iload X58.here hx rfl (hb hby at_63) rfl ?_
          show Steps p.tables e below (T58.setTop (mkF m 65 #[.val (.int p1), .val (.int p2), .val (.int p3), .val (.int p4), .val (.int p5), .val (.int p6), .val (.ref b7), .val (.int (1 : Int32)), .val (.int (1 : Int32)), .val (.int (2 : Int32)), .unset] [(.int (1 : Int32))])) _
          refine XS.ifNo X58.here hx rfl (hb hby at_65) rfl ((if0 _ _).trans (feq (by decide +kernel : ¬ ((1 : Int32) = (0 : Int32)))).1) ?_
          show Steps p.tables e below (T58.setTop (mkF m 68 #[.val (.int p1), .val (.int p2), .val (.int p3), .val (.int p4), .val (.int p5), .val (.int p6), .val (.ref b7), .val (.int (1 : Int32)), .val (.int (1 : Int32)), .val (.int (2 : Int32)), .unset] [])) _
          refine XS.aload X58.here hx rfl (hb hby at_68) rfl rfl ?_
          show Steps p.tables e below (T58.setTop (mkF m 70 #[.val (.int p1), .val (.int p2), .val (.int p3), .val (.int p4), .val (.int p5), .val (.int p6), .val (.ref b7), .val (.int (1 : Int32)), .val (.int (1 : Int32)), .val (.int (2 : Int32)), .unset] [(.ref b7)])) _
          refine XS.iload X58.here hx rfl (hb hby at_70) rfl ?_
          show Steps p.tables e below (T58.setTop (mkF m 72 #[.val (.int p1), .val (.int p2), .val (.int p3), .val (.int p4), .val (.int p5), .val (.int p6), .val (.ref b7), .val (.int (1 : Int32)), .val (.int (1 : Int32)), .val (.int (2 : Int32)), .unset] [(.int (1 : Int32)), (.ref b7)])) _
          refine XS.iload X58.here hx rfl (hb hby at_72) rfl ?_
          show Steps p.tables e below (T58.setTop (mkF m 74 #[.val (.int p1), .val (.int p2), .val (.int p3), .val (.int p4), .val (.int p5), .val (.int p6), .val (.ref b7), .val (.int (1 : Int32)), .val (.int (1 : Int32)), .val (.int (2 : Int32)), .unset] [(.int p6), (.int (1 : Int32)), (.ref b7)])) _
          refine st214.trans ?_
          show Steps p.tables e below (T214.setTop (mkF m 77 #[.val (.int p1), .val (.int p2), .val (.int p3), .val (.int p4), .val (.int p5), .val (.int p6), .val (.ref b7), .val (.int (1 : Int32)), .val (.int (1 : Int32)), .val (.int (2 : Int32)), .unset] [])) _
          refine XS.iload X214.here hx rfl (hb hby at_77) rfl ?_
          show Steps p.tables e below (T214.setTop (mkF m 79 #[.val (.int p1), .val (.int p2), .val (.int p3), .val (.int p4), .val (.int p5), .val (.int p6), .val (.ref b7), .val (.int (1 : Int32)), .val (.int (1 : Int32)), .val (.int (2 : Int32)), .unset] [(.int (1 : Int32))])) _
          refine XS.ifNo X214.here hx rfl (hb hby at_79) rfl ((if0 _ _).trans (feq (by decide +kernel : ¬ ((1 : Int32) = (0 : Int32)))).1) ?_
          show Steps p.tables e below (T214.setTop (mkF m 82 #[.val (.int p1), .val (.int p2), .val (.int p3), .val (.int p4), .val (.int p5), .val (.int p6), .val (.ref b7), .val (.int (1 : Int32)), .val (.int (1 : Int32)), .val (.int (2 : Int32)), .unset] [])) _
          refine XS.iload X214.here hx rfl (hb hby at_82) rfl ?_
          show Steps p.tables e below (T214.setTop (mkF m 84 #[.val (.int p1), .val (.int p2), .val (.int p3), .val (.int p4), .val (.int p5), .val (.int p6), .val (.ref b7), .val (.int (1 : Int32)), .val (.int (1 : Int32)), .val (.int (2 : Int32)), .unset] [(.int (2 : Int32))])) _
          refine XS.iload X214.here hx rfl (hb hby at_84) rfl ?_
          show Steps p.tables e below (T214.setTop (mkF m 86 #[.val (.int p1), .val (.int p2), .val (.int p3), .val (.int p4), .val (.int p5), .val (.int p6), .val (.ref b7), .val (.int (1 : Int32)), .val (.int (1 : Int32)), .val (.int (2 : Int32)), .unset] [(.int (1 : Int32)), (.int (2 : Int32))])) _
          refine XS.icmpYes X214.here hx rfl (pc0 := 86) (pc' := 96) rfl (hb hby at_86) rfl (feq (by decide +kernel : ¬ ((2 : Int32) = (1 : Int32)))).2 (by decide) (by decide) ?_
          show Steps p.tables e below (T214.setTop (mkF m 96 #[.val (.int p1), .val (.int p2), .val (.int p3), .val (.int p4), .val (.int p5), .val (.int p6), .val (.ref b7), .val (.int (1 : Int32)), .val (.int (1 : Int32)), .val (.int (2 : Int32)), .unset] [])) _
          refine XS.iload X214.here hx rfl (hb hby at_96) rfl ?_
          show Steps p.tables e below (T214.setTop (mkF m 98 #[.val (.int p1), .val (.int p2), .val (.int p3), .val (.int p4), .val (.int p5), .val (.int p6), .val (.ref b7), .val (.int (1 : Int32)), .val (.int (1 : Int32)), .val (.int (2 : Int32)), .unset] [(.int (2 : Int32))])) _
          refine XS.ifYes X214.here hx rfl (pc0 := 98) (pc' := 107) rfl (hb hby at_98) rfl ((if0 _ _).trans (feq (by decide +kernel : ¬ ((2 : Int32) = (0 : Int32)))).2) (by decide) (by decide) ?_
          show Steps p.tables e below (T214.setTop (mkF m 107 #[.val (.int p1), .val (.int p2), .val (.int p3), .val (.int p4), .val (.int p5), .val (.int p6), .val (.ref b7), .val (.int (1 : Int32)), .val (.int (1 : Int32)), .val (.int (2 : Int32)), .unset] [])) _
          refine XS.iload X214.here hx rfl (hb hby at_107) rfl ?_
          show Steps p.tables e below (T214.setTop (mkF m 109 #[.val (.int p1), .val (.int p2), .val (.int p3), .val (.int p4), .val (.int p5), .val (.int p6), .val (.ref b7), .val (.int (1 : Int32)), .val (.int (1 : Int32)), .val (.int (2 : Int32)), .unset] [(.int (2 : Int32))])) _
          refine XS.iconst X214.here hx rfl (hb hby at_109) ?_
          show Steps p.tables e below (T214.setTop (mkF m 110 #[.val (.int p1), .val (.int p2), .val (.int p3), .val (.int p4), .val (.int p5), .val (.int p6), .val (.ref b7), .val (.int (1 : Int32)), .val (.int (1 : Int32)), .val (.int (2 : Int32)), .unset] [(.int (1 : Int32)), (.int (2 : Int32))])) _
          refine XS.icmpYes X214.here hx rfl (pc0 := 110) (pc' := 119) rfl (hb hby at_110) rfl (feq (by decide +kernel : ¬ ((2 : Int32) = (1 : Int32)))).2 (by decide) (by decide) ?_
          show Steps p.tables e below (T214.setTop (mkF m 119 #[.val (.int p1), .val (.int p2), .val (.int p3), .val (.int p4), .val (.int p5), .val (.int p6), .val (.ref b7), .val (.int (1 : Int32)), .val (.int (1 : Int32)), .val (.int (2 : Int32)), .unset] [])) _
          refine XS.iload X214.here hx rfl (hb hby at_119) rfl ?_
          show Steps p.tables e below (T214.setTop (mkF m 121 #[.val (.int p1), .val (.int p2), .val (.int p3), .val (.int p4), .val (.int p5), .val (.int p6), .val (.ref b7), .val (.int (1 : Int32)), .val (.int (1 : Int32)), .val (.int (2 : Int32)), .unset] [(.int (2 : Int32))])) _
          refine XS.iconst X214.here hx rfl (hb hby at_121) ?_
          show Steps p.tables e below (T214.setTop (mkF m 122 #[.val (.int p1), .val (.int p2), .val (.int p3), .val (.int p4), .val (.int p5), .val (.int p6), .val (.ref b7), .val (.int (1 : Int32)), .val (.int (1 : Int32)), .val (.int (2 : Int32)), .unset] [(.int (2 : Int32)), (.int (2 : Int32))])) _
          refine XS.icmpNo X214.here hx rfl (hb hby at_122) rfl (teq (by decide +kernel : (2 : Int32) = (2 : Int32))).2 ?_
          show Steps p.tables e below (T214.setTop (mkF m 125 #[.val (.int p1), .val (.int p2), .val (.int p3), .val (.int p4), .val (.int p5), .val (.int p6), .val (.ref b7), .val (.int (1 : Int32)), .val (.int (1 : Int32)), .val (.int (2 : Int32)), .unset] [])) _
          refine XS.iloadN X214.here hx rfl (hb hby at_125) rfl ?_
          show Steps p.tables e below (T214.setTop (mkF m 126 #[.val (.int p1), .val (.int p2), .val (.int p3), .val (.int p4), .val (.int p5), .val (.int p6), .val (.ref b7), .val (.int (1 : Int32)), .val (.int (1 : Int32)), .val (.int (2 : Int32)), .unset] [(.int p3)])) _
          refine XS.istore X214.here hx rfl (hb hby at_126) rfl (l' := #[.val (.int p1), .val (.int p2), .val (.int p3), .val (.int p4), .val (.int p5), .val (.int p6), .val (.ref b7), .val (.int (1 : Int32)), .val (.int (1 : Int32)), .val (.int (2 : Int32)), .val (.int p3)]) rfl ?_
          show Steps p.tables e below (T214.setTop (mkF m 128 #[.val (.int p1), .val (.int p2), .val (.int p3), .val (.int p4), .val (.int p5), .val (.int p6), .val (.ref b7), .val (.int (1 : Int32)), .val (.int (1 : Int32)), .val (.int (2 : Int32)), .val (.int p3)] [])) _
          refine XS.goto X214.here hx rfl (pc0 := 128) (pc' := 134) rfl (hb hby at_128) (by decide) (by decide) ?_
          show Steps p.tables e below (T214.setTop (mkF m 134 #[.val (.int p1), .val (.int p2), .val (.int p3), .val (.int p4), .val (.int p5), .val (.int p6), .val (.ref b7), .val (.int (1 : Int32)), .val (.int (1 : Int32)), .val (.int (2 : Int32)), .val (.int p3)] [])) _
          refine XS.aload X214.here hx rfl (hb hby at_134) rfl rfl ?_
          show Steps p.tables e below (T214.setTop (mkF m 136 #[.val (.int p1), .val (.int p2), .val (.int p3), .val (.int p4), .val (.int p5), .val (.int p6), .val (.ref b7), .val (.int (1 : Int32)), .val (.int (1 : Int32)), .val (.int (2 : Int32)), .val (.int p3)] [(.ref b7)])) _
          refine XS.iload X214.here hx rfl (hb hby at_136) rfl ?_
          show Steps p.tables e below (T214.setTop (mkF m 138 #[.val (.int p1), .val (.int p2), .val (.int p3), .val (.int p4), .val (.int p5), .val (.int p6), .val (.ref b7), .val (.int (1 : Int32)), .val (.int (1 : Int32)), .val (.int (2 : Int32)), .val (.int p3)] [(.int (2 : Int32)), (.ref b7)])) _
          refine st222.trans ?_
          show Steps p.tables e below (T222.setTop (mkF m 141 #[.val (.int p1), .val (.int p2), .val (.int p3), .val (.int p4), .val (.int p5), .val (.int p6), .val (.ref b7), .val (.int (1 : Int32)), .val (.int (1 : Int32)), .val (.int (2 : Int32)), .val (.int p3)] [(.int p3)])) _
          refine XS.iload X222.here hx rfl (hb hby at_141) rfl ?_
          show Steps p.tables e below (T222.setTop (mkF m 143 #[.val (.int p1), .val (.int p2), .val (.int p3), .val (.int p4), .val (.int p5), .val (.int p6), .val (.ref b7), .val (.int (1 : Int32)), .val (.int (1 : Int32)), .val (.int (2 : Int32)), .val (.int p3)] [(.int p3), (.int p3)])) _
          refine XS.icmpNo X222.here hx rfl (hb hby at_143) rfl (teq (rfl : p3 = p3)).2 ?_
          show Steps p.tables e below (T222.setTop (mkF m 146 #[.val (.int p1), .val (.int p2), .val (.int p3), .val (.int p4), .val (.int p5), .val (.int p6), .val (.ref b7), .val (.int (1 : Int32)), .val (.int (1 : Int32)), .val (.int (2 : Int32)), .val (.int p3)] [])) _
          refine XS.iconst X222.here hx rfl (hb hby at_146) ?_
          show Steps p.tables e below (T222.setTop (mkF m 147 #[.val (.int p1), .val (.int p2), .val (.int p3), .val (.int p4), .val (.int p5), .val (.int p6), .val (.ref b7), .val (.int (1 : Int32)), .val (.int (1 : Int32)), .val (.int (2 : Int32)), .val (.int p3)] [(.int (1 : Int32))])) _
          refine XS.goto X222.here hx rfl (pc0 := 147) (pc' := 151) rfl (hb hby at_147) (by decide) (by decide) ?_
          show Steps p.tables e below (T222.setTop (mkF m 151 #[.val (.int p1), .val (.int p2), .val (.int p3), .val (.int p4), .val (.int p5), .val (.int p6), .val (.ref b7), .val (.int (1 : Int32)), .val (.int (1 : Int32)), .val (.int (2 : Int32)), .val (.int p3)] [(.int (1 : Int32))])) _
          exact retN X222 hx (t := .boolean) Bd.returns (by simp) (hb hby at_151) hr
        · show Q0 Z _ _ _ _ _ _ h0 n0 _ T222.heap _
          rw [u226]
          exact ⟨rfl, N222⟩
      · skip
        have f227 : Arv Z T58.heap b9 k10 (.array .int) (1 : Int32) [(.ref b23)] .null := (f57.keep Ku61 (ninS (Nat.ne_of_lt (Nat.lt_of_lt_of_le u14 u27)) (ninS (Ne.symm (Nat.ne_of_lt (Nat.lt_of_lt_of_le lt_b7 u13))) nin0)))
        obtain ⟨cq228, kq228, q228a, q228b, q228c⟩ := isOf hZ rfl u64
        obtain ⟨_, _, ⟨T228, L228, k228, n228⟩, -, X228, ⟨Lc228, hQ228, l228, y228, z228⟩, st228⟩ := X58.virtualBack hx (y := M_3) (z := M_3) hown (mvT hZ (hw _ (gw 27 rfl))) (mvT hZ (hw _ (gw 28 rfl))) (notFace_of_selects (args := #[]) (mvT hZ (hw _ (gw 30 rfl)))) (mvT hZ (hw _ (gw 30 rfl))) (mvT hZ (hw _ (gw 29 rfl))) (by decide) (backOf (W := 0) (rm5_12 l Z a0 hw [] b7 p6 b9 b23 k10 p1 p2 p3 p4 k24 T58.heap n0  Ou61 u65 f227 u63 g_b23 u62) hZ (hw _ (gw 31 rfl)) (hw _ (gw 2 rfl)) (by decide) (by decide)) q228a q228c (g := (mkF m 74 #[.val (.int p1), .val (.int p2), .val (.int p3), .val (.int p4), .val (.int p5), .val (.int p6), .val (.ref b7), .val (.int (1 : Int32)), .val (.int (1 : Int32)), .val (.int (3 : Int32)), .unset] [(.int p6), (.int (1 : Int32)), (.ref b7)])) rfl (by rw [hml]; rfl) (Steps.refl _) (argsL := [(.int (1 : Int32)), (.int p6)]) (rest := []) (lenOf pd_3 rfl) rfl (by show 2 * 0 + _ ≤ _; exact Nat.le_of_eq rfl) (hb hby at_74) (fun _ _ => ⟨rfl, rfl, (by decide : 3 + 0 ≤ _), (by decide : 4099 + 0 ≤ _)⟩)
        dsimp only [Pt.U, Pt.locs, Pt.cells, Pt.slots] at X228 l228 y228 z228 st228 hQ228
        subst l228 y228 z228
        obtain ⟨rfl, u230, Ku231, u232, u233⟩ := hQ228
        have Ou231 : Old Z n0 T228.heap := Ou61.keep Ku231 (allS g_b23 all0)
        have N228 := Fr.app N58 u230
        have f234 : Fld Z T228.heap b7 "com/example/vestry/vestry/Ints" "blocks" "[[I" (.ref b9) := (u65.keep Ku231 (ninS (Nat.ne_of_lt (Nat.lt_of_lt_of_le (Nat.lt_of_lt_of_le lt_b7 Ku15.1) u27)) nin0))
        have f235 : Arv Z T228.heap b9 k10 (.array .int) (1 : Int32) [(.ref b23)] .null := (f227.keep Ku231 (ninS (Nat.ne_of_lt (Nat.lt_of_lt_of_le u14 u27)) nin0))
        have f237 : Exa Z T228.heap b7 "com/example/vestry/vestry/Ints" := (u64.keep Ku231)
        obtain ⟨cq236, kq236, q236a, q236b, q236c⟩ := isOf hZ rfl f237
        obtain ⟨_, _, ⟨T236, L236, k236, n236⟩, -, X236, ⟨Lc236, hQ236, l236, y236, z236⟩, st236⟩ := X228.virtualBack hx (y := M_2) (z := M_2) hown (mvT hZ (hw _ (gw 22 rfl))) (mvT hZ (hw _ (gw 23 rfl))) (notFace_of_selects (args := #[]) (mvT hZ (hw _ (gw 25 rfl)))) (mvT hZ (hw _ (gw 25 rfl))) (mvT hZ (hw _ (gw 24 rfl))) (by decide) (backOf (W := 0) (rm4_10 l Z a0 hw [] b7 b9 b23 k10 p1 p6 p3 p4 k24 T228.heap n0  Ou231 f234 f235 u233) hZ (hw _ (gw 26 rfl)) (hw _ (gw 2 rfl)) (by decide) (by decide)) q236a q236c (g := (mkF m 138 #[.val (.int p1), .val (.int p2), .val (.int p3), .val (.int p4), .val (.int p5), .val (.int p6), .val (.ref b7), .val (.int (1 : Int32)), .val (.int (1 : Int32)), .val (.int (3 : Int32)), .val (.int p4)] [(.int (3 : Int32)), (.ref b7)])) rfl (by rw [hml]; rfl) (Steps.refl _) (argsL := [(.int (3 : Int32))]) (rest := []) (lenOf pd_2 rfl) rfl (by show 2 * 0 + _ ≤ _; exact Nat.le_of_eq rfl) (hb hby at_138) (fun _ _ => ⟨rfl, rfl, (by decide : 3 + 0 ≤ _), (by decide : 4099 + 0 ≤ _)⟩)
        dsimp only [Pt.U, Pt.locs, Pt.cells, Pt.slots] at X236 l236 y236 z236 st236 hQ236
        subst l236 y236 z236
        obtain ⟨rfl, u239, u240⟩ := hQ236
        have N236 := Fr.app N228 u239
        obtain ⟨fs, hr, hrun, hended, hW, hsame⟩ := X236.leave (v := some (.int (1 : Int32))) (fun h => by rw [Bd.returns] at h; cases h)
        refine ⟨_, _, pre184 _ ?_, hrun, hended, _, _, rfl, ?_, ⟨_, rfl⟩, hW, hsame.mono (by decide) (by decide)⟩
        · show Steps p.tables e below (T58.setTop (mkF m 60 #[.val (.int p1), .val (.int p2), .val (.int p3), .val (.int p4), .val (.int p5), .val (.int p6), .val (.ref b7), .val (.int (1 : Int32)), .val (.int (1 : Int32)), .unset, .unset] [(.int (3 : Int32)), (.int i182)])) _
          refine XS.iand X58.here hx rfl (hb hby at_60) rfl ?_
          show Steps p.tables e below (T58.setTop (mkF m 61 #[.val (.int p1), .val (.int p2), .val (.int p3), .val (.int p4), .val (.int p5), .val (.int p6), .val (.ref b7), .val (.int (1 : Int32)), .val (.int (1 : Int32)), .unset, .unset] [(.int (i182 &&& (3 : Int32)))])) _
          rw [hq183]
          show Steps p.tables e below (T58.setTop (mkF m 61 #[.val (.int p1), .val (.int p2), .val (.int p3), .val (.int p4), .val (.int p5), .val (.int p6), .val (.ref b7), .val (.int (1 : Int32)), .val (.int (1 : Int32)), .unset, .unset] [(.int (3 : Int32))])) _
          refine XS.istore X58.here hx rfl (hb hby at_61) rfl (l' := #[.val (.int p1), .val (.int p2), .val (.int p3), .val (.int p4), .val (.int p5), .val (.int p6), .val (.ref b7), .val (.int (1 : Int32)), .val (.int (1 : Int32)), .val (.int (3 : Int32)), .unset]) rfl ?_
          show Steps p.tables e below (T58.setTop (mkF m 63 #[.val (.int p1), .val (.int p2), .val (.int p3), .val (.int p4), .val (.int p5), .val (.int p6), .val (.ref b7), .val (.int (1 : Int32)), .val (.int (1 : Int32)), .val (.int (3 : Int32)), .unset] [])) _
          refine XS.iload X58.here hx rfl (hb hby at_63) rfl ?_
          show Steps p.tables e below (T58.setTop (mkF m 65 #[.val (.int p1), .val (.int p2), .val (.int p3), .val (.int p4), .val (.int p5), .val (.int p6), .val (.ref b7), .val (.int (1 : Int32)), .val (.int (1 : Int32)), .val (.int (3 : Int32)), .unset] [(.int (1 : Int32))])) _
          refine XS.ifNo X58.here hx rfl (hb hby at_65) rfl ((if0 _ _).trans (feq (by decide +kernel : ¬ ((1 : Int32) = (0 : Int32)))).1) ?_
          show Steps p.tables e below (T58.setTop (mkF m 68 #[.val (.int p1), .val (.int p2), .val (.int p3), .val (.int p4), .val (.int p5), .val (.int p6), .val (.ref b7), .val (.int (1 : Int32)), .val (.int (1 : Int32)), .val (.int (3 : Int32)), .unset] [])) _
          refine XS.aload X58.here hx rfl (hb hby at_68) rfl rfl ?_
          show Steps p.tables e below (T58.setTop (mkF m 70 #[.val (.int p1), .val (.int p2), .val (.int p3), .val (.int p4), .val (.int p5), .val (.int p6), .val (.ref b7), .val (.int (1 : Int32)), .val (.int (1 : Int32)), .val (.int (3 : Int32)), .unset] [(.ref b7)])) _
          refine XS.iload X58.here hx rfl (hb hby at_70) rfl ?_
          show Steps p.tables e below (T58.setTop (mkF m 72 #[.val (.int p1), .val (.int p2), .val (.int p3), .val (.int p4), .val (.int p5), .val (.int p6), .val (.ref b7), .val (.int (1 : Int32)), .val (.int (1 : Int32)), .val (.int (3 : Int32)), .unset] [(.int (1 : Int32)), (.ref b7)])) _
          refine XS.iload X58.here hx rfl (hb hby at_72) rfl ?_
          show Steps p.tables e below (T58.setTop (mkF m 74 #[.val (.int p1), .val (.int p2), .val (.int p3), .val (.int p4), .val (.int p5), .val (.int p6), .val (.ref b7), .val (.int (1 : Int32)), .val (.int (1 : Int32)), .val (.int (3 : Int32)), .unset] [(.int p6), (.int (1 : Int32)), (.ref b7)])) _
          refine st228.trans ?_
          show Steps p.tables e below (T228.setTop (mkF m 77 #[.val (.int p1), .val (.int p2), .val (.int p3), .val (.int p4), .val (.int p5), .val (.int p6), .val (.ref b7), .val (.int (1 : Int32)), .val (.int (1 : Int32)), .val (.int (3 : Int32)), .unset] [])) _
          refine XS.iload X228.here hx rfl (hb hby at_77) rfl ?_
          show Steps p.tables e below (T228.setTop (mkF m 79 #[.val (.int p1), .val (.int p2), .val (.int p3), .val (.int p4), .val (.int p5), .val (.int p6), .val (.ref b7), .val (.int (1 : Int32)), .val (.int (1 : Int32)), .val (.int (3 : Int32)), .unset] [(.int (1 : Int32))])) _
          refine XS.ifNo X228.here hx rfl (hb hby at_79) rfl ((if0 _ _).trans (feq (by decide +kernel : ¬ ((1 : Int32) = (0 : Int32)))).1) ?_
          show Steps p.tables e below (T228.setTop (mkF m 82 #[.val (.int p1), .val (.int p2), .val (.int p3), .val (.int p4), .val (.int p5), .val (.int p6), .val (.ref b7), .val (.int (1 : Int32)), .val (.int (1 : Int32)), .val (.int (3 : Int32)), .unset] [])) _
          refine XS.iload X228.here hx rfl (hb hby at_82) rfl ?_
          show Steps p.tables e below (T228.setTop (mkF m 84 #[.val (.int p1), .val (.int p2), .val (.int p3), .val (.int p4), .val (.int p5), .val (.int p6), .val (.ref b7), .val (.int (1 : Int32)), .val (.int (1 : Int32)), .val (.int (3 : Int32)), .unset] [(.int (3 : Int32))])) _
          refine XS.iload X228.here hx rfl (hb hby at_84) rfl ?_
          show Steps p.tables e below (T228.setTop (mkF m 86 #[.val (.int p1), .val (.int p2), .val (.int p3), .val (.int p4), .val (.int p5), .val (.int p6), .val (.ref b7), .val (.int (1 : Int32)), .val (.int (1 : Int32)), .val (.int (3 : Int32)), .unset] [(.int (1 : Int32)), (.int (3 : Int32))])) _
          refine XS.icmpYes X228.here hx rfl (pc0 := 86) (pc' := 96) rfl (hb hby at_86) rfl (feq (by decide +kernel : ¬ ((3 : Int32) = (1 : Int32)))).2 (by decide) (by decide) ?_
          show Steps p.tables e below (T228.setTop (mkF m 96 #[.val (.int p1), .val (.int p2), .val (.int p3), .val (.int p4), .val (.int p5), .val (.int p6), .val (.ref b7), .val (.int (1 : Int32)), .val (.int (1 : Int32)), .val (.int (3 : Int32)), .unset] [])) _
          refine XS.iload X228.here hx rfl (hb hby at_96) rfl ?_
          show Steps p.tables e below (T228.setTop (mkF m 98 #[.val (.int p1), .val (.int p2), .val (.int p3), .val (.int p4), .val (.int p5), .val (.int p6), .val (.ref b7), .val (.int (1 : Int32)), .val (.int (1 : Int32)), .val (.int (3 : Int32)), .unset] [(.int (3 : Int32))])) _
          refine XS.ifYes X228.here hx rfl (pc0 := 98) (pc' := 107) rfl (hb hby at_98) rfl ((if0 _ _).trans (feq (by decide +kernel : ¬ ((3 : Int32) = (0 : Int32)))).2) (by decide) (by decide) ?_
          show Steps p.tables e below (T228.setTop (mkF m 107 #[.val (.int p1), .val (.int p2), .val (.int p3), .val (.int p4), .val (.int p5), .val (.int p6), .val (.ref b7), .val (.int (1 : Int32)), .val (.int (1 : Int32)), .val (.int (3 : Int32)), .unset] [])) _
          refine XS.iload X228.here hx rfl (hb hby at_107) rfl ?_
          show Steps p.tables e below (T228.setTop (mkF m 109 #[.val (.int p1), .val (.int p2), .val (.int p3), .val (.int p4), .val (.int p5), .val (.int p6), .val (.ref b7), .val (.int (1 : Int32)), .val (.int (1 : Int32)), .val (.int (3 : Int32)), .unset] [(.int (3 : Int32))])) _
          refine XS.iconst X228.here hx rfl (hb hby at_109) ?_
          show Steps p.tables e below (T228.setTop (mkF m 110 #[.val (.int p1), .val (.int p2), .val (.int p3), .val (.int p4), .val (.int p5), .val (.int p6), .val (.ref b7), .val (.int (1 : Int32)), .val (.int (1 : Int32)), .val (.int (3 : Int32)), .unset] [(.int (1 : Int32)), (.int (3 : Int32))])) _
          refine XS.icmpYes X228.here hx rfl (pc0 := 110) (pc' := 119) rfl (hb hby at_110) rfl (feq (by decide +kernel : ¬ ((3 : Int32) = (1 : Int32)))).2 (by decide) (by decide) ?_
          show Steps p.tables e below (T228.setTop (mkF m 119 #[.val (.int p1), .val (.int p2), .val (.int p3), .val (.int p4), .val (.int p5), .val (.int p6), .val (.ref b7), .val (.int (1 : Int32)), .val (.int (1 : Int32)), .val (.int (3 : Int32)), .unset] [])) _
          refine XS.iload X228.here hx rfl (hb hby at_119) rfl ?_
          show Steps p.tables e below (T228.setTop (mkF m 121 #[.val (.int p1), .val (.int p2), .val (.int p3), .val (.int p4), .val (.int p5), .val (.int p6), .val (.ref b7), .val (.int (1 : Int32)), .val (.int (1 : Int32)), .val (.int (3 : Int32)), .unset] [(.int (3 : Int32))])) _
          refine XS.iconst X228.here hx rfl (hb hby at_121) ?_
          show Steps p.tables e below (T228.setTop (mkF m 122 #[.val (.int p1), .val (.int p2), .val (.int p3), .val (.int p4), .val (.int p5), .val (.int p6), .val (.ref b7), .val (.int (1 : Int32)), .val (.int (1 : Int32)), .val (.int (3 : Int32)), .unset] [(.int (2 : Int32)), (.int (3 : Int32))])) _
          refine XS.icmpYes X228.here hx rfl (pc0 := 122) (pc' := 131) rfl (hb hby at_122) rfl (feq (by decide +kernel : ¬ ((3 : Int32) = (2 : Int32)))).2 (by decide) (by decide) ?_
          show Steps p.tables e below (T228.setTop (mkF m 131 #[.val (.int p1), .val (.int p2), .val (.int p3), .val (.int p4), .val (.int p5), .val (.int p6), .val (.ref b7), .val (.int (1 : Int32)), .val (.int (1 : Int32)), .val (.int (3 : Int32)), .unset] [])) _
          refine XS.iloadN X228.here hx rfl (hb hby at_131) rfl ?_
          show Steps p.tables e below (T228.setTop (mkF m 132 #[.val (.int p1), .val (.int p2), .val (.int p3), .val (.int p4), .val (.int p5), .val (.int p6), .val (.ref b7), .val (.int (1 : Int32)), .val (.int (1 : Int32)), .val (.int (3 : Int32)), .unset] [(.int p4)])) _
          refine XS.istore X228.here hx rfl (hb hby at_132) rfl (l' := #[.val (.int p1), .val (.int p2), .val (.int p3), .val (.int p4), .val (.int p5), .val (.int p6), .val (.ref b7), .val (.int (1 : Int32)), .val (.int (1 : Int32)), .val (.int (3 : Int32)), .val (.int p4)]) rfl ?_
          show Steps p.tables e below (T228.setTop (mkF m 134 #[.val (.int p1), .val (.int p2), .val (.int p3), .val (.int p4), .val (.int p5), .val (.int p6), .val (.ref b7), .val (.int (1 : Int32)), .val (.int (1 : Int32)), .val (.int (3 : Int32)), .val (.int p4)] [])) _
          refine XS.aload X228.here hx rfl (hb hby at_134) rfl rfl ?_
          show Steps p.tables e below (T228.setTop (mkF m 136 #[.val (.int p1), .val (.int p2), .val (.int p3), .val (.int p4), .val (.int p5), .val (.int p6), .val (.ref b7), .val (.int (1 : Int32)), .val (.int (1 : Int32)), .val (.int (3 : Int32)), .val (.int p4)] [(.ref b7)])) _
          refine XS.iload X228.here hx rfl (hb hby at_136) rfl ?_
          show Steps p.tables e below (T228.setTop (mkF m 138 #[.val (.int p1), .val (.int p2), .val (.int p3), .val (.int p4), .val (.int p5), .val (.int p6), .val (.ref b7), .val (.int (1 : Int32)), .val (.int (1 : Int32)), .val (.int (3 : Int32)), .val (.int p4)] [(.int (3 : Int32)), (.ref b7)])) _
          refine st236.trans ?_
          show Steps p.tables e below (T236.setTop (mkF m 141 #[.val (.int p1), .val (.int p2), .val (.int p3), .val (.int p4), .val (.int p5), .val (.int p6), .val (.ref b7), .val (.int (1 : Int32)), .val (.int (1 : Int32)), .val (.int (3 : Int32)), .val (.int p4)] [(.int p4)])) _
          refine XS.iload X236.here hx rfl (hb hby at_141) rfl ?_
          show Steps p.tables e below (T236.setTop (mkF m 143 #[.val (.int p1), .val (.int p2), .val (.int p3), .val (.int p4), .val (.int p5), .val (.int p6), .val (.ref b7), .val (.int (1 : Int32)), .val (.int (1 : Int32)), .val (.int (3 : Int32)), .val (.int p4)] [(.int p4), (.int p4)])) _
          refine XS.icmpNo X236.here hx rfl (hb hby at_143) rfl (teq (rfl : p4 = p4)).2 ?_
          show Steps p.tables e below (T236.setTop (mkF m 146 #[.val (.int p1), .val (.int p2), .val (.int p3), .val (.int p4), .val (.int p5), .val (.int p6), .val (.ref b7), .val (.int (1 : Int32)), .val (.int (1 : Int32)), .val (.int (3 : Int32)), .val (.int p4)] [])) _
          refine XS.iconst X236.here hx rfl (hb hby at_146) ?_
          show Steps p.tables e below (T236.setTop (mkF m 147 #[.val (.int p1), .val (.int p2), .val (.int p3), .val (.int p4), .val (.int p5), .val (.int p6), .val (.ref b7), .val (.int (1 : Int32)), .val (.int (1 : Int32)), .val (.int (3 : Int32)), .val (.int p4)] [(.int (1 : Int32))])) _
          refine XS.goto X236.here hx rfl (pc0 := 147) (pc' := 151) rfl (hb hby at_147) (by decide) (by decide) ?_
          show Steps p.tables e below (T236.setTop (mkF m 151 #[.val (.int p1), .val (.int p2), .val (.int p3), .val (.int p4), .val (.int p5), .val (.int p6), .val (.ref b7), .val (.int (1 : Int32)), .val (.int (1 : Int32)), .val (.int (3 : Int32)), .val (.int p4)] [(.int (1 : Int32))])) _
          exact retN X236 hx (t := .boolean) Bd.returns (by simp) (hb hby at_151) hr
        · show Q0 Z _ _ _ _ _ _ h0 n0 _ T236.heap _
          rw [u240]
          exact ⟨rfl, N236⟩
  · skip
    obtain ⟨i241, hi241⟩ : ∃ z, z = ((p5.toUInt32 >>> ((2 : Int32) &&& 31).toUInt32).toInt32) := ⟨_, rfl⟩
    obtain ⟨i242, hi242⟩ : ∃ z, z = (i241 &&& (1 : Int32)) := ⟨_, rfl⟩
    have pre243 : ∀ t, Steps p.tables e below (T58.setTop (mkF m 45 #[.val (.int p1), .val (.int p2), .val (.int p3), .val (.int p4), .val (.int p5), .val (.int p6), .val (.ref b7), .val (.int (2 : Int32)), .unset, .unset, .unset] [(.int i242)])) t → Steps p.tables e below (s₁.setTop (entryFrame m #[(.int p1), (.int p2), (.int p3), (.int p4), (.int p5), (.int p6)] maxLocals)) t := by
      intro t kt
      refine pre68 t ?_
      show Steps p.tables e below (T58.setTop (mkF m 36 #[.val (.int p1), .val (.int p2), .val (.int p3), .val (.int p4), .val (.int p5), .val (.int p6), .val (.ref b7), .unset, .unset, .unset, .unset] [(.int (3 : Int32)), (.int p5)])) _
      refine XS.iand X58.here hx rfl (hb hby at_36) rfl ?_
      show Steps p.tables e below (T58.setTop (mkF m 37 #[.val (.int p1), .val (.int p2), .val (.int p3), .val (.int p4), .val (.int p5), .val (.int p6), .val (.ref b7), .unset, .unset, .unset, .unset] [(.int (p5 &&& (3 : Int32)))])) _
      rw [hq67]
      show Steps p.tables e below (T58.setTop (mkF m 37 #[.val (.int p1), .val (.int p2), .val (.int p3), .val (.int p4), .val (.int p5), .val (.int p6), .val (.ref b7), .unset, .unset, .unset, .unset] [(.int (2 : Int32))])) _
      refine XS.istore X58.here hx rfl (hb hby at_37) rfl (l' := #[.val (.int p1), .val (.int p2), .val (.int p3), .val (.int p4), .val (.int p5), .val (.int p6), .val (.ref b7), .val (.int (2 : Int32)), .unset, .unset, .unset]) rfl ?_
      show Steps p.tables e below (T58.setTop (mkF m 39 #[.val (.int p1), .val (.int p2), .val (.int p3), .val (.int p4), .val (.int p5), .val (.int p6), .val (.ref b7), .val (.int (2 : Int32)), .unset, .unset, .unset] [])) _
      refine XS.iload X58.here hx rfl (hb hby at_39) rfl ?_
      show Steps p.tables e below (T58.setTop (mkF m 41 #[.val (.int p1), .val (.int p2), .val (.int p3), .val (.int p4), .val (.int p5), .val (.int p6), .val (.ref b7), .val (.int (2 : Int32)), .unset, .unset, .unset] [(.int p5)])) _
      refine XS.iconst X58.here hx rfl (hb hby at_41) ?_
      show Steps p.tables e below (T58.setTop (mkF m 42 #[.val (.int p1), .val (.int p2), .val (.int p3), .val (.int p4), .val (.int p5), .val (.int p6), .val (.ref b7), .val (.int (2 : Int32)), .unset, .unset, .unset] [(.int (2 : Int32)), (.int p5)])) _
      refine XS.iushr X58.here hx rfl (hb hby at_42) rfl ?_
      show Steps p.tables e below (T58.setTop (mkF m 43 #[.val (.int p1), .val (.int p2), .val (.int p3), .val (.int p4), .val (.int p5), .val (.int p6), .val (.ref b7), .val (.int (2 : Int32)), .unset, .unset, .unset] [(.int ((p5.toUInt32 >>> ((2 : Int32) &&& 31).toUInt32).toInt32))])) _
      rw [← hi241]
      show Steps p.tables e below (T58.setTop (mkF m 43 #[.val (.int p1), .val (.int p2), .val (.int p3), .val (.int p4), .val (.int p5), .val (.int p6), .val (.ref b7), .val (.int (2 : Int32)), .unset, .unset, .unset] [(.int i241)])) _
      refine XS.iconst X58.here hx rfl (hb hby at_43) ?_
      show Steps p.tables e below (T58.setTop (mkF m 44 #[.val (.int p1), .val (.int p2), .val (.int p3), .val (.int p4), .val (.int p5), .val (.int p6), .val (.ref b7), .val (.int (2 : Int32)), .unset, .unset, .unset] [(.int (1 : Int32)), (.int i241)])) _
      refine XS.iand X58.here hx rfl (hb hby at_44) rfl ?_
      show Steps p.tables e below (T58.setTop (mkF m 45 #[.val (.int p1), .val (.int p2), .val (.int p3), .val (.int p4), .val (.int p5), .val (.int p6), .val (.ref b7), .val (.int (2 : Int32)), .unset, .unset, .unset] [(.int (i241 &&& (1 : Int32)))])) _
      rw [← hi242]
      exact kt
    by_cases hc244 : i242 = (0 : Int32)
    · skip
      subst hc244
      obtain ⟨i245, hi245⟩ : ∃ z, z = ((p5.toUInt32 >>> ((3 : Int32) &&& 31).toUInt32).toInt32) := ⟨_, rfl⟩
      have pre247 : ∀ t, Steps p.tables e below (T58.setTop (mkF m 60 #[.val (.int p1), .val (.int p2), .val (.int p3), .val (.int p4), .val (.int p5), .val (.int p6), .val (.ref b7), .val (.int (2 : Int32)), .val (.int (0 : Int32)), .unset, .unset] [(.int (3 : Int32)), (.int i245)])) t → Steps p.tables e below (s₁.setTop (entryFrame m #[(.int p1), (.int p2), (.int p3), (.int p4), (.int p5), (.int p6)] maxLocals)) t := by
        intro t kt
        refine pre243 t ?_
        show Steps p.tables e below (T58.setTop (mkF m 45 #[.val (.int p1), .val (.int p2), .val (.int p3), .val (.int p4), .val (.int p5), .val (.int p6), .val (.ref b7), .val (.int (2 : Int32)), .unset, .unset, .unset] [(.int (0 : Int32))])) _
        refine XS.ifYes X58.here hx rfl (pc0 := 45) (pc' := 52) rfl (hb hby at_45) rfl ((if0 _ _).trans (teq (by decide +kernel : (0 : Int32) = (0 : Int32))).1) (by decide) (by decide) ?_
        show Steps p.tables e below (T58.setTop (mkF m 52 #[.val (.int p1), .val (.int p2), .val (.int p3), .val (.int p4), .val (.int p5), .val (.int p6), .val (.ref b7), .val (.int (2 : Int32)), .unset, .unset, .unset] [])) _
        refine XS.iconst X58.here hx rfl (hb hby at_52) ?_
        show Steps p.tables e below (T58.setTop (mkF m 53 #[.val (.int p1), .val (.int p2), .val (.int p3), .val (.int p4), .val (.int p5), .val (.int p6), .val (.ref b7), .val (.int (2 : Int32)), .unset, .unset, .unset] [(.int (0 : Int32))])) _
        refine XS.istore X58.here hx rfl (hb hby at_53) rfl (l' := #[.val (.int p1), .val (.int p2), .val (.int p3), .val (.int p4), .val (.int p5), .val (.int p6), .val (.ref b7), .val (.int (2 : Int32)), .val (.int (0 : Int32)), .unset, .unset]) rfl ?_
        show Steps p.tables e below (T58.setTop (mkF m 55 #[.val (.int p1), .val (.int p2), .val (.int p3), .val (.int p4), .val (.int p5), .val (.int p6), .val (.ref b7), .val (.int (2 : Int32)), .val (.int (0 : Int32)), .unset, .unset] [])) _
        refine XS.iload X58.here hx rfl (hb hby at_55) rfl ?_
        show Steps p.tables e below (T58.setTop (mkF m 57 #[.val (.int p1), .val (.int p2), .val (.int p3), .val (.int p4), .val (.int p5), .val (.int p6), .val (.ref b7), .val (.int (2 : Int32)), .val (.int (0 : Int32)), .unset, .unset] [(.int p5)])) _
        refine XS.iconst X58.here hx rfl (hb hby at_57) ?_
        show Steps p.tables e below (T58.setTop (mkF m 58 #[.val (.int p1), .val (.int p2), .val (.int p3), .val (.int p4), .val (.int p5), .val (.int p6), .val (.ref b7), .val (.int (2 : Int32)), .val (.int (0 : Int32)), .unset, .unset] [(.int (3 : Int32)), (.int p5)])) _
        refine XS.iushr X58.here hx rfl (hb hby at_58) rfl ?_
        show Steps p.tables e below (T58.setTop (mkF m 59 #[.val (.int p1), .val (.int p2), .val (.int p3), .val (.int p4), .val (.int p5), .val (.int p6), .val (.ref b7), .val (.int (2 : Int32)), .val (.int (0 : Int32)), .unset, .unset] [(.int ((p5.toUInt32 >>> ((3 : Int32) &&& 31).toUInt32).toInt32))])) _
        rw [← hi245]
        show Steps p.tables e below (T58.setTop (mkF m 59 #[.val (.int p1), .val (.int p2), .val (.int p3), .val (.int p4), .val (.int p5), .val (.int p6), .val (.ref b7), .val (.int (2 : Int32)), .val (.int (0 : Int32)), .unset, .unset] [(.int i245)])) _
        refine XS.iconst X58.here hx rfl (hb hby at_59) ?_
        show Steps p.tables e below (T58.setTop (mkF m 60 #[.val (.int p1), .val (.int p2), .val (.int p3), .val (.int p4), .val (.int p5), .val (.int p6), .val (.ref b7), .val (.int (2 : Int32)), .val (.int (0 : Int32)), .unset, .unset] [(.int (3 : Int32)), (.int i245)])) _
        exact kt
      rcases (own_and3 i245) with hq246 | hq246 | hq246 | hq246
      · skip
        have f248 : Arv Z T58.heap b9 k10 (.array .int) (1 : Int32) [(.ref b23)] .null := (f57.keep Ku61 (ninS (Nat.ne_of_lt (Nat.lt_of_lt_of_le u14 u27)) (ninS (Ne.symm (Nat.ne_of_lt (Nat.lt_of_lt_of_le lt_b7 u13))) nin0)))
        obtain ⟨cq249, kq249, q249a, q249b, q249c⟩ := isOf hZ rfl u64
        obtain ⟨_, _, ⟨T249, L249, k249, n249⟩, -, X249, ⟨Lc249, hQ249, l249, y249, z249⟩, st249⟩ := X58.virtualBack hx (y := M_2) (z := M_2) hown (mvT hZ (hw _ (gw 22 rfl))) (mvT hZ (hw _ (gw 23 rfl))) (notFace_of_selects (args := #[]) (mvT hZ (hw _ (gw 25 rfl)))) (mvT hZ (hw _ (gw 25 rfl))) (mvT hZ (hw _ (gw 24 rfl))) (by decide) (backOf (W := 0) (rm4_7 l Z a0 hw [] b7 b9 b23 k10 p1 p2 p3 p4 k24 T58.heap n0  Ou61 u65 f248 u63) hZ (hw _ (gw 26 rfl)) (hw _ (gw 2 rfl)) (by decide) (by decide)) q249a q249c (g := (mkF m 138 #[.val (.int p1), .val (.int p2), .val (.int p3), .val (.int p4), .val (.int p5), .val (.int p6), .val (.ref b7), .val (.int (2 : Int32)), .val (.int (0 : Int32)), .val (.int (0 : Int32)), .val (.int p1)] [(.int (0 : Int32)), (.ref b7)])) rfl (by rw [hml]; rfl) (Steps.refl _) (argsL := [(.int (0 : Int32))]) (rest := []) (lenOf pd_2 rfl) rfl (by show 2 * 0 + _ ≤ _; exact Nat.le_of_eq rfl) (hb hby at_138) (fun _ _ => ⟨rfl, rfl, (by decide : 3 + 0 ≤ _), (by decide : 4099 + 0 ≤ _)⟩)
        dsimp only [Pt.U, Pt.locs, Pt.cells, Pt.slots] at X249 l249 y249 z249 st249 hQ249
        subst l249 y249 z249
        obtain ⟨rfl, u251, u252⟩ := hQ249
        have N249 := Fr.app N58 u251
        obtain ⟨fs, hr, hrun, hended, hW, hsame⟩ := X249.leave (v := some (.int (1 : Int32))) (fun h => by rw [Bd.returns] at h; cases h)
        refine ⟨_, _, pre247 _ ?_, hrun, hended, _, _, rfl, ?_, ⟨_, rfl⟩, hW, hsame.mono (by decide) (by decide)⟩
        · show Steps p.tables e below (T58.setTop (mkF m 60 #[.val (.int p1), .val (.int p2), .val (.int p3), .val (.int p4), .val (.int p5), .val (.int p6), .val (.ref b7), .val (.int (2 : Int32)), .val (.int (0 : Int32)), .unset, .unset] [(.int (3 : Int32)), (.int i245)])) _
          refine XS.iand X58.here hx rfl (hb hby at_60) rfl ?_
          show Steps p.tables e below (T58.setTop (mkF m 61 #[.val (.int p1), .val (.int p2), .val (.int p3), .val (.int p4), .val (.int p5), .val (.int p6), .val (.ref b7), .val (.int (2 : Int32)), .val (.int (0 : Int32)), .unset, .unset] [(.int (i245 &&& (3 : Int32)))])) _
          rw [hq246]
          show Steps p.tables e below (T58.setTop (mkF m 61 #[.val (.int p1), .val (.int p2), .val (.int p3), .val (.int p4), .val (.int p5), .val (.int p6), .val (.ref b7), .val (.int (2 : Int32)), .val (.int (0 : Int32)), .unset, .unset] [(.int (0 : Int32))])) _
          refine XS.istore X58.here hx rfl (hb hby at_61) rfl (l' := #[.val (.int p1), .val (.int p2), .val (.int p3), .val (.int p4), .val (.int p5), .val (.int p6), .val (.ref b7), .val (.int (2 : Int32)), .val (.int (0 : Int32)), .val (.int (0 : Int32)), .unset]) rfl ?_
          show Steps p.tables e below (T58.setTop (mkF m 63 #[.val (.int p1), .val (.int p2), .val (.int p3), .val (.int p4), .val (.int p5), .val (.int p6), .val (.ref b7), .val (.int (2 : Int32)), .val (.int (0 : Int32)), .val (.int (0 : Int32)), .unset] [])) _
          refine XS.iload X58.here hx rfl (hb hby at_63) rfl ?_
          show Steps p.tables e below (T58.setTop (mkF m 65 #[.val (.int p1), .val (.int p2), .val (.int p3), .val (.int p4), .val (.int p5), .val (.int p6), .val (.ref b7), .val (.int (2 : Int32)), .val (.int (0 : Int32)), .val (.int (0 : Int32)), .unset] [(.int (0 : Int32))])) _
          refine XS.ifYes X58.here hx rfl (pc0 := 65) (pc' := 77) rfl (hb hby at_65) rfl ((if0 _ _).trans (teq (by decide +kernel : (0 : Int32) = (0 : Int32))).1) (by decide) (by decide) ?_
          show Steps p.tables e below (T58.setTop (mkF m 77 #[.val (.int p1), .val (.int p2), .val (.int p3), .val (.int p4), .val (.int p5), .val (.int p6), .val (.ref b7), .val (.int (2 : Int32)), .val (.int (0 : Int32)), .val (.int (0 : Int32)), .unset] [])) _
          refine XS.iload X58.here hx rfl (hb hby at_77) rfl ?_
          show Steps p.tables e below (T58.setTop (mkF m 79 #[.val (.int p1), .val (.int p2), .val (.int p3), .val (.int p4), .val (.int p5), .val (.int p6), .val (.ref b7), .val (.int (2 : Int32)), .val (.int (0 : Int32)), .val (.int (0 : Int32)), .unset] [(.int (0 : Int32))])) _
          refine XS.ifYes X58.here hx rfl (pc0 := 79) (pc' := 96) rfl (hb hby at_79) rfl ((if0 _ _).trans (teq (by decide +kernel : (0 : Int32) = (0 : Int32))).1) (by decide) (by decide) ?_
          show Steps p.tables e below (T58.setTop (mkF m 96 #[.val (.int p1), .val (.int p2), .val (.int p3), .val (.int p4), .val (.int p5), .val (.int p6), .val (.ref b7), .val (.int (2 : Int32)), .val (.int (0 : Int32)), .val (.int (0 : Int32)), .unset] [])) _
          refine XS.iload X58.here hx rfl (hb hby at_96) rfl ?_
          show Steps p.tables e below (T58.setTop (mkF m 98 #[.val (.int p1), .val (.int p2), .val (.int p3), .val (.int p4), .val (.int p5), .val (.int p6), .val (.ref b7), .val (.int (2 : Int32)), .val (.int (0 : Int32)), .val (.int (0 : Int32)), .unset] [(.int (0 : Int32))])) _
          refine XS.ifNo X58.here hx rfl (hb hby at_98) rfl ((if0 _ _).trans (teq (by decide +kernel : (0 : Int32) = (0 : Int32))).2) ?_
          show Steps p.tables e below (T58.setTop (mkF m 101 #[.val (.int p1), .val (.int p2), .val (.int p3), .val (.int p4), .val (.int p5), .val (.int p6), .val (.ref b7), .val (.int (2 : Int32)), .val (.int (0 : Int32)), .val (.int (0 : Int32)), .unset] [])) _
          refine XS.iloadN X58.here hx rfl (hb hby at_101) rfl ?_
          show Steps p.tables e below (T58.setTop (mkF m 102 #[.val (.int p1), .val (.int p2), .val (.int p3), .val (.int p4), .val (.int p5), .val (.int p6), .val (.ref b7), .val (.int (2 : Int32)), .val (.int (0 : Int32)), .val (.int (0 : Int32)), .unset] [(.int p1)])) _
          refine XS.istore X58.here hx rfl (hb hby at_102) rfl (l' := #[.val (.int p1), .val (.int p2), .val (.int p3), .val (.int p4), .val (.int p5), .val (.int p6), .val (.ref b7), .val (.int (2 : Int32)), .val (.int (0 : Int32)), .val (.int (0 : Int32)), .val (.int p1)]) rfl ?_
          show Steps p.tables e below (T58.setTop (mkF m 104 #[.val (.int p1), .val (.int p2), .val (.int p3), .val (.int p4), .val (.int p5), .val (.int p6), .val (.ref b7), .val (.int (2 : Int32)), .val (.int (0 : Int32)), .val (.int (0 : Int32)), .val (.int p1)] [])) _
          refine XS.goto X58.here hx rfl (pc0 := 104) (pc' := 134) rfl (hb hby at_104) (by decide) (by decide) ?_
          show Steps p.tables e below (T58.setTop (mkF m 134 #[.val (.int p1), .val (.int p2), .val (.int p3), .val (.int p4), .val (.int p5), .val (.int p6), .val (.ref b7), .val (.int (2 : Int32)), .val (.int (0 : Int32)), .val (.int (0 : Int32)), .val (.int p1)] [])) _
          refine XS.aload X58.here hx rfl (hb hby at_134) rfl rfl ?_
          show Steps p.tables e below (T58.setTop (mkF m 136 #[.val (.int p1), .val (.int p2), .val (.int p3), .val (.int p4), .val (.int p5), .val (.int p6), .val (.ref b7), .val (.int (2 : Int32)), .val (.int (0 : Int32)), .val (.int (0 : Int32)), .val (.int p1)] [(.ref b7)])) _
          refine XS.iload X58.here hx rfl (hb hby at_136) rfl ?_
          show Steps p.tables e below (T58.setTop (mkF m 138 #[.val (.int p1), .val (.int p2), .val (.int p3), .val (.int p4), .val (.int p5), .val (.int p6), .val (.ref b7), .val (.int (2 : Int32)), .val (.int (0 : Int32)), .val (.int (0 : Int32)), .val (.int p1)] [(.int (0 : Int32)), (.ref b7)])) _
          refine st249.trans ?_
          show Steps p.tables e below (T249.setTop (mkF m 141 #[.val (.int p1), .val (.int p2), .val (.int p3), .val (.int p4), .val (.int p5), .val (.int p6), .val (.ref b7), .val (.int (2 : Int32)), .val (.int (0 : Int32)), .val (.int (0 : Int32)), .val (.int p1)] [(.int p1)])) _
          refine XS.iload X249.here hx rfl (hb hby at_141) rfl ?_
          show Steps p.tables e below (T249.setTop (mkF m 143 #[.val (.int p1), .val (.int p2), .val (.int p3), .val (.int p4), .val (.int p5), .val (.int p6), .val (.ref b7), .val (.int (2 : Int32)), .val (.int (0 : Int32)), .val (.int (0 : Int32)), .val (.int p1)] [(.int p1), (.int p1)])) _
          refine XS.icmpNo X249.here hx rfl (hb hby at_143) rfl (teq (rfl : p1 = p1)).2 ?_
          show Steps p.tables e below (T249.setTop (mkF m 146 #[.val (.int p1), .val (.int p2), .val (.int p3), .val (.int p4), .val (.int p5), .val (.int p6), .val (.ref b7), .val (.int (2 : Int32)), .val (.int (0 : Int32)), .val (.int (0 : Int32)), .val (.int p1)] [])) _
          refine XS.iconst X249.here hx rfl (hb hby at_146) ?_
          show Steps p.tables e below (T249.setTop (mkF m 147 #[.val (.int p1), .val (.int p2), .val (.int p3), .val (.int p4), .val (.int p5), .val (.int p6), .val (.ref b7), .val (.int (2 : Int32)), .val (.int (0 : Int32)), .val (.int (0 : Int32)), .val (.int p1)] [(.int (1 : Int32))])) _
          refine XS.goto X249.here hx rfl (pc0 := 147) (pc' := 151) rfl (hb hby at_147) (by decide) (by decide) ?_
          show Steps p.tables e below (T249.setTop (mkF m 151 #[.val (.int p1), .val (.int p2), .val (.int p3), .val (.int p4), .val (.int p5), .val (.int p6), .val (.ref b7), .val (.int (2 : Int32)), .val (.int (0 : Int32)), .val (.int (0 : Int32)), .val (.int p1)] [(.int (1 : Int32))])) _
          exact retN X249 hx (t := .boolean) Bd.returns (by simp) (hb hby at_151) hr
        · show Q0 Z _ _ _ _ _ _ h0 n0 _ T249.heap _
          rw [u252]
          exact ⟨rfl, N249⟩
      · skip
        have f253 : Arv Z T58.heap b9 k10 (.array .int) (1 : Int32) [(.ref b23)] .null := (f57.keep Ku61 (ninS (Nat.ne_of_lt (Nat.lt_of_lt_of_le u14 u27)) (ninS (Ne.symm (Nat.ne_of_lt (Nat.lt_of_lt_of_le lt_b7 u13))) nin0)))
        obtain ⟨cq254, kq254, q254a, q254b, q254c⟩ := isOf hZ rfl u64
        obtain ⟨_, _, ⟨T254, L254, k254, n254⟩, -, X254, ⟨Lc254, hQ254, l254, y254, z254⟩, st254⟩ := X58.virtualBack hx (y := M_2) (z := M_2) hown (mvT hZ (hw _ (gw 22 rfl))) (mvT hZ (hw _ (gw 23 rfl))) (notFace_of_selects (args := #[]) (mvT hZ (hw _ (gw 25 rfl)))) (mvT hZ (hw _ (gw 25 rfl))) (mvT hZ (hw _ (gw 24 rfl))) (by decide) (backOf (W := 0) (rm4_8 l Z a0 hw [] b7 b9 b23 k10 p1 p2 p3 p4 k24 T58.heap n0  Ou61 u65 f253 u63) hZ (hw _ (gw 26 rfl)) (hw _ (gw 2 rfl)) (by decide) (by decide)) q254a q254c (g := (mkF m 138 #[.val (.int p1), .val (.int p2), .val (.int p3), .val (.int p4), .val (.int p5), .val (.int p6), .val (.ref b7), .val (.int (2 : Int32)), .val (.int (0 : Int32)), .val (.int (1 : Int32)), .val (.int p2)] [(.int (1 : Int32)), (.ref b7)])) rfl (by rw [hml]; rfl) (Steps.refl _) (argsL := [(.int (1 : Int32))]) (rest := []) (lenOf pd_2 rfl) rfl (by show 2 * 0 + _ ≤ _; exact Nat.le_of_eq rfl) (hb hby at_138) (fun _ _ => ⟨rfl, rfl, (by decide : 3 + 0 ≤ _), (by decide : 4099 + 0 ≤ _)⟩)
        dsimp only [Pt.U, Pt.locs, Pt.cells, Pt.slots] at X254 l254 y254 z254 st254 hQ254
        subst l254 y254 z254
        obtain ⟨rfl, u256, u257⟩ := hQ254
        have N254 := Fr.app N58 u256
        obtain ⟨fs, hr, hrun, hended, hW, hsame⟩ := X254.leave (v := some (.int (1 : Int32))) (fun h => by rw [Bd.returns] at h; cases h)
        refine ⟨_, _, pre247 _ ?_, hrun, hended, _, _, rfl, ?_, ⟨_, rfl⟩, hW, hsame.mono (by decide) (by decide)⟩
        · show Steps p.tables e below (T58.setTop (mkF m 60 #[.val (.int p1), .val (.int p2), .val (.int p3), .val (.int p4), .val (.int p5), .val (.int p6), .val (.ref b7), .val (.int (2 : Int32)), .val (.int (0 : Int32)), .unset, .unset] [(.int (3 : Int32)), (.int i245)])) _
          refine XS.iand X58.here hx rfl (hb hby at_60) rfl ?_
          show Steps p.tables e below (T58.setTop (mkF m 61 #[.val (.int p1), .val (.int p2), .val (.int p3), .val (.int p4), .val (.int p5), .val (.int p6), .val (.ref b7), .val (.int (2 : Int32)), .val (.int (0 : Int32)), .unset, .unset] [(.int (i245 &&& (3 : Int32)))])) _
          rw [hq246]
          show Steps p.tables e below (T58.setTop (mkF m 61 #[.val (.int p1), .val (.int p2), .val (.int p3), .val (.int p4), .val (.int p5), .val (.int p6), .val (.ref b7), .val (.int (2 : Int32)), .val (.int (0 : Int32)), .unset, .unset] [(.int (1 : Int32))])) _
          refine XS.istore X58.here hx rfl (hb hby at_61) rfl (l' := #[.val (.int p1), .val (.int p2), .val (.int p3), .val (.int p4), .val (.int p5), .val (.int p6), .val (.ref b7), .val (.int (2 : Int32)), .val (.int (0 : Int32)), .val (.int (1 : Int32)), .unset]) rfl ?_
          show Steps p.tables e below (T58.setTop (mkF m 63 #[.val (.int p1), .val (.int p2), .val (.int p3), .val (.int p4), .val (.int p5), .val (.int p6), .val (.ref b7), .val (.int (2 : Int32)), .val (.int (0 : Int32)), .val (.int (1 : Int32)), .unset] [])) _
          refine XS.iload X58.here hx rfl (hb hby at_63) rfl ?_
          show Steps p.tables e below (T58.setTop (mkF m 65 #[.val (.int p1), .val (.int p2), .val (.int p3), .val (.int p4), .val (.int p5), .val (.int p6), .val (.ref b7), .val (.int (2 : Int32)), .val (.int (0 : Int32)), .val (.int (1 : Int32)), .unset] [(.int (0 : Int32))])) _
          refine XS.ifYes X58.here hx rfl (pc0 := 65) (pc' := 77) rfl (hb hby at_65) rfl ((if0 _ _).trans (teq (by decide +kernel : (0 : Int32) = (0 : Int32))).1) (by decide) (by decide) ?_
          show Steps p.tables e below (T58.setTop (mkF m 77 #[.val (.int p1), .val (.int p2), .val (.int p3), .val (.int p4), .val (.int p5), .val (.int p6), .val (.ref b7), .val (.int (2 : Int32)), .val (.int (0 : Int32)), .val (.int (1 : Int32)), .unset] [])) _
          refine XS.iload X58.here hx rfl (hb hby at_77) rfl ?_
          show Steps p.tables e below (T58.setTop (mkF m 79 #[.val (.int p1), .val (.int p2), .val (.int p3), .val (.int p4), .val (.int p5), .val (.int p6), .val (.ref b7), .val (.int (2 : Int32)), .val (.int (0 : Int32)), .val (.int (1 : Int32)), .unset] [(.int (0 : Int32))])) _
          refine XS.ifYes X58.here hx rfl (pc0 := 79) (pc' := 96) rfl (hb hby at_79) rfl ((if0 _ _).trans (teq (by decide +kernel : (0 : Int32) = (0 : Int32))).1) (by decide) (by decide) ?_
          show Steps p.tables e below (T58.setTop (mkF m 96 #[.val (.int p1), .val (.int p2), .val (.int p3), .val (.int p4), .val (.int p5), .val (.int p6), .val (.ref b7), .val (.int (2 : Int32)), .val (.int (0 : Int32)), .val (.int (1 : Int32)), .unset] [])) _
          refine XS.iload X58.here hx rfl (hb hby at_96) rfl ?_
          show Steps p.tables e below (T58.setTop (mkF m 98 #[.val (.int p1), .val (.int p2), .val (.int p3), .val (.int p4), .val (.int p5), .val (.int p6), .val (.ref b7), .val (.int (2 : Int32)), .val (.int (0 : Int32)), .val (.int (1 : Int32)), .unset] [(.int (1 : Int32))])) _
          refine XS.ifYes X58.here hx rfl (pc0 := 98) (pc' := 107) rfl (hb hby at_98) rfl ((if0 _ _).trans (feq (by decide +kernel : ¬ ((1 : Int32) = (0 : Int32)))).2) (by decide) (by decide) ?_
          show Steps p.tables e below (T58.setTop (mkF m 107 #[.val (.int p1), .val (.int p2), .val (.int p3), .val (.int p4), .val (.int p5), .val (.int p6), .val (.ref b7), .val (.int (2 : Int32)), .val (.int (0 : Int32)), .val (.int (1 : Int32)), .unset] [])) _
          refine XS.iload X58.here hx rfl (hb hby at_107) rfl ?_
          show Steps p.tables e below (T58.setTop (mkF m 109 #[.val (.int p1), .val (.int p2), .val (.int p3), .val (.int p4), .val (.int p5), .val (.int p6), .val (.ref b7), .val (.int (2 : Int32)), .val (.int (0 : Int32)), .val (.int (1 : Int32)), .unset] [(.int (1 : Int32))])) _
          refine XS.iconst X58.here hx rfl (hb hby at_109) ?_
          show Steps p.tables e below (T58.setTop (mkF m 110 #[.val (.int p1), .val (.int p2), .val (.int p3), .val (.int p4), .val (.int p5), .val (.int p6), .val (.ref b7), .val (.int (2 : Int32)), .val (.int (0 : Int32)), .val (.int (1 : Int32)), .unset] [(.int (1 : Int32)), (.int (1 : Int32))])) _
          refine XS.icmpNo X58.here hx rfl (hb hby at_110) rfl (teq (by decide +kernel : (1 : Int32) = (1 : Int32))).2 ?_
          show Steps p.tables e below (T58.setTop (mkF m 113 #[.val (.int p1), .val (.int p2), .val (.int p3), .val (.int p4), .val (.int p5), .val (.int p6), .val (.ref b7), .val (.int (2 : Int32)), .val (.int (0 : Int32)), .val (.int (1 : Int32)), .unset] [])) _
          refine XS.iloadN X58.here hx rfl (hb hby at_113) rfl ?_
          show Steps p.tables e below (T58.setTop (mkF m 114 #[.val (.int p1), .val (.int p2), .val (.int p3), .val (.int p4), .val (.int p5), .val (.int p6), .val (.ref b7), .val (.int (2 : Int32)), .val (.int (0 : Int32)), .val (.int (1 : Int32)), .unset] [(.int p2)])) _
          refine XS.istore X58.here hx rfl (hb hby at_114) rfl (l' := #[.val (.int p1), .val (.int p2), .val (.int p3), .val (.int p4), .val (.int p5), .val (.int p6), .val (.ref b7), .val (.int (2 : Int32)), .val (.int (0 : Int32)), .val (.int (1 : Int32)), .val (.int p2)]) rfl ?_
          show Steps p.tables e below (T58.setTop (mkF m 116 #[.val (.int p1), .val (.int p2), .val (.int p3), .val (.int p4), .val (.int p5), .val (.int p6), .val (.ref b7), .val (.int (2 : Int32)), .val (.int (0 : Int32)), .val (.int (1 : Int32)), .val (.int p2)] [])) _
          refine XS.goto X58.here hx rfl (pc0 := 116) (pc' := 134) rfl (hb hby at_116) (by decide) (by decide) ?_
          show Steps p.tables e below (T58.setTop (mkF m 134 #[.val (.int p1), .val (.int p2), .val (.int p3), .val (.int p4), .val (.int p5), .val (.int p6), .val (.ref b7), .val (.int (2 : Int32)), .val (.int (0 : Int32)), .val (.int (1 : Int32)), .val (.int p2)] [])) _
          refine XS.aload X58.here hx rfl (hb hby at_134) rfl rfl ?_
          show Steps p.tables e below (T58.setTop (mkF m 136 #[.val (.int p1), .val (.int p2), .val (.int p3), .val (.int p4), .val (.int p5), .val (.int p6), .val (.ref b7), .val (.int (2 : Int32)), .val (.int (0 : Int32)), .val (.int (1 : Int32)), .val (.int p2)] [(.ref b7)])) _
          refine XS.iload X58.here hx rfl (hb hby at_136) rfl ?_
          show Steps p.tables e below (T58.setTop (mkF m 138 #[.val (.int p1), .val (.int p2), .val (.int p3), .val (.int p4), .val (.int p5), .val (.int p6), .val (.ref b7), .val (.int (2 : Int32)), .val (.int (0 : Int32)), .val (.int (1 : Int32)), .val (.int p2)] [(.int (1 : Int32)), (.ref b7)])) _
          refine st254.trans ?_
          show Steps p.tables e below (T254.setTop (mkF m 141 #[.val (.int p1), .val (.int p2), .val (.int p3), .val (.int p4), .val (.int p5), .val (.int p6), .val (.ref b7), .val (.int (2 : Int32)), .val (.int (0 : Int32)), .val (.int (1 : Int32)), .val (.int p2)] [(.int p2)])) _
          refine XS.iload X254.here hx rfl (hb hby at_141) rfl ?_
          show Steps p.tables e below (T254.setTop (mkF m 143 #[.val (.int p1), .val (.int p2), .val (.int p3), .val (.int p4), .val (.int p5), .val (.int p6), .val (.ref b7), .val (.int (2 : Int32)), .val (.int (0 : Int32)), .val (.int (1 : Int32)), .val (.int p2)] [(.int p2), (.int p2)])) _
          refine XS.icmpNo X254.here hx rfl (hb hby at_143) rfl (teq (rfl : p2 = p2)).2 ?_
          show Steps p.tables e below (T254.setTop (mkF m 146 #[.val (.int p1), .val (.int p2), .val (.int p3), .val (.int p4), .val (.int p5), .val (.int p6), .val (.ref b7), .val (.int (2 : Int32)), .val (.int (0 : Int32)), .val (.int (1 : Int32)), .val (.int p2)] [])) _
          refine XS.iconst X254.here hx rfl (hb hby at_146) ?_
          show Steps p.tables e below (T254.setTop (mkF m 147 #[.val (.int p1), .val (.int p2), .val (.int p3), .val (.int p4), .val (.int p5), .val (.int p6), .val (.ref b7), .val (.int (2 : Int32)), .val (.int (0 : Int32)), .val (.int (1 : Int32)), .val (.int p2)] [(.int (1 : Int32))])) _
          refine XS.goto X254.here hx rfl (pc0 := 147) (pc' := 151) rfl (hb hby at_147) (by decide) (by decide) ?_
          show Steps p.tables e below (T254.setTop (mkF m 151 #[.val (.int p1), .val (.int p2), .val (.int p3), .val (.int p4), .val (.int p5), .val (.int p6), .val (.ref b7), .val (.int (2 : Int32)), .val (.int (0 : Int32)), .val (.int (1 : Int32)), .val (.int p2)] [(.int (1 : Int32))])) _
          exact retN X254 hx (t := .boolean) Bd.returns (by simp) (hb hby at_151) hr
        · show Q0 Z _ _ _ _ _ _ h0 n0 _ T254.heap _
          rw [u257]
          exact ⟨rfl, N254⟩
      · skip
        have f258 : Arv Z T58.heap b9 k10 (.array .int) (1 : Int32) [(.ref b23)] .null := (f57.keep Ku61 (ninS (Nat.ne_of_lt (Nat.lt_of_lt_of_le u14 u27)) (ninS (Ne.symm (Nat.ne_of_lt (Nat.lt_of_lt_of_le lt_b7 u13))) nin0)))
        obtain ⟨cq259, kq259, q259a, q259b, q259c⟩ := isOf hZ rfl u64
        obtain ⟨_, _, ⟨T259, L259, k259, n259⟩, -, X259, ⟨Lc259, hQ259, l259, y259, z259⟩, st259⟩ := X58.virtualBack hx (y := M_2) (z := M_2) hown (mvT hZ (hw _ (gw 22 rfl))) (mvT hZ (hw _ (gw 23 rfl))) (notFace_of_selects (args := #[]) (mvT hZ (hw _ (gw 25 rfl)))) (mvT hZ (hw _ (gw 25 rfl))) (mvT hZ (hw _ (gw 24 rfl))) (by decide) (backOf (W := 0) (rm4_9 l Z a0 hw [] b7 b9 b23 k10 p1 p2 p3 p4 k24 T58.heap n0  Ou61 u65 f258 u63) hZ (hw _ (gw 26 rfl)) (hw _ (gw 2 rfl)) (by decide) (by decide)) q259a q259c (g := (mkF m 138 #[.val (.int p1), .val (.int p2), .val (.int p3), .val (.int p4), .val (.int p5), .val (.int p6), .val (.ref b7), .val (.int (2 : Int32)), .val (.int (0 : Int32)), .val (.int (2 : Int32)), .val (.int p3)] [(.int (2 : Int32)), (.ref b7)])) rfl (by rw [hml]; rfl) (Steps.refl _) (argsL := [(.int (2 : Int32))]) (rest := []) (lenOf pd_2 rfl) rfl (by show 2 * 0 + _ ≤ _; exact Nat.le_of_eq rfl) (hb hby at_138) (fun _ _ => ⟨rfl, rfl, (by decide : 3 + 0 ≤ _), (by decide : 4099 + 0 ≤ _)⟩)
        dsimp only [Pt.U, Pt.locs, Pt.cells, Pt.slots] at X259 l259 y259 z259 st259 hQ259
        subst l259 y259 z259
        obtain ⟨rfl, u261, u262⟩ := hQ259
        have N259 := Fr.app N58 u261
        obtain ⟨fs, hr, hrun, hended, hW, hsame⟩ := X259.leave (v := some (.int (1 : Int32))) (fun h => by rw [Bd.returns] at h; cases h)
        refine ⟨_, _, pre247 _ ?_, hrun, hended, _, _, rfl, ?_, ⟨_, rfl⟩, hW, hsame.mono (by decide) (by decide)⟩
        · show Steps p.tables e below (T58.setTop (mkF m 60 #[.val (.int p1), .val (.int p2), .val (.int p3), .val (.int p4), .val (.int p5), .val (.int p6), .val (.ref b7), .val (.int (2 : Int32)), .val (.int (0 : Int32)), .unset, .unset] [(.int (3 : Int32)), (.int i245)])) _
          refine XS.iand X58.here hx rfl (hb hby at_60) rfl ?_
          show Steps p.tables e below (T58.setTop (mkF m 61 #[.val (.int p1), .val (.int p2), .val (.int p3), .val (.int p4), .val (.int p5), .val (.int p6), .val (.ref b7), .val (.int (2 : Int32)), .val (.int (0 : Int32)), .unset, .unset] [(.int (i245 &&& (3 : Int32)))])) _
          rw [hq246]
          show Steps p.tables e below (T58.setTop (mkF m 61 #[.val (.int p1), .val (.int p2), .val (.int p3), .val (.int p4), .val (.int p5), .val (.int p6), .val (.ref b7), .val (.int (2 : Int32)), .val (.int (0 : Int32)), .unset, .unset] [(.int (2 : Int32))])) _
          refine XS.istore X58.here hx rfl (hb hby at_61) rfl (l' := #[.val (.int p1), .val (.int p2), .val (.int p3), .val (.int p4), .val (.int p5), .val (.int p6), .val (.ref b7), .val (.int (2 : Int32)), .val (.int (0 : Int32)), .val (.int (2 : Int32)), .unset]) rfl ?_
          show Steps p.tables e below (T58.setTop (mkF m 63 #[.val (.int p1), .val (.int p2), .val (.int p3), .val (.int p4), .val (.int p5), .val (.int p6), .val (.ref b7), .val (.int (2 : Int32)), .val (.int (0 : Int32)), .val (.int (2 : Int32)), .unset] [])) _
          refine XS.iload X58.here hx rfl (hb hby at_63) rfl ?_
          show Steps p.tables e below (T58.setTop (mkF m 65 #[.val (.int p1), .val (.int p2), .val (.int p3), .val (.int p4), .val (.int p5), .val (.int p6), .val (.ref b7), .val (.int (2 : Int32)), .val (.int (0 : Int32)), .val (.int (2 : Int32)), .unset] [(.int (0 : Int32))])) _
          refine XS.ifYes X58.here hx rfl (pc0 := 65) (pc' := 77) rfl (hb hby at_65) rfl ((if0 _ _).trans (teq (by decide +kernel : (0 : Int32) = (0 : Int32))).1) (by decide) (by decide) ?_
          show Steps p.tables e below (T58.setTop (mkF m 77 #[.val (.int p1), .val (.int p2), .val (.int p3), .val (.int p4), .val (.int p5), .val (.int p6), .val (.ref b7), .val (.int (2 : Int32)), .val (.int (0 : Int32)), .val (.int (2 : Int32)), .unset] [])) _
          refine XS.iload X58.here hx rfl (hb hby at_77) rfl ?_
          show Steps p.tables e below (T58.setTop (mkF m 79 #[.val (.int p1), .val (.int p2), .val (.int p3), .val (.int p4), .val (.int p5), .val (.int p6), .val (.ref b7), .val (.int (2 : Int32)), .val (.int (0 : Int32)), .val (.int (2 : Int32)), .unset] [(.int (0 : Int32))])) _
          refine XS.ifYes X58.here hx rfl (pc0 := 79) (pc' := 96) rfl (hb hby at_79) rfl ((if0 _ _).trans (teq (by decide +kernel : (0 : Int32) = (0 : Int32))).1) (by decide) (by decide) ?_
          show Steps p.tables e below (T58.setTop (mkF m 96 #[.val (.int p1), .val (.int p2), .val (.int p3), .val (.int p4), .val (.int p5), .val (.int p6), .val (.ref b7), .val (.int (2 : Int32)), .val (.int (0 : Int32)), .val (.int (2 : Int32)), .unset] [])) _
          refine XS.iload X58.here hx rfl (hb hby at_96) rfl ?_
          show Steps p.tables e below (T58.setTop (mkF m 98 #[.val (.int p1), .val (.int p2), .val (.int p3), .val (.int p4), .val (.int p5), .val (.int p6), .val (.ref b7), .val (.int (2 : Int32)), .val (.int (0 : Int32)), .val (.int (2 : Int32)), .unset] [(.int (2 : Int32))])) _
          refine XS.ifYes X58.here hx rfl (pc0 := 98) (pc' := 107) rfl (hb hby at_98) rfl ((if0 _ _).trans (feq (by decide +kernel : ¬ ((2 : Int32) = (0 : Int32)))).2) (by decide) (by decide) ?_
          show Steps p.tables e below (T58.setTop (mkF m 107 #[.val (.int p1), .val (.int p2), .val (.int p3), .val (.int p4), .val (.int p5), .val (.int p6), .val (.ref b7), .val (.int (2 : Int32)), .val (.int (0 : Int32)), .val (.int (2 : Int32)), .unset] [])) _
          refine XS.iload X58.here hx rfl (hb hby at_107) rfl ?_
          show Steps p.tables e below (T58.setTop (mkF m 109 #[.val (.int p1), .val (.int p2), .val (.int p3), .val (.int p4), .val (.int p5), .val (.int p6), .val (.ref b7), .val (.int (2 : Int32)), .val (.int (0 : Int32)), .val (.int (2 : Int32)), .unset] [(.int (2 : Int32))])) _
          refine XS.iconst X58.here hx rfl (hb hby at_109) ?_
          show Steps p.tables e below (T58.setTop (mkF m 110 #[.val (.int p1), .val (.int p2), .val (.int p3), .val (.int p4), .val (.int p5), .val (.int p6), .val (.ref b7), .val (.int (2 : Int32)), .val (.int (0 : Int32)), .val (.int (2 : Int32)), .unset] [(.int (1 : Int32)), (.int (2 : Int32))])) _
          refine XS.icmpYes X58.here hx rfl (pc0 := 110) (pc' := 119) rfl (hb hby at_110) rfl (feq (by decide +kernel : ¬ ((2 : Int32) = (1 : Int32)))).2 (by decide) (by decide) ?_
          show Steps p.tables e below (T58.setTop (mkF m 119 #[.val (.int p1), .val (.int p2), .val (.int p3), .val (.int p4), .val (.int p5), .val (.int p6), .val (.ref b7), .val (.int (2 : Int32)), .val (.int (0 : Int32)), .val (.int (2 : Int32)), .unset] [])) _
          refine XS.iload X58.here hx rfl (hb hby at_119) rfl ?_
          show Steps p.tables e below (T58.setTop (mkF m 121 #[.val (.int p1), .val (.int p2), .val (.int p3), .val (.int p4), .val (.int p5), .val (.int p6), .val (.ref b7), .val (.int (2 : Int32)), .val (.int (0 : Int32)), .val (.int (2 : Int32)), .unset] [(.int (2 : Int32))])) _
          refine XS.iconst X58.here hx rfl (hb hby at_121) ?_
          show Steps p.tables e below (T58.setTop (mkF m 122 #[.val (.int p1), .val (.int p2), .val (.int p3), .val (.int p4), .val (.int p5), .val (.int p6), .val (.ref b7), .val (.int (2 : Int32)), .val (.int (0 : Int32)), .val (.int (2 : Int32)), .unset] [(.int (2 : Int32)), (.int (2 : Int32))])) _
          refine XS.icmpNo X58.here hx rfl (hb hby at_122) rfl (teq (by decide +kernel : (2 : Int32) = (2 : Int32))).2 ?_
          show Steps p.tables e below (T58.setTop (mkF m 125 #[.val (.int p1), .val (.int p2), .val (.int p3), .val (.int p4), .val (.int p5), .val (.int p6), .val (.ref b7), .val (.int (2 : Int32)), .val (.int (0 : Int32)), .val (.int (2 : Int32)), .unset] [])) _
          refine XS.iloadN X58.here hx rfl (hb hby at_125) rfl ?_
          show Steps p.tables e below (T58.setTop (mkF m 126 #[.val (.int p1), .val (.int p2), .val (.int p3), .val (.int p4), .val (.int p5), .val (.int p6), .val (.ref b7), .val (.int (2 : Int32)), .val (.int (0 : Int32)), .val (.int (2 : Int32)), .unset] [(.int p3)])) _
          refine XS.istore X58.here hx rfl (hb hby at_126) rfl (l' := #[.val (.int p1), .val (.int p2), .val (.int p3), .val (.int p4), .val (.int p5), .val (.int p6), .val (.ref b7), .val (.int (2 : Int32)), .val (.int (0 : Int32)), .val (.int (2 : Int32)), .val (.int p3)]) rfl ?_
          show Steps p.tables e below (T58.setTop (mkF m 128 #[.val (.int p1), .val (.int p2), .val (.int p3), .val (.int p4), .val (.int p5), .val (.int p6), .val (.ref b7), .val (.int (2 : Int32)), .val (.int (0 : Int32)), .val (.int (2 : Int32)), .val (.int p3)] [])) _
          refine XS.goto X58.here hx rfl (pc0 := 128) (pc' := 134) rfl (hb hby at_128) (by decide) (by decide) ?_
          show Steps p.tables e below (T58.setTop (mkF m 134 #[.val (.int p1), .val (.int p2), .val (.int p3), .val (.int p4), .val (.int p5), .val (.int p6), .val (.ref b7), .val (.int (2 : Int32)), .val (.int (0 : Int32)), .val (.int (2 : Int32)), .val (.int p3)] [])) _
          refine XS.aload X58.here hx rfl (hb hby at_134) rfl rfl ?_
          show Steps p.tables e below (T58.setTop (mkF m 136 #[.val (.int p1), .val (.int p2), .val (.int p3), .val (.int p4), .val (.int p5), .val (.int p6), .val (.ref b7), .val (.int (2 : Int32)), .val (.int (0 : Int32)), .val (.int (2 : Int32)), .val (.int p3)] [(.ref b7)])) _
          refine XS.iload X58.here hx rfl (hb hby at_136) rfl ?_
          show Steps p.tables e below (T58.setTop (mkF m 138 #[.val (.int p1), .val (.int p2), .val (.int p3), .val (.int p4), .val (.int p5), .val (.int p6), .val (.ref b7), .val (.int (2 : Int32)), .val (.int (0 : Int32)), .val (.int (2 : Int32)), .val (.int p3)] [(.int (2 : Int32)), (.ref b7)])) _
          refine st259.trans ?_
          show Steps p.tables e below (T259.setTop (mkF m 141 #[.val (.int p1), .val (.int p2), .val (.int p3), .val (.int p4), .val (.int p5), .val (.int p6), .val (.ref b7), .val (.int (2 : Int32)), .val (.int (0 : Int32)), .val (.int (2 : Int32)), .val (.int p3)] [(.int p3)])) _
          refine XS.iload X259.here hx rfl (hb hby at_141) rfl ?_
          show Steps p.tables e below (T259.setTop (mkF m 143 #[.val (.int p1), .val (.int p2), .val (.int p3), .val (.int p4), .val (.int p5), .val (.int p6), .val (.ref b7), .val (.int (2 : Int32)), .val (.int (0 : Int32)), .val (.int (2 : Int32)), .val (.int p3)] [(.int p3), (.int p3)])) _
          refine XS.icmpNo X259.here hx rfl (hb hby at_143) rfl (teq (rfl : p3 = p3)).2 ?_
          show Steps p.tables e below (T259.setTop (mkF m 146 #[.val (.int p1), .val (.int p2), .val (.int p3), .val (.int p4), .val (.int p5), .val (.int p6), .val (.ref b7), .val (.int (2 : Int32)), .val (.int (0 : Int32)), .val (.int (2 : Int32)), .val (.int p3)] [])) _
          refine XS.iconst X259.here hx rfl (hb hby at_146) ?_
          show Steps p.tables e below (T259.setTop (mkF m 147 #[.val (.int p1), .val (.int p2), .val (.int p3), .val (.int p4), .val (.int p5), .val (.int p6), .val (.ref b7), .val (.int (2 : Int32)), .val (.int (0 : Int32)), .val (.int (2 : Int32)), .val (.int p3)] [(.int (1 : Int32))])) _
          refine XS.goto X259.here hx rfl (pc0 := 147) (pc' := 151) rfl (hb hby at_147) (by decide) (by decide) ?_
          show Steps p.tables e below (T259.setTop (mkF m 151 #[.val (.int p1), .val (.int p2), .val (.int p3), .val (.int p4), .val (.int p5), .val (.int p6), .val (.ref b7), .val (.int (2 : Int32)), .val (.int (0 : Int32)), .val (.int (2 : Int32)), .val (.int p3)] [(.int (1 : Int32))])) _
          exact retN X259 hx (t := .boolean) Bd.returns (by simp) (hb hby at_151) hr
        · show Q0 Z _ _ _ _ _ _ h0 n0 _ T259.heap _
          rw [u262]
          exact ⟨rfl, N259⟩
      · skip
        have f263 : Arv Z T58.heap b9 k10 (.array .int) (1 : Int32) [(.ref b23)] .null := (f57.keep Ku61 (ninS (Nat.ne_of_lt (Nat.lt_of_lt_of_le u14 u27)) (ninS (Ne.symm (Nat.ne_of_lt (Nat.lt_of_lt_of_le lt_b7 u13))) nin0)))
        obtain ⟨cq264, kq264, q264a, q264b, q264c⟩ := isOf hZ rfl u64
        obtain ⟨_, _, ⟨T264, L264, k264, n264⟩, -, X264, ⟨Lc264, hQ264, l264, y264, z264⟩, st264⟩ := X58.virtualBack hx (y := M_2) (z := M_2) hown (mvT hZ (hw _ (gw 22 rfl))) (mvT hZ (hw _ (gw 23 rfl))) (notFace_of_selects (args := #[]) (mvT hZ (hw _ (gw 25 rfl)))) (mvT hZ (hw _ (gw 25 rfl))) (mvT hZ (hw _ (gw 24 rfl))) (by decide) (backOf (W := 0) (rm4_10 l Z a0 hw [] b7 b9 b23 k10 p1 p2 p3 p4 k24 T58.heap n0  Ou61 u65 f263 u63) hZ (hw _ (gw 26 rfl)) (hw _ (gw 2 rfl)) (by decide) (by decide)) q264a q264c (g := (mkF m 138 #[.val (.int p1), .val (.int p2), .val (.int p3), .val (.int p4), .val (.int p5), .val (.int p6), .val (.ref b7), .val (.int (2 : Int32)), .val (.int (0 : Int32)), .val (.int (3 : Int32)), .val (.int p4)] [(.int (3 : Int32)), (.ref b7)])) rfl (by rw [hml]; rfl) (Steps.refl _) (argsL := [(.int (3 : Int32))]) (rest := []) (lenOf pd_2 rfl) rfl (by show 2 * 0 + _ ≤ _; exact Nat.le_of_eq rfl) (hb hby at_138) (fun _ _ => ⟨rfl, rfl, (by decide : 3 + 0 ≤ _), (by decide : 4099 + 0 ≤ _)⟩)
        dsimp only [Pt.U, Pt.locs, Pt.cells, Pt.slots] at X264 l264 y264 z264 st264 hQ264
        subst l264 y264 z264
        obtain ⟨rfl, u266, u267⟩ := hQ264
        have N264 := Fr.app N58 u266
        obtain ⟨fs, hr, hrun, hended, hW, hsame⟩ := X264.leave (v := some (.int (1 : Int32))) (fun h => by rw [Bd.returns] at h; cases h)
        refine ⟨_, _, pre247 _ ?_, hrun, hended, _, _, rfl, ?_, ⟨_, rfl⟩, hW, hsame.mono (by decide) (by decide)⟩
        · show Steps p.tables e below (T58.setTop (mkF m 60 #[.val (.int p1), .val (.int p2), .val (.int p3), .val (.int p4), .val (.int p5), .val (.int p6), .val (.ref b7), .val (.int (2 : Int32)), .val (.int (0 : Int32)), .unset, .unset] [(.int (3 : Int32)), (.int i245)])) _
          refine XS.iand X58.here hx rfl (hb hby at_60) rfl ?_
          show Steps p.tables e below (T58.setTop (mkF m 61 #[.val (.int p1), .val (.int p2), .val (.int p3), .val (.int p4), .val (.int p5), .val (.int p6), .val (.ref b7), .val (.int (2 : Int32)), .val (.int (0 : Int32)), .unset, .unset] [(.int (i245 &&& (3 : Int32)))])) _
          rw [hq246]
          show Steps p.tables e below (T58.setTop (mkF m 61 #[.val (.int p1), .val (.int p2), .val (.int p3), .val (.int p4), .val (.int p5), .val (.int p6), .val (.ref b7), .val (.int (2 : Int32)), .val (.int (0 : Int32)), .unset, .unset] [(.int (3 : Int32))])) _
          refine XS.istore X58.here hx rfl (hb hby at_61) rfl (l' := #[.val (.int p1), .val (.int p2), .val (.int p3), .val (.int p4), .val (.int p5), .val (.int p6), .val (.ref b7), .val (.int (2 : Int32)), .val (.int (0 : Int32)), .val (.int (3 : Int32)), .unset]) rfl ?_
          show Steps p.tables e below (T58.setTop (mkF m 63 #[.val (.int p1), .val (.int p2), .val (.int p3), .val (.int p4), .val (.int p5), .val (.int p6), .val (.ref b7), .val (.int (2 : Int32)), .val (.int (0 : Int32)), .val (.int (3 : Int32)), .unset] [])) _
          refine XS.iload X58.here hx rfl (hb hby at_63) rfl ?_
          show Steps p.tables e below (T58.setTop (mkF m 65 #[.val (.int p1), .val (.int p2), .val (.int p3), .val (.int p4), .val (.int p5), .val (.int p6), .val (.ref b7), .val (.int (2 : Int32)), .val (.int (0 : Int32)), .val (.int (3 : Int32)), .unset] [(.int (0 : Int32))])) _
          refine XS.ifYes X58.here hx rfl (pc0 := 65) (pc' := 77) rfl (hb hby at_65) rfl ((if0 _ _).trans (teq (by decide +kernel : (0 : Int32) = (0 : Int32))).1) (by decide) (by decide) ?_
          show Steps p.tables e below (T58.setTop (mkF m 77 #[.val (.int p1), .val (.int p2), .val (.int p3), .val (.int p4), .val (.int p5), .val (.int p6), .val (.ref b7), .val (.int (2 : Int32)), .val (.int (0 : Int32)), .val (.int (3 : Int32)), .unset] [])) _
          refine XS.iload X58.here hx rfl (hb hby at_77) rfl ?_
          show Steps p.tables e below (T58.setTop (mkF m 79 #[.val (.int p1), .val (.int p2), .val (.int p3), .val (.int p4), .val (.int p5), .val (.int p6), .val (.ref b7), .val (.int (2 : Int32)), .val (.int (0 : Int32)), .val (.int (3 : Int32)), .unset] [(.int (0 : Int32))])) _
          refine XS.ifYes X58.here hx rfl (pc0 := 79) (pc' := 96) rfl (hb hby at_79) rfl ((if0 _ _).trans (teq (by decide +kernel : (0 : Int32) = (0 : Int32))).1) (by decide) (by decide) ?_
          show Steps p.tables e below (T58.setTop (mkF m 96 #[.val (.int p1), .val (.int p2), .val (.int p3), .val (.int p4), .val (.int p5), .val (.int p6), .val (.ref b7), .val (.int (2 : Int32)), .val (.int (0 : Int32)), .val (.int (3 : Int32)), .unset] [])) _
          refine XS.iload X58.here hx rfl (hb hby at_96) rfl ?_
          show Steps p.tables e below (T58.setTop (mkF m 98 #[.val (.int p1), .val (.int p2), .val (.int p3), .val (.int p4), .val (.int p5), .val (.int p6), .val (.ref b7), .val (.int (2 : Int32)), .val (.int (0 : Int32)), .val (.int (3 : Int32)), .unset] [(.int (3 : Int32))])) _
          refine XS.ifYes X58.here hx rfl (pc0 := 98) (pc' := 107) rfl (hb hby at_98) rfl ((if0 _ _).trans (feq (by decide +kernel : ¬ ((3 : Int32) = (0 : Int32)))).2) (by decide) (by decide) ?_
          show Steps p.tables e below (T58.setTop (mkF m 107 #[.val (.int p1), .val (.int p2), .val (.int p3), .val (.int p4), .val (.int p5), .val (.int p6), .val (.ref b7), .val (.int (2 : Int32)), .val (.int (0 : Int32)), .val (.int (3 : Int32)), .unset] [])) _
          refine XS.iload X58.here hx rfl (hb hby at_107) rfl ?_
          show Steps p.tables e below (T58.setTop (mkF m 109 #[.val (.int p1), .val (.int p2), .val (.int p3), .val (.int p4), .val (.int p5), .val (.int p6), .val (.ref b7), .val (.int (2 : Int32)), .val (.int (0 : Int32)), .val (.int (3 : Int32)), .unset] [(.int (3 : Int32))])) _
          refine XS.iconst X58.here hx rfl (hb hby at_109) ?_
          show Steps p.tables e below (T58.setTop (mkF m 110 #[.val (.int p1), .val (.int p2), .val (.int p3), .val (.int p4), .val (.int p5), .val (.int p6), .val (.ref b7), .val (.int (2 : Int32)), .val (.int (0 : Int32)), .val (.int (3 : Int32)), .unset] [(.int (1 : Int32)), (.int (3 : Int32))])) _
          refine XS.icmpYes X58.here hx rfl (pc0 := 110) (pc' := 119) rfl (hb hby at_110) rfl (feq (by decide +kernel : ¬ ((3 : Int32) = (1 : Int32)))).2 (by decide) (by decide) ?_
          show Steps p.tables e below (T58.setTop (mkF m 119 #[.val (.int p1), .val (.int p2), .val (.int p3), .val (.int p4), .val (.int p5), .val (.int p6), .val (.ref b7), .val (.int (2 : Int32)), .val (.int (0 : Int32)), .val (.int (3 : Int32)), .unset] [])) _
          refine XS.iload X58.here hx rfl (hb hby at_119) rfl ?_
          show Steps p.tables e below (T58.setTop (mkF m 121 #[.val (.int p1), .val (.int p2), .val (.int p3), .val (.int p4), .val (.int p5), .val (.int p6), .val (.ref b7), .val (.int (2 : Int32)), .val (.int (0 : Int32)), .val (.int (3 : Int32)), .unset] [(.int (3 : Int32))])) _
          refine XS.iconst X58.here hx rfl (hb hby at_121) ?_
          show Steps p.tables e below (T58.setTop (mkF m 122 #[.val (.int p1), .val (.int p2), .val (.int p3), .val (.int p4), .val (.int p5), .val (.int p6), .val (.ref b7), .val (.int (2 : Int32)), .val (.int (0 : Int32)), .val (.int (3 : Int32)), .unset] [(.int (2 : Int32)), (.int (3 : Int32))])) _
          refine XS.icmpYes X58.here hx rfl (pc0 := 122) (pc' := 131) rfl (hb hby at_122) rfl (feq (by decide +kernel : ¬ ((3 : Int32) = (2 : Int32)))).2 (by decide) (by decide) ?_
          show Steps p.tables e below (T58.setTop (mkF m 131 #[.val (.int p1), .val (.int p2), .val (.int p3), .val (.int p4), .val (.int p5), .val (.int p6), .val (.ref b7), .val (.int (2 : Int32)), .val (.int (0 : Int32)), .val (.int (3 : Int32)), .unset] [])) _
          refine XS.iloadN X58.here hx rfl (hb hby at_131) rfl ?_
          show Steps p.tables e below (T58.setTop (mkF m 132 #[.val (.int p1), .val (.int p2), .val (.int p3), .val (.int p4), .val (.int p5), .val (.int p6), .val (.ref b7), .val (.int (2 : Int32)), .val (.int (0 : Int32)), .val (.int (3 : Int32)), .unset] [(.int p4)])) _
          refine XS.istore X58.here hx rfl (hb hby at_132) rfl (l' := #[.val (.int p1), .val (.int p2), .val (.int p3), .val (.int p4), .val (.int p5), .val (.int p6), .val (.ref b7), .val (.int (2 : Int32)), .val (.int (0 : Int32)), .val (.int (3 : Int32)), .val (.int p4)]) rfl ?_
          show Steps p.tables e below (T58.setTop (mkF m 134 #[.val (.int p1), .val (.int p2), .val (.int p3), .val (.int p4), .val (.int p5), .val (.int p6), .val (.ref b7), .val (.int (2 : Int32)), .val (.int (0 : Int32)), .val (.int (3 : Int32)), .val (.int p4)] [])) _
          refine XS.aload X58.here hx rfl (hb hby at_134) rfl rfl ?_
          show Steps p.tables e below (T58.setTop (mkF m 136 #[.val (.int p1), .val (.int p2), .val (.int p3), .val (.int p4), .val (.int p5), .val (.int p6), .val (.ref b7), .val (.int (2 : Int32)), .val (.int (0 : Int32)), .val (.int (3 : Int32)), .val (.int p4)] [(.ref b7)])) _
          refine XS.iload X58.here hx rfl (hb hby at_136) rfl ?_
          show Steps p.tables e below (T58.setTop (mkF m 138 #[.val (.int p1), .val (.int p2), .val (.int p3), .val (.int p4), .val (.int p5), .val (.int p6), .val (.ref b7), .val (.int (2 : Int32)), .val (.int (0 : Int32)), .val (.int (3 : Int32)), .val (.int p4)] [(.int (3 : Int32)), (.ref b7)])) _
          refine st264.trans ?_
          show Steps p.tables e below (T264.setTop (mkF m 141 #[.val (.int p1), .val (.int p2), .val (.int p3), .val (.int p4), .val (.int p5), .val (.int p6), .val (.ref b7), .val (.int (2 : Int32)), .val (.int (0 : Int32)), .val (.int (3 : Int32)), .val (.int p4)] [(.int p4)])) _
          refine XS.iload X264.here hx rfl (hb hby at_141) rfl ?_
          show Steps p.tables e below (T264.setTop (mkF m 143 #[.val (.int p1), .val (.int p2), .val (.int p3), .val (.int p4), .val (.int p5), .val (.int p6), .val (.ref b7), .val (.int (2 : Int32)), .val (.int (0 : Int32)), .val (.int (3 : Int32)), .val (.int p4)] [(.int p4), (.int p4)])) _
          refine XS.icmpNo X264.here hx rfl (hb hby at_143) rfl (teq (rfl : p4 = p4)).2 ?_
          show Steps p.tables e below (T264.setTop (mkF m 146 #[.val (.int p1), .val (.int p2), .val (.int p3), .val (.int p4), .val (.int p5), .val (.int p6), .val (.ref b7), .val (.int (2 : Int32)), .val (.int (0 : Int32)), .val (.int (3 : Int32)), .val (.int p4)] [])) _
          refine XS.iconst X264.here hx rfl (hb hby at_146) ?_
          show Steps p.tables e below (T264.setTop (mkF m 147 #[.val (.int p1), .val (.int p2), .val (.int p3), .val (.int p4), .val (.int p5), .val (.int p6), .val (.ref b7), .val (.int (2 : Int32)), .val (.int (0 : Int32)), .val (.int (3 : Int32)), .val (.int p4)] [(.int (1 : Int32))])) _
          refine XS.goto X264.here hx rfl (pc0 := 147) (pc' := 151) rfl (hb hby at_147) (by decide) (by decide) ?_
          show Steps p.tables e below (T264.setTop (mkF m 151 #[.val (.int p1), .val (.int p2), .val (.int p3), .val (.int p4), .val (.int p5), .val (.int p6), .val (.ref b7), .val (.int (2 : Int32)), .val (.int (0 : Int32)), .val (.int (3 : Int32)), .val (.int p4)] [(.int (1 : Int32))])) _
          exact retN X264 hx (t := .boolean) Bd.returns (by simp) (hb hby at_151) hr
        · show Q0 Z _ _ _ _ _ _ h0 n0 _ T264.heap _
          rw [u267]
          exact ⟨rfl, N264⟩
    · skip
      obtain ⟨i268, hi268⟩ : ∃ z, z = ((p5.toUInt32 >>> ((3 : Int32) &&& 31).toUInt32).toInt32) := ⟨_, rfl⟩
      have pre270 : ∀ t, Steps p.tables e below (T58.setTop (mkF m 60 #[.val (.int p1), .val (.int p2), .val (.int p3), .val (.int p4), .val (.int p5), .val (.int p6), .val (.ref b7), .val (.int (2 : Int32)), .val (.int (1 : Int32)), .unset, .unset] [(.int (3 : Int32)), (.int i268)])) t → Steps p.tables e below (s₁.setTop (entryFrame m #[(.int p1), (.int p2), (.int p3), (.int p4), (.int p5), (.int p6)] maxLocals)) t := by
        intro t kt
        refine pre243 t ?_
        show Steps p.tables e below (T58.setTop (mkF m 45 #[.val (.int p1), .val (.int p2), .val (.int p3), .val (.int p4), .val (.int p5), .val (.int p6), .val (.ref b7), .val (.int (2 : Int32)), .unset, .unset, .unset] [(.int i242)])) _
        refine XS.ifNo X58.here hx rfl (hb hby at_45) rfl ((if0 _ _).trans (feq hc244).1) ?_
        show Steps p.tables e below (T58.setTop (mkF m 48 #[.val (.int p1), .val (.int p2), .val (.int p3), .val (.int p4), .val (.int p5), .val (.int p6), .val (.ref b7), .val (.int (2 : Int32)), .unset, .unset, .unset] [])) _
        refine XS.iconst X58.here hx rfl (hb hby at_48) ?_
        show Steps p.tables e below (T58.setTop (mkF m 49 #[.val (.int p1), .val (.int p2), .val (.int p3), .val (.int p4), .val (.int p5), .val (.int p6), .val (.ref b7), .val (.int (2 : Int32)), .unset, .unset, .unset] [(.int (1 : Int32))])) _
        refine XS.goto X58.here hx rfl (pc0 := 49) (pc' := 53) rfl (hb hby at_49) (by decide) (by decide) ?_
        show Steps p.tables e below (T58.setTop (mkF m 53 #[.val (.int p1), .val (.int p2), .val (.int p3), .val (.int p4), .val (.int p5), .val (.int p6), .val (.ref b7), .val (.int (2 : Int32)), .unset, .unset, .unset] [(.int (1 : Int32))])) _
        refine XS.istore X58.here hx rfl (hb hby at_53) rfl (l' := #[.val (.int p1), .val (.int p2), .val (.int p3), .val (.int p4), .val (.int p5), .val (.int p6), .val (.ref b7), .val (.int (2 : Int32)), .val (.int (1 : Int32)), .unset, .unset]) rfl ?_
        show Steps p.tables e below (T58.setTop (mkF m 55 #[.val (.int p1), .val (.int p2), .val (.int p3), .val (.int p4), .val (.int p5), .val (.int p6), .val (.ref b7), .val (.int (2 : Int32)), .val (.int (1 : Int32)), .unset, .unset] [])) _
        refine XS.iload X58.here hx rfl (hb hby at_55) rfl ?_
        show Steps p.tables e below (T58.setTop (mkF m 57 #[.val (.int p1), .val (.int p2), .val (.int p3), .val (.int p4), .val (.int p5), .val (.int p6), .val (.ref b7), .val (.int (2 : Int32)), .val (.int (1 : Int32)), .unset, .unset] [(.int p5)])) _
        refine XS.iconst X58.here hx rfl (hb hby at_57) ?_
        show Steps p.tables e below (T58.setTop (mkF m 58 #[.val (.int p1), .val (.int p2), .val (.int p3), .val (.int p4), .val (.int p5), .val (.int p6), .val (.ref b7), .val (.int (2 : Int32)), .val (.int (1 : Int32)), .unset, .unset] [(.int (3 : Int32)), (.int p5)])) _
        refine XS.iushr X58.here hx rfl (hb hby at_58) rfl ?_
        show Steps p.tables e below (T58.setTop (mkF m 59 #[.val (.int p1), .val (.int p2), .val (.int p3), .val (.int p4), .val (.int p5), .val (.int p6), .val (.ref b7), .val (.int (2 : Int32)), .val (.int (1 : Int32)), .unset, .unset] [(.int ((p5.toUInt32 >>> ((3 : Int32) &&& 31).toUInt32).toInt32))])) _
        rw [← hi268]
        show Steps p.tables e below (T58.setTop (mkF m 59 #[.val (.int p1), .val (.int p2), .val (.int p3), .val (.int p4), .val (.int p5), .val (.int p6), .val (.ref b7), .val (.int (2 : Int32)), .val (.int (1 : Int32)), .unset, .unset] [(.int i268)])) _
        refine XS.iconst X58.here hx rfl (hb hby at_59) ?_
        show Steps p.tables e below (T58.setTop (mkF m 60 #[.val (.int p1), .val (.int p2), .val (.int p3), .val (.int p4), .val (.int p5), .val (.int p6), .val (.ref b7), .val (.int (2 : Int32)), .val (.int (1 : Int32)), .unset, .unset] [(.int (3 : Int32)), (.int i268)])) _
        exact kt
      rcases (own_and3 i268) with hq269 | hq269 | hq269 | hq269
      · skip
        have f271 : Arv Z T58.heap b9 k10 (.array .int) (1 : Int32) [(.ref b23)] .null := (f57.keep Ku61 (ninS (Nat.ne_of_lt (Nat.lt_of_lt_of_le u14 u27)) (ninS (Ne.symm (Nat.ne_of_lt (Nat.lt_of_lt_of_le lt_b7 u13))) nin0)))
        obtain ⟨cq272, kq272, q272a, q272b, q272c⟩ := isOf hZ rfl u64
        obtain ⟨_, _, ⟨T272, L272, k272, n272⟩, -, X272, ⟨Lc272, hQ272, l272, y272, z272⟩, st272⟩ := X58.virtualBack hx (y := M_3) (z := M_3) hown (mvT hZ (hw _ (gw 27 rfl))) (mvT hZ (hw _ (gw 28 rfl))) (notFace_of_selects (args := #[]) (mvT hZ (hw _ (gw 30 rfl)))) (mvT hZ (hw _ (gw 30 rfl))) (mvT hZ (hw _ (gw 29 rfl))) (by decide) (backOf (W := 0) (rm5_13 l Z a0 hw [] b7 p6 b9 b23 k10 p1 p2 p3 p4 k24 T58.heap n0  Ou61 u65 f271 u63 g_b23 u62) hZ (hw _ (gw 31 rfl)) (hw _ (gw 2 rfl)) (by decide) (by decide)) q272a q272c (g := (mkF m 74 #[.val (.int p1), .val (.int p2), .val (.int p3), .val (.int p4), .val (.int p5), .val (.int p6), .val (.ref b7), .val (.int (2 : Int32)), .val (.int (1 : Int32)), .val (.int (0 : Int32)), .unset] [(.int p6), (.int (2 : Int32)), (.ref b7)])) rfl (by rw [hml]; rfl) (Steps.refl _) (argsL := [(.int (2 : Int32)), (.int p6)]) (rest := []) (lenOf pd_3 rfl) rfl (by show 2 * 0 + _ ≤ _; exact Nat.le_of_eq rfl) (hb hby at_74) (fun _ _ => ⟨rfl, rfl, (by decide : 3 + 0 ≤ _), (by decide : 4099 + 0 ≤ _)⟩)
        dsimp only [Pt.U, Pt.locs, Pt.cells, Pt.slots] at X272 l272 y272 z272 st272 hQ272
        subst l272 y272 z272
        obtain ⟨rfl, u274, Ku275, u276, u277⟩ := hQ272
        have Ou275 : Old Z n0 T272.heap := Ou61.keep Ku275 (allS g_b23 all0)
        have N272 := Fr.app N58 u274
        have f278 : Fld Z T272.heap b7 "com/example/vestry/vestry/Ints" "blocks" "[[I" (.ref b9) := (u65.keep Ku275 (ninS (Nat.ne_of_lt (Nat.lt_of_lt_of_le (Nat.lt_of_lt_of_le lt_b7 Ku15.1) u27)) nin0))
        have f279 : Arv Z T272.heap b9 k10 (.array .int) (1 : Int32) [(.ref b23)] .null := (f271.keep Ku275 (ninS (Nat.ne_of_lt (Nat.lt_of_lt_of_le u14 u27)) nin0))
        have f281 : Exa Z T272.heap b7 "com/example/vestry/vestry/Ints" := (u64.keep Ku275)
        obtain ⟨cq280, kq280, q280a, q280b, q280c⟩ := isOf hZ rfl f281
        obtain ⟨_, _, ⟨T280, L280, k280, n280⟩, -, X280, ⟨Lc280, hQ280, l280, y280, z280⟩, st280⟩ := X272.virtualBack hx (y := M_2) (z := M_2) hown (mvT hZ (hw _ (gw 22 rfl))) (mvT hZ (hw _ (gw 23 rfl))) (notFace_of_selects (args := #[]) (mvT hZ (hw _ (gw 25 rfl)))) (mvT hZ (hw _ (gw 25 rfl))) (mvT hZ (hw _ (gw 24 rfl))) (by decide) (backOf (W := 0) (rm4_7 l Z a0 hw [] b7 b9 b23 k10 p1 p2 p6 p4 k24 T272.heap n0  Ou275 f278 f279 u277) hZ (hw _ (gw 26 rfl)) (hw _ (gw 2 rfl)) (by decide) (by decide)) q280a q280c (g := (mkF m 138 #[.val (.int p1), .val (.int p2), .val (.int p3), .val (.int p4), .val (.int p5), .val (.int p6), .val (.ref b7), .val (.int (2 : Int32)), .val (.int (1 : Int32)), .val (.int (0 : Int32)), .val (.int p1)] [(.int (0 : Int32)), (.ref b7)])) rfl (by rw [hml]; rfl) (Steps.refl _) (argsL := [(.int (0 : Int32))]) (rest := []) (lenOf pd_2 rfl) rfl (by show 2 * 0 + _ ≤ _; exact Nat.le_of_eq rfl) (hb hby at_138) (fun _ _ => ⟨rfl, rfl, (by decide : 3 + 0 ≤ _), (by decide : 4099 + 0 ≤ _)⟩)
        dsimp only [Pt.U, Pt.locs, Pt.cells, Pt.slots] at X280 l280 y280 z280 st280 hQ280
        subst l280 y280 z280
        obtain ⟨rfl, u283, u284⟩ := hQ280
        have N280 := Fr.app N272 u283
        obtain ⟨fs, hr, hrun, hended, hW, hsame⟩ := X280.leave (v := some (.int (1 : Int32))) (fun h => by rw [Bd.returns] at h; cases h)
        refine ⟨_, _, pre270 _ ?_, hrun, hended, _, _, rfl, ?_, ⟨_, rfl⟩, hW, hsame.mono (by decide) (by decide)⟩
        · show Steps p.tables e below (T58.setTop (mkF m 60 #[.val (.int p1), .val (.int p2), .val (.int p3), .val (.int p4), .val (.int p5), .val (.int p6), .val (.ref b7), .val (.int (2 : Int32)), .val (.int (1 : Int32)), .unset, .unset] [(.int (3 : Int32)), (.int i268)])) _
          refine XS.iand X58.here hx rfl (hb hby at_60) rfl ?_
          show Steps p.tables e below (T58.setTop (mkF m 61 #[.val (.int p1), .val (.int p2), .val (.int p3), .val (.int p4), .val (.int p5), .val (.int p6), .val (.ref b7), .val (.int (2 : Int32)), .val (.int (1 : Int32)), .unset, .unset] [(.int (i268 &&& (3 : Int32)))])) _
          rw [hq269]
          show Steps p.tables e below (T58.setTop (mkF m 61 #[.val (.int p1), .val (.int p2), .val (.int p3), .val (.int p4), .val (.int p5), .val (.int p6), .val (.ref b7), .val (.int (2 : Int32)), .val (.int (1 : Int32)), .unset, .unset] [(.int (0 : Int32))])) _
          refine XS.istore X58.here hx rfl (hb hby at_61) rfl (l' := #[.val (.int p1), .val (.int p2), .val (.int p3), .val (.int p4), .val (.int p5), .val (.int p6), .val (.ref b7), .val (.int (2 : Int32)), .val (.int (1 : Int32)), .val (.int (0 : Int32)), .unset]) rfl ?_
          show Steps p.tables e below (T58.setTop (mkF m 63 #[.val (.int p1), .val (.int p2), .val (.int p3), .val (.int p4), .val (.int p5), .val (.int p6), .val (.ref b7), .val (.int (2 : Int32)), .val (.int (1 : Int32)), .val (.int (0 : Int32)), .unset] [])) _
          refine XS.iload X58.here hx rfl (hb hby at_63) rfl ?_
          show Steps p.tables e below (T58.setTop (mkF m 65 #[.val (.int p1), .val (.int p2), .val (.int p3), .val (.int p4), .val (.int p5), .val (.int p6), .val (.ref b7), .val (.int (2 : Int32)), .val (.int (1 : Int32)), .val (.int (0 : Int32)), .unset] [(.int (1 : Int32))])) _
          refine XS.ifNo X58.here hx rfl (hb hby at_65) rfl ((if0 _ _).trans (feq (by decide +kernel : ¬ ((1 : Int32) = (0 : Int32)))).1) ?_
          show Steps p.tables e below (T58.setTop (mkF m 68 #[.val (.int p1), .val (.int p2), .val (.int p3), .val (.int p4), .val (.int p5), .val (.int p6), .val (.ref b7), .val (.int (2 : Int32)), .val (.int (1 : Int32)), .val (.int (0 : Int32)), .unset] [])) _
          refine XS.aload X58.here hx rfl (hb hby at_68) rfl rfl ?_
          show Steps p.tables e below (T58.setTop (mkF m 70 #[.val (.int p1), .val (.int p2), .val (.int p3), .val (.int p4), .val (.int p5), .val (.int p6), .val (.ref b7), .val (.int (2 : Int32)), .val (.int (1 : Int32)), .val (.int (0 : Int32)), .unset] [(.ref b7)])) _
          refine XS.iload X58.here hx rfl (hb hby at_70) rfl ?_
          show Steps p.tables e below (T58.setTop (mkF m 72 #[.val (.int p1), .val (.int p2), .val (.int p3), .val (.int p4), .val (.int p5), .val (.int p6), .val (.ref b7), .val (.int (2 : Int32)), .val (.int (1 : Int32)), .val (.int (0 : Int32)), .unset] [(.int (2 : Int32)), (.ref b7)])) _
          refine XS.iload X58.here hx rfl (hb hby at_72) rfl ?_
          show Steps p.tables e below (T58.setTop (mkF m 74 #[.val (.int p1), .val (.int p2), .val (.int p3), .val (.int p4), .val (.int p5), .val (.int p6), .val (.ref b7), .val (.int (2 : Int32)), .val (.int (1 : Int32)), .val (.int (0 : Int32)), .unset] [(.int p6), (.int (2 : Int32)), (.ref b7)])) _
          refine st272.trans ?_
          show Steps p.tables e below (T272.setTop (mkF m 77 #[.val (.int p1), .val (.int p2), .val (.int p3), .val (.int p4), .val (.int p5), .val (.int p6), .val (.ref b7), .val (.int (2 : Int32)), .val (.int (1 : Int32)), .val (.int (0 : Int32)), .unset] [])) _
          refine XS.iload X272.here hx rfl (hb hby at_77) rfl ?_
          show Steps p.tables e below (T272.setTop (mkF m 79 #[.val (.int p1), .val (.int p2), .val (.int p3), .val (.int p4), .val (.int p5), .val (.int p6), .val (.ref b7), .val (.int (2 : Int32)), .val (.int (1 : Int32)), .val (.int (0 : Int32)), .unset] [(.int (1 : Int32))])) _
          refine XS.ifNo X272.here hx rfl (hb hby at_79) rfl ((if0 _ _).trans (feq (by decide +kernel : ¬ ((1 : Int32) = (0 : Int32)))).1) ?_
          show Steps p.tables e below (T272.setTop (mkF m 82 #[.val (.int p1), .val (.int p2), .val (.int p3), .val (.int p4), .val (.int p5), .val (.int p6), .val (.ref b7), .val (.int (2 : Int32)), .val (.int (1 : Int32)), .val (.int (0 : Int32)), .unset] [])) _
          refine XS.iload X272.here hx rfl (hb hby at_82) rfl ?_
          show Steps p.tables e below (T272.setTop (mkF m 84 #[.val (.int p1), .val (.int p2), .val (.int p3), .val (.int p4), .val (.int p5), .val (.int p6), .val (.ref b7), .val (.int (2 : Int32)), .val (.int (1 : Int32)), .val (.int (0 : Int32)), .unset] [(.int (0 : Int32))])) _
          refine XS.iload X272.here hx rfl (hb hby at_84) rfl ?_
          show Steps p.tables e below (T272.setTop (mkF m 86 #[.val (.int p1), .val (.int p2), .val (.int p3), .val (.int p4), .val (.int p5), .val (.int p6), .val (.ref b7), .val (.int (2 : Int32)), .val (.int (1 : Int32)), .val (.int (0 : Int32)), .unset] [(.int (2 : Int32)), (.int (0 : Int32))])) _
          refine XS.icmpYes X272.here hx rfl (pc0 := 86) (pc' := 96) rfl (hb hby at_86) rfl (feq (by decide +kernel : ¬ ((0 : Int32) = (2 : Int32)))).2 (by decide) (by decide) ?_
          show Steps p.tables e below (T272.setTop (mkF m 96 #[.val (.int p1), .val (.int p2), .val (.int p3), .val (.int p4), .val (.int p5), .val (.int p6), .val (.ref b7), .val (.int (2 : Int32)), .val (.int (1 : Int32)), .val (.int (0 : Int32)), .unset] [])) _
          refine XS.iload X272.here hx rfl (hb hby at_96) rfl ?_
          show Steps p.tables e below (T272.setTop (mkF m 98 #[.val (.int p1), .val (.int p2), .val (.int p3), .val (.int p4), .val (.int p5), .val (.int p6), .val (.ref b7), .val (.int (2 : Int32)), .val (.int (1 : Int32)), .val (.int (0 : Int32)), .unset] [(.int (0 : Int32))])) _
          refine XS.ifNo X272.here hx rfl (hb hby at_98) rfl ((if0 _ _).trans (teq (by decide +kernel : (0 : Int32) = (0 : Int32))).2) ?_
          show Steps p.tables e below (T272.setTop (mkF m 101 #[.val (.int p1), .val (.int p2), .val (.int p3), .val (.int p4), .val (.int p5), .val (.int p6), .val (.ref b7), .val (.int (2 : Int32)), .val (.int (1 : Int32)), .val (.int (0 : Int32)), .unset] [])) _
          refine XS.iloadN X272.here hx rfl (hb hby at_101) rfl ?_
          show Steps p.tables e below (T272.setTop (mkF m 102 #[.val (.int p1), .val (.int p2), .val (.int p3), .val (.int p4), .val (.int p5), .val (.int p6), .val (.ref b7), .val (.int (2 : Int32)), .val (.int (1 : Int32)), .val (.int (0 : Int32)), .unset] [(.int p1)])) _
          refine XS.istore X272.here hx rfl (hb hby at_102) rfl (l' := #[.val (.int p1), .val (.int p2), .val (.int p3), .val (.int p4), .val (.int p5), .val (.int p6), .val (.ref b7), .val (.int (2 : Int32)), .val (.int (1 : Int32)), .val (.int (0 : Int32)), .val (.int p1)]) rfl ?_
          show Steps p.tables e below (T272.setTop (mkF m 104 #[.val (.int p1), .val (.int p2), .val (.int p3), .val (.int p4), .val (.int p5), .val (.int p6), .val (.ref b7), .val (.int (2 : Int32)), .val (.int (1 : Int32)), .val (.int (0 : Int32)), .val (.int p1)] [])) _
          refine XS.goto X272.here hx rfl (pc0 := 104) (pc' := 134) rfl (hb hby at_104) (by decide) (by decide) ?_
          show Steps p.tables e below (T272.setTop (mkF m 134 #[.val (.int p1), .val (.int p2), .val (.int p3), .val (.int p4), .val (.int p5), .val (.int p6), .val (.ref b7), .val (.int (2 : Int32)), .val (.int (1 : Int32)), .val (.int (0 : Int32)), .val (.int p1)] [])) _
          refine XS.aload X272.here hx rfl (hb hby at_134) rfl rfl ?_
          show Steps p.tables e below (T272.setTop (mkF m 136 #[.val (.int p1), .val (.int p2), .val (.int p3), .val (.int p4), .val (.int p5), .val (.int p6), .val (.ref b7), .val (.int (2 : Int32)), .val (.int (1 : Int32)), .val (.int (0 : Int32)), .val (.int p1)] [(.ref b7)])) _
          refine XS.iload X272.here hx rfl (hb hby at_136) rfl ?_
          show Steps p.tables e below (T272.setTop (mkF m 138 #[.val (.int p1), .val (.int p2), .val (.int p3), .val (.int p4), .val (.int p5), .val (.int p6), .val (.ref b7), .val (.int (2 : Int32)), .val (.int (1 : Int32)), .val (.int (0 : Int32)), .val (.int p1)] [(.int (0 : Int32)), (.ref b7)])) _
          refine st280.trans ?_
          show Steps p.tables e below (T280.setTop (mkF m 141 #[.val (.int p1), .val (.int p2), .val (.int p3), .val (.int p4), .val (.int p5), .val (.int p6), .val (.ref b7), .val (.int (2 : Int32)), .val (.int (1 : Int32)), .val (.int (0 : Int32)), .val (.int p1)] [(.int p1)])) _
          refine XS.iload X280.here hx rfl (hb hby at_141) rfl ?_
          show Steps p.tables e below (T280.setTop (mkF m 143 #[.val (.int p1), .val (.int p2), .val (.int p3), .val (.int p4), .val (.int p5), .val (.int p6), .val (.ref b7), .val (.int (2 : Int32)), .val (.int (1 : Int32)), .val (.int (0 : Int32)), .val (.int p1)] [(.int p1), (.int p1)])) _
          refine XS.icmpNo X280.here hx rfl (hb hby at_143) rfl (teq (rfl : p1 = p1)).2 ?_
          show Steps p.tables e below (T280.setTop (mkF m 146 #[.val (.int p1), .val (.int p2), .val (.int p3), .val (.int p4), .val (.int p5), .val (.int p6), .val (.ref b7), .val (.int (2 : Int32)), .val (.int (1 : Int32)), .val (.int (0 : Int32)), .val (.int p1)] [])) _
          refine XS.iconst X280.here hx rfl (hb hby at_146) ?_
          show Steps p.tables e below (T280.setTop (mkF m 147 #[.val (.int p1), .val (.int p2), .val (.int p3), .val (.int p4), .val (.int p5), .val (.int p6), .val (.ref b7), .val (.int (2 : Int32)), .val (.int (1 : Int32)), .val (.int (0 : Int32)), .val (.int p1)] [(.int (1 : Int32))])) _
          refine XS.goto X280.here hx rfl (pc0 := 147) (pc' := 151) rfl (hb hby at_147) (by decide) (by decide) ?_
          show Steps p.tables e below (T280.setTop (mkF m 151 #[.val (.int p1), .val (.int p2), .val (.int p3), .val (.int p4), .val (.int p5), .val (.int p6), .val (.ref b7), .val (.int (2 : Int32)), .val (.int (1 : Int32)), .val (.int (0 : Int32)), .val (.int p1)] [(.int (1 : Int32))])) _
          exact retN X280 hx (t := .boolean) Bd.returns (by simp) (hb hby at_151) hr
        · show Q0 Z _ _ _ _ _ _ h0 n0 _ T280.heap _
          rw [u284]
          exact ⟨rfl, N280⟩
      · skip
        have f285 : Arv Z T58.heap b9 k10 (.array .int) (1 : Int32) [(.ref b23)] .null := (f57.keep Ku61 (ninS (Nat.ne_of_lt (Nat.lt_of_lt_of_le u14 u27)) (ninS (Ne.symm (Nat.ne_of_lt (Nat.lt_of_lt_of_le lt_b7 u13))) nin0)))
        obtain ⟨cq286, kq286, q286a, q286b, q286c⟩ := isOf hZ rfl u64
        obtain ⟨_, _, ⟨T286, L286, k286, n286⟩, -, X286, ⟨Lc286, hQ286, l286, y286, z286⟩, st286⟩ := X58.virtualBack hx (y := M_3) (z := M_3) hown (mvT hZ (hw _ (gw 27 rfl))) (mvT hZ (hw _ (gw 28 rfl))) (notFace_of_selects (args := #[]) (mvT hZ (hw _ (gw 30 rfl)))) (mvT hZ (hw _ (gw 30 rfl))) (mvT hZ (hw _ (gw 29 rfl))) (by decide) (backOf (W := 0) (rm5_13 l Z a0 hw [] b7 p6 b9 b23 k10 p1 p2 p3 p4 k24 T58.heap n0  Ou61 u65 f285 u63 g_b23 u62) hZ (hw _ (gw 31 rfl)) (hw _ (gw 2 rfl)) (by decide) (by decide)) q286a q286c (g := (mkF m 74 #[.val (.int p1), .val (.int p2), .val (.int p3), .val (.int p4), .val (.int p5), .val (.int p6), .val (.ref b7), .val (.int (2 : Int32)), .val (.int (1 : Int32)), .val (.int (1 : Int32)), .unset] [(.int p6), (.int (2 : Int32)), (.ref b7)])) rfl (by rw [hml]; rfl) (Steps.refl _) (argsL := [(.int (2 : Int32)), (.int p6)]) (rest := []) (lenOf pd_3 rfl) rfl (by show 2 * 0 + _ ≤ _; exact Nat.le_of_eq rfl) (hb hby at_74) (fun _ _ => ⟨rfl, rfl, (by decide : 3 + 0 ≤ _), (by decide : 4099 + 0 ≤ _)⟩)
        dsimp only [Pt.U, Pt.locs, Pt.cells, Pt.slots] at X286 l286 y286 z286 st286 hQ286
        subst l286 y286 z286
        obtain ⟨rfl, u288, Ku289, u290, u291⟩ := hQ286
        have Ou289 : Old Z n0 T286.heap := Ou61.keep Ku289 (allS g_b23 all0)
        have N286 := Fr.app N58 u288
        have f292 : Fld Z T286.heap b7 "com/example/vestry/vestry/Ints" "blocks" "[[I" (.ref b9) := (u65.keep Ku289 (ninS (Nat.ne_of_lt (Nat.lt_of_lt_of_le (Nat.lt_of_lt_of_le lt_b7 Ku15.1) u27)) nin0))
        have f293 : Arv Z T286.heap b9 k10 (.array .int) (1 : Int32) [(.ref b23)] .null := (f285.keep Ku289 (ninS (Nat.ne_of_lt (Nat.lt_of_lt_of_le u14 u27)) nin0))
        have f295 : Exa Z T286.heap b7 "com/example/vestry/vestry/Ints" := (u64.keep Ku289)
        obtain ⟨cq294, kq294, q294a, q294b, q294c⟩ := isOf hZ rfl f295
        obtain ⟨_, _, ⟨T294, L294, k294, n294⟩, -, X294, ⟨Lc294, hQ294, l294, y294, z294⟩, st294⟩ := X286.virtualBack hx (y := M_2) (z := M_2) hown (mvT hZ (hw _ (gw 22 rfl))) (mvT hZ (hw _ (gw 23 rfl))) (notFace_of_selects (args := #[]) (mvT hZ (hw _ (gw 25 rfl)))) (mvT hZ (hw _ (gw 25 rfl))) (mvT hZ (hw _ (gw 24 rfl))) (by decide) (backOf (W := 0) (rm4_8 l Z a0 hw [] b7 b9 b23 k10 p1 p2 p6 p4 k24 T286.heap n0  Ou289 f292 f293 u291) hZ (hw _ (gw 26 rfl)) (hw _ (gw 2 rfl)) (by decide) (by decide)) q294a q294c (g := (mkF m 138 #[.val (.int p1), .val (.int p2), .val (.int p3), .val (.int p4), .val (.int p5), .val (.int p6), .val (.ref b7), .val (.int (2 : Int32)), .val (.int (1 : Int32)), .val (.int (1 : Int32)), .val (.int p2)] [(.int (1 : Int32)), (.ref b7)])) rfl (by rw [hml]; rfl) (Steps.refl _) (argsL := [(.int (1 : Int32))]) (rest := []) (lenOf pd_2 rfl) rfl (by show 2 * 0 + _ ≤ _; exact Nat.le_of_eq rfl) (hb hby at_138) (fun _ _ => ⟨rfl, rfl, (by decide : 3 + 0 ≤ _), (by decide : 4099 + 0 ≤ _)⟩)
        dsimp only [Pt.U, Pt.locs, Pt.cells, Pt.slots] at X294 l294 y294 z294 st294 hQ294
        subst l294 y294 z294
        obtain ⟨rfl, u297, u298⟩ := hQ294
        have N294 := Fr.app N286 u297
        obtain ⟨fs, hr, hrun, hended, hW, hsame⟩ := X294.leave (v := some (.int (1 : Int32))) (fun h => by rw [Bd.returns] at h; cases h)
        refine ⟨_, _, pre270 _ ?_, hrun, hended, _, _, rfl, ?_, ⟨_, rfl⟩, hW, hsame.mono (by decide) (by decide)⟩
        · show Steps p.tables e below (T58.setTop (mkF m 60 #[.val (.int p1), .val (.int p2), .val (.int p3), .val (.int p4), .val (.int p5), .val (.int p6), .val (.ref b7), .val (.int (2 : Int32)), .val (.int (1 : Int32)), .unset, .unset] [(.int (3 : Int32)), (.int i268)])) _
          refine XS.iand X58.here hx rfl (hb hby at_60) rfl ?_
          show Steps p.tables e below (T58.setTop (mkF m 61 #[.val (.int p1), .val (.int p2), .val (.int p3), .val (.int p4), .val (.int p5), .val (.int p6), .val (.ref b7), .val (.int (2 : Int32)), .val (.int (1 : Int32)), .unset, .unset] [(.int (i268 &&& (3 : Int32)))])) _
          rw [hq269]
          show Steps p.tables e below (T58.setTop (mkF m 61 #[.val (.int p1), .val (.int p2), .val (.int p3), .val (.int p4), .val (.int p5), .val (.int p6), .val (.ref b7), .val (.int (2 : Int32)), .val (.int (1 : Int32)), .unset, .unset] [(.int (1 : Int32))])) _
          refine XS.istore X58.here hx rfl (hb hby at_61) rfl (l' := #[.val (.int p1), .val (.int p2), .val (.int p3), .val (.int p4), .val (.int p5), .val (.int p6), .val (.ref b7), .val (.int (2 : Int32)), .val (.int (1 : Int32)), .val (.int (1 : Int32)), .unset]) rfl ?_
          show Steps p.tables e below (T58.setTop (mkF m 63 #[.val (.int p1), .val (.int p2), .val (.int p3), .val (.int p4), .val (.int p5), .val (.int p6), .val (.ref b7), .val (.int (2 : Int32)), .val (.int (1 : Int32)), .val (.int (1 : Int32)), .unset] [])) _
          refine XS.iload X58.here hx rfl (hb hby at_63) rfl ?_
          show Steps p.tables e below (T58.setTop (mkF m 65 #[.val (.int p1), .val (.int p2), .val (.int p3), .val (.int p4), .val (.int p5), .val (.int p6), .val (.ref b7), .val (.int (2 : Int32)), .val (.int (1 : Int32)), .val (.int (1 : Int32)), .unset] [(.int (1 : Int32))])) _
          refine XS.ifNo X58.here hx rfl (hb hby at_65) rfl ((if0 _ _).trans (feq (by decide +kernel : ¬ ((1 : Int32) = (0 : Int32)))).1) ?_
          show Steps p.tables e below (T58.setTop (mkF m 68 #[.val (.int p1), .val (.int p2), .val (.int p3), .val (.int p4), .val (.int p5), .val (.int p6), .val (.ref b7), .val (.int (2 : Int32)), .val (.int (1 : Int32)), .val (.int (1 : Int32)), .unset] [])) _
          refine XS.aload X58.here hx rfl (hb hby at_68) rfl rfl ?_
          show Steps p.tables e below (T58.setTop (mkF m 70 #[.val (.int p1), .val (.int p2), .val (.int p3), .val (.int p4), .val (.int p5), .val (.int p6), .val (.ref b7), .val (.int (2 : Int32)), .val (.int (1 : Int32)), .val (.int (1 : Int32)), .unset] [(.ref b7)])) _
          refine XS.iload X58.here hx rfl (hb hby at_70) rfl ?_
          show Steps p.tables e below (T58.setTop (mkF m 72 #[.val (.int p1), .val (.int p2), .val (.int p3), .val (.int p4), .val (.int p5), .val (.int p6), .val (.ref b7), .val (.int (2 : Int32)), .val (.int (1 : Int32)), .val (.int (1 : Int32)), .unset] [(.int (2 : Int32)), (.ref b7)])) _
          refine XS.iload X58.here hx rfl (hb hby at_72) rfl ?_
          show Steps p.tables e below (T58.setTop (mkF m 74 #[.val (.int p1), .val (.int p2), .val (.int p3), .val (.int p4), .val (.int p5), .val (.int p6), .val (.ref b7), .val (.int (2 : Int32)), .val (.int (1 : Int32)), .val (.int (1 : Int32)), .unset] [(.int p6), (.int (2 : Int32)), (.ref b7)])) _
          refine st286.trans ?_
          show Steps p.tables e below (T286.setTop (mkF m 77 #[.val (.int p1), .val (.int p2), .val (.int p3), .val (.int p4), .val (.int p5), .val (.int p6), .val (.ref b7), .val (.int (2 : Int32)), .val (.int (1 : Int32)), .val (.int (1 : Int32)), .unset] [])) _
          refine XS.iload X286.here hx rfl (hb hby at_77) rfl ?_
          show Steps p.tables e below (T286.setTop (mkF m 79 #[.val (.int p1), .val (.int p2), .val (.int p3), .val (.int p4), .val (.int p5), .val (.int p6), .val (.ref b7), .val (.int (2 : Int32)), .val (.int (1 : Int32)), .val (.int (1 : Int32)), .unset] [(.int (1 : Int32))])) _
          refine XS.ifNo X286.here hx rfl (hb hby at_79) rfl ((if0 _ _).trans (feq (by decide +kernel : ¬ ((1 : Int32) = (0 : Int32)))).1) ?_
          show Steps p.tables e below (T286.setTop (mkF m 82 #[.val (.int p1), .val (.int p2), .val (.int p3), .val (.int p4), .val (.int p5), .val (.int p6), .val (.ref b7), .val (.int (2 : Int32)), .val (.int (1 : Int32)), .val (.int (1 : Int32)), .unset] [])) _
          refine XS.iload X286.here hx rfl (hb hby at_82) rfl ?_
          show Steps p.tables e below (T286.setTop (mkF m 84 #[.val (.int p1), .val (.int p2), .val (.int p3), .val (.int p4), .val (.int p5), .val (.int p6), .val (.ref b7), .val (.int (2 : Int32)), .val (.int (1 : Int32)), .val (.int (1 : Int32)), .unset] [(.int (1 : Int32))])) _
          refine XS.iload X286.here hx rfl (hb hby at_84) rfl ?_
          show Steps p.tables e below (T286.setTop (mkF m 86 #[.val (.int p1), .val (.int p2), .val (.int p3), .val (.int p4), .val (.int p5), .val (.int p6), .val (.ref b7), .val (.int (2 : Int32)), .val (.int (1 : Int32)), .val (.int (1 : Int32)), .unset] [(.int (2 : Int32)), (.int (1 : Int32))])) _
          refine XS.icmpYes X286.here hx rfl (pc0 := 86) (pc' := 96) rfl (hb hby at_86) rfl (feq (by decide +kernel : ¬ ((1 : Int32) = (2 : Int32)))).2 (by decide) (by decide) ?_
          show Steps p.tables e below (T286.setTop (mkF m 96 #[.val (.int p1), .val (.int p2), .val (.int p3), .val (.int p4), .val (.int p5), .val (.int p6), .val (.ref b7), .val (.int (2 : Int32)), .val (.int (1 : Int32)), .val (.int (1 : Int32)), .unset] [])) _
          refine XS.iload X286.here hx rfl (hb hby at_96) rfl ?_
          show Steps p.tables e below (T286.setTop (mkF m 98 #[.val (.int p1), .val (.int p2), .val (.int p3), .val (.int p4), .val (.int p5), .val (.int p6), .val (.ref b7), .val (.int (2 : Int32)), .val (.int (1 : Int32)), .val (.int (1 : Int32)), .unset] [(.int (1 : Int32))])) _
          refine XS.ifYes X286.here hx rfl (pc0 := 98) (pc' := 107) rfl (hb hby at_98) rfl ((if0 _ _).trans (feq (by decide +kernel : ¬ ((1 : Int32) = (0 : Int32)))).2) (by decide) (by decide) ?_
          show Steps p.tables e below (T286.setTop (mkF m 107 #[.val (.int p1), .val (.int p2), .val (.int p3), .val (.int p4), .val (.int p5), .val (.int p6), .val (.ref b7), .val (.int (2 : Int32)), .val (.int (1 : Int32)), .val (.int (1 : Int32)), .unset] [])) _
          refine XS.iload X286.here hx rfl (hb hby at_107) rfl ?_
          show Steps p.tables e below (T286.setTop (mkF m 109 #[.val (.int p1), .val (.int p2), .val (.int p3), .val (.int p4), .val (.int p5), .val (.int p6), .val (.ref b7), .val (.int (2 : Int32)), .val (.int (1 : Int32)), .val (.int (1 : Int32)), .unset] [(.int (1 : Int32))])) _
          refine XS.iconst X286.here hx rfl (hb hby at_109) ?_
          show Steps p.tables e below (T286.setTop (mkF m 110 #[.val (.int p1), .val (.int p2), .val (.int p3), .val (.int p4), .val (.int p5), .val (.int p6), .val (.ref b7), .val (.int (2 : Int32)), .val (.int (1 : Int32)), .val (.int (1 : Int32)), .unset] [(.int (1 : Int32)), (.int (1 : Int32))])) _
          refine XS.icmpNo X286.here hx rfl (hb hby at_110) rfl (teq (by decide +kernel : (1 : Int32) = (1 : Int32))).2 ?_
          show Steps p.tables e below (T286.setTop (mkF m 113 #[.val (.int p1), .val (.int p2), .val (.int p3), .val (.int p4), .val (.int p5), .val (.int p6), .val (.ref b7), .val (.int (2 : Int32)), .val (.int (1 : Int32)), .val (.int (1 : Int32)), .unset] [])) _
          refine XS.iloadN X286.here hx rfl (hb hby at_113) rfl ?_
          show Steps p.tables e below (T286.setTop (mkF m 114 #[.val (.int p1), .val (.int p2), .val (.int p3), .val (.int p4), .val (.int p5), .val (.int p6), .val (.ref b7), .val (.int (2 : Int32)), .val (.int (1 : Int32)), .val (.int (1 : Int32)), .unset] [(.int p2)])) _
          refine XS.istore X286.here hx rfl (hb hby at_114) rfl (l' := #[.val (.int p1), .val (.int p2), .val (.int p3), .val (.int p4), .val (.int p5), .val (.int p6), .val (.ref b7), .val (.int (2 : Int32)), .val (.int (1 : Int32)), .val (.int (1 : Int32)), .val (.int p2)]) rfl ?_
          show Steps p.tables e below (T286.setTop (mkF m 116 #[.val (.int p1), .val (.int p2), .val (.int p3), .val (.int p4), .val (.int p5), .val (.int p6), .val (.ref b7), .val (.int (2 : Int32)), .val (.int (1 : Int32)), .val (.int (1 : Int32)), .val (.int p2)] [])) _
          refine XS.goto X286.here hx rfl (pc0 := 116) (pc' := 134) rfl (hb hby at_116) (by decide) (by decide) ?_
          show Steps p.tables e below (T286.setTop (mkF m 134 #[.val (.int p1), .val (.int p2), .val (.int p3), .val (.int p4), .val (.int p5), .val (.int p6), .val (.ref b7), .val (.int (2 : Int32)), .val (.int (1 : Int32)), .val (.int (1 : Int32)), .val (.int p2)] [])) _
          refine XS.aload X286.here hx rfl (hb hby at_134) rfl rfl ?_
          show Steps p.tables e below (T286.setTop (mkF m 136 #[.val (.int p1), .val (.int p2), .val (.int p3), .val (.int p4), .val (.int p5), .val (.int p6), .val (.ref b7), .val (.int (2 : Int32)), .val (.int (1 : Int32)), .val (.int (1 : Int32)), .val (.int p2)] [(.ref b7)])) _
          refine XS.iload X286.here hx rfl (hb hby at_136) rfl ?_
          show Steps p.tables e below (T286.setTop (mkF m 138 #[.val (.int p1), .val (.int p2), .val (.int p3), .val (.int p4), .val (.int p5), .val (.int p6), .val (.ref b7), .val (.int (2 : Int32)), .val (.int (1 : Int32)), .val (.int (1 : Int32)), .val (.int p2)] [(.int (1 : Int32)), (.ref b7)])) _
          refine st294.trans ?_
          show Steps p.tables e below (T294.setTop (mkF m 141 #[.val (.int p1), .val (.int p2), .val (.int p3), .val (.int p4), .val (.int p5), .val (.int p6), .val (.ref b7), .val (.int (2 : Int32)), .val (.int (1 : Int32)), .val (.int (1 : Int32)), .val (.int p2)] [(.int p2)])) _
          refine XS.iload X294.here hx rfl (hb hby at_141) rfl ?_
          show Steps p.tables e below (T294.setTop (mkF m 143 #[.val (.int p1), .val (.int p2), .val (.int p3), .val (.int p4), .val (.int p5), .val (.int p6), .val (.ref b7), .val (.int (2 : Int32)), .val (.int (1 : Int32)), .val (.int (1 : Int32)), .val (.int p2)] [(.int p2), (.int p2)])) _
          refine XS.icmpNo X294.here hx rfl (hb hby at_143) rfl (teq (rfl : p2 = p2)).2 ?_
          show Steps p.tables e below (T294.setTop (mkF m 146 #[.val (.int p1), .val (.int p2), .val (.int p3), .val (.int p4), .val (.int p5), .val (.int p6), .val (.ref b7), .val (.int (2 : Int32)), .val (.int (1 : Int32)), .val (.int (1 : Int32)), .val (.int p2)] [])) _
          refine XS.iconst X294.here hx rfl (hb hby at_146) ?_
          show Steps p.tables e below (T294.setTop (mkF m 147 #[.val (.int p1), .val (.int p2), .val (.int p3), .val (.int p4), .val (.int p5), .val (.int p6), .val (.ref b7), .val (.int (2 : Int32)), .val (.int (1 : Int32)), .val (.int (1 : Int32)), .val (.int p2)] [(.int (1 : Int32))])) _
          refine XS.goto X294.here hx rfl (pc0 := 147) (pc' := 151) rfl (hb hby at_147) (by decide) (by decide) ?_
          show Steps p.tables e below (T294.setTop (mkF m 151 #[.val (.int p1), .val (.int p2), .val (.int p3), .val (.int p4), .val (.int p5), .val (.int p6), .val (.ref b7), .val (.int (2 : Int32)), .val (.int (1 : Int32)), .val (.int (1 : Int32)), .val (.int p2)] [(.int (1 : Int32))])) _
          exact retN X294 hx (t := .boolean) Bd.returns (by simp) (hb hby at_151) hr
        · show Q0 Z _ _ _ _ _ _ h0 n0 _ T294.heap _
          rw [u298]
          exact ⟨rfl, N294⟩
      · skip
        have f299 : Arv Z T58.heap b9 k10 (.array .int) (1 : Int32) [(.ref b23)] .null := (f57.keep Ku61 (ninS (Nat.ne_of_lt (Nat.lt_of_lt_of_le u14 u27)) (ninS (Ne.symm (Nat.ne_of_lt (Nat.lt_of_lt_of_le lt_b7 u13))) nin0)))
        obtain ⟨cq300, kq300, q300a, q300b, q300c⟩ := isOf hZ rfl u64
        obtain ⟨_, _, ⟨T300, L300, k300, n300⟩, -, X300, ⟨Lc300, hQ300, l300, y300, z300⟩, st300⟩ := X58.virtualBack hx (y := M_3) (z := M_3) hown (mvT hZ (hw _ (gw 27 rfl))) (mvT hZ (hw _ (gw 28 rfl))) (notFace_of_selects (args := #[]) (mvT hZ (hw _ (gw 30 rfl)))) (mvT hZ (hw _ (gw 30 rfl))) (mvT hZ (hw _ (gw 29 rfl))) (by decide) (backOf (W := 0) (rm5_13 l Z a0 hw [] b7 p6 b9 b23 k10 p1 p2 p3 p4 k24 T58.heap n0  Ou61 u65 f299 u63 g_b23 u62) hZ (hw _ (gw 31 rfl)) (hw _ (gw 2 rfl)) (by decide) (by decide)) q300a q300c (g := (mkF m 74 #[.val (.int p1), .val (.int p2), .val (.int p3), .val (.int p4), .val (.int p5), .val (.int p6), .val (.ref b7), .val (.int (2 : Int32)), .val (.int (1 : Int32)), .val (.int (2 : Int32)), .unset] [(.int p6), (.int (2 : Int32)), (.ref b7)])) rfl (by rw [hml]; rfl) (Steps.refl _) (argsL := [(.int (2 : Int32)), (.int p6)]) (rest := []) (lenOf pd_3 rfl) rfl (by show 2 * 0 + _ ≤ _; exact Nat.le_of_eq rfl) (hb hby at_74) (fun _ _ => ⟨rfl, rfl, (by decide : 3 + 0 ≤ _), (by decide : 4099 + 0 ≤ _)⟩)
        dsimp only [Pt.U, Pt.locs, Pt.cells, Pt.slots] at X300 l300 y300 z300 st300 hQ300
        subst l300 y300 z300
        obtain ⟨rfl, u302, Ku303, u304, u305⟩ := hQ300
        have Ou303 : Old Z n0 T300.heap := Ou61.keep Ku303 (allS g_b23 all0)
        have N300 := Fr.app N58 u302
        have f306 : Fld Z T300.heap b7 "com/example/vestry/vestry/Ints" "blocks" "[[I" (.ref b9) := (u65.keep Ku303 (ninS (Nat.ne_of_lt (Nat.lt_of_lt_of_le (Nat.lt_of_lt_of_le lt_b7 Ku15.1) u27)) nin0))
        have f307 : Arv Z T300.heap b9 k10 (.array .int) (1 : Int32) [(.ref b23)] .null := (f299.keep Ku303 (ninS (Nat.ne_of_lt (Nat.lt_of_lt_of_le u14 u27)) nin0))
        have f309 : Exa Z T300.heap b7 "com/example/vestry/vestry/Ints" := (u64.keep Ku303)
        obtain ⟨cq308, kq308, q308a, q308b, q308c⟩ := isOf hZ rfl f309
        obtain ⟨_, _, ⟨T308, L308, k308, n308⟩, -, X308, ⟨Lc308, hQ308, l308, y308, z308⟩, st308⟩ := X300.virtualBack hx (y := M_2) (z := M_2) hown (mvT hZ (hw _ (gw 22 rfl))) (mvT hZ (hw _ (gw 23 rfl))) (notFace_of_selects (args := #[]) (mvT hZ (hw _ (gw 25 rfl)))) (mvT hZ (hw _ (gw 25 rfl))) (mvT hZ (hw _ (gw 24 rfl))) (by decide) (backOf (W := 0) (rm4_9 l Z a0 hw [] b7 b9 b23 k10 p1 p2 p6 p4 k24 T300.heap n0  Ou303 f306 f307 u305) hZ (hw _ (gw 26 rfl)) (hw _ (gw 2 rfl)) (by decide) (by decide)) q308a q308c (g := (mkF m 138 #[.val (.int p1), .val (.int p2), .val (.int p3), .val (.int p4), .val (.int p5), .val (.int p6), .val (.ref b7), .val (.int (2 : Int32)), .val (.int (1 : Int32)), .val (.int (2 : Int32)), .val (.int p6)] [(.int (2 : Int32)), (.ref b7)])) rfl (by rw [hml]; rfl) (Steps.refl _) (argsL := [(.int (2 : Int32))]) (rest := []) (lenOf pd_2 rfl) rfl (by show 2 * 0 + _ ≤ _; exact Nat.le_of_eq rfl) (hb hby at_138) (fun _ _ => ⟨rfl, rfl, (by decide : 3 + 0 ≤ _), (by decide : 4099 + 0 ≤ _)⟩)
        dsimp only [Pt.U, Pt.locs, Pt.cells, Pt.slots] at X308 l308 y308 z308 st308 hQ308
        subst l308 y308 z308
        obtain ⟨rfl, u311, u312⟩ := hQ308
        have N308 := Fr.app N300 u311
        obtain ⟨fs, hr, hrun, hended, hW, hsame⟩ := X308.leave (v := some (.int (1 : Int32))) (fun h => by rw [Bd.returns] at h; cases h)
        refine ⟨_, _, pre270 _ ?_, hrun, hended, _, _, rfl, ?_, ⟨_, rfl⟩, hW, hsame.mono (by decide) (by decide)⟩
        · show Steps p.tables e below (T58.setTop (mkF m 60 #[.val (.int p1), .val (.int p2), .val (.int p3), .val (.int p4), .val (.int p5), .val (.int p6), .val (.ref b7), .val (.int (2 : Int32)), .val (.int (1 : Int32)), .unset, .unset] [(.int (3 : Int32)), (.int i268)])) _
          refine XS.iand X58.here hx rfl (hb hby at_60) rfl ?_
          show Steps p.tables e below (T58.setTop (mkF m 61 #[.val (.int p1), .val (.int p2), .val (.int p3), .val (.int p4), .val (.int p5), .val (.int p6), .val (.ref b7), .val (.int (2 : Int32)), .val (.int (1 : Int32)), .unset, .unset] [(.int (i268 &&& (3 : Int32)))])) _
          rw [hq269]
          show Steps p.tables e below (T58.setTop (mkF m 61 #[.val (.int p1), .val (.int p2), .val (.int p3), .val (.int p4), .val (.int p5), .val (.int p6), .val (.ref b7), .val (.int (2 : Int32)), .val (.int (1 : Int32)), .unset, .unset] [(.int (2 : Int32))])) _
          refine XS.istore X58.here hx rfl (hb hby at_61) rfl (l' := #[.val (.int p1), .val (.int p2), .val (.int p3), .val (.int p4), .val (.int p5), .val (.int p6), .val (.ref b7), .val (.int (2 : Int32)), .val (.int (1 : Int32)), .val (.int (2 : Int32)), .unset]) rfl ?_
          show Steps p.tables e below (T58.setTop (mkF m 63 #[.val (.int p1), .val (.int p2), .val (.int p3), .val (.int p4), .val (.int p5), .val (.int p6), .val (.ref b7), .val (.int (2 : Int32)), .val (.int (1 : Int32)), .val (.int (2 : Int32)), .unset] [])) _
          refine XS.iload X58.here hx rfl (hb hby at_63) rfl ?_
          show Steps p.tables e below (T58.setTop (mkF m 65 #[.val (.int p1), .val (.int p2), .val (.int p3), .val (.int p4), .val (.int p5), .val (.int p6), .val (.ref b7), .val (.int (2 : Int32)), .val (.int (1 : Int32)), .val (.int (2 : Int32)), .unset] [(.int (1 : Int32))])) _
          refine XS.ifNo X58.here hx rfl (hb hby at_65) rfl ((if0 _ _).trans (feq (by decide +kernel : ¬ ((1 : Int32) = (0 : Int32)))).1) ?_
          show Steps p.tables e below (T58.setTop (mkF m 68 #[.val (.int p1), .val (.int p2), .val (.int p3), .val (.int p4), .val (.int p5), .val (.int p6), .val (.ref b7), .val (.int (2 : Int32)), .val (.int (1 : Int32)), .val (.int (2 : Int32)), .unset] [])) _
          refine XS.aload X58.here hx rfl (hb hby at_68) rfl rfl ?_
          show Steps p.tables e below (T58.setTop (mkF m 70 #[.val (.int p1), .val (.int p2), .val (.int p3), .val (.int p4), .val (.int p5), .val (.int p6), .val (.ref b7), .val (.int (2 : Int32)), .val (.int (1 : Int32)), .val (.int (2 : Int32)), .unset] [(.ref b7)])) _
          refine XS.iload X58.here hx rfl (hb hby at_70) rfl ?_
          show Steps p.tables e below (T58.setTop (mkF m 72 #[.val (.int p1), .val (.int p2), .val (.int p3), .val (.int p4), .val (.int p5), .val (.int p6), .val (.ref b7), .val (.int (2 : Int32)), .val (.int (1 : Int32)), .val (.int (2 : Int32)), .unset] [(.int (2 : Int32)), (.ref b7)])) _
          refine XS.iload X58.here hx rfl (hb hby at_72) rfl ?_
          show Steps p.tables e below (T58.setTop (mkF m 74 #[.val (.int p1), .val (.int p2), .val (.int p3), .val (.int p4), .val (.int p5), .val (.int p6), .val (.ref b7), .val (.int (2 : Int32)), .val (.int (1 : Int32)), .val (.int (2 : Int32)), .unset] [(.int p6), (.int (2 : Int32)), (.ref b7)])) _
          refine st300.trans ?_
          show Steps p.tables e below (T300.setTop (mkF m 77 #[.val (.int p1), .val (.int p2), .val (.int p3), .val (.int p4), .val (.int p5), .val (.int p6), .val (.ref b7), .val (.int (2 : Int32)), .val (.int (1 : Int32)), .val (.int (2 : Int32)), .unset] [])) _
          refine XS.iload X300.here hx rfl (hb hby at_77) rfl ?_
          show Steps p.tables e below (T300.setTop (mkF m 79 #[.val (.int p1), .val (.int p2), .val (.int p3), .val (.int p4), .val (.int p5), .val (.int p6), .val (.ref b7), .val (.int (2 : Int32)), .val (.int (1 : Int32)), .val (.int (2 : Int32)), .unset] [(.int (1 : Int32))])) _
          refine XS.ifNo X300.here hx rfl (hb hby at_79) rfl ((if0 _ _).trans (feq (by decide +kernel : ¬ ((1 : Int32) = (0 : Int32)))).1) ?_
          show Steps p.tables e below (T300.setTop (mkF m 82 #[.val (.int p1), .val (.int p2), .val (.int p3), .val (.int p4), .val (.int p5), .val (.int p6), .val (.ref b7), .val (.int (2 : Int32)), .val (.int (1 : Int32)), .val (.int (2 : Int32)), .unset] [])) _
          refine XS.iload X300.here hx rfl (hb hby at_82) rfl ?_
          show Steps p.tables e below (T300.setTop (mkF m 84 #[.val (.int p1), .val (.int p2), .val (.int p3), .val (.int p4), .val (.int p5), .val (.int p6), .val (.ref b7), .val (.int (2 : Int32)), .val (.int (1 : Int32)), .val (.int (2 : Int32)), .unset] [(.int (2 : Int32))])) _
          refine XS.iload X300.here hx rfl (hb hby at_84) rfl ?_
          show Steps p.tables e below (T300.setTop (mkF m 86 #[.val (.int p1), .val (.int p2), .val (.int p3), .val (.int p4), .val (.int p5), .val (.int p6), .val (.ref b7), .val (.int (2 : Int32)), .val (.int (1 : Int32)), .val (.int (2 : Int32)), .unset] [(.int (2 : Int32)), (.int (2 : Int32))])) _
          refine XS.icmpNo X300.here hx rfl (hb hby at_86) rfl (teq (by decide +kernel : (2 : Int32) = (2 : Int32))).2 ?_
          show Steps p.tables e below (T300.setTop (mkF m 89 #[.val (.int p1), .val (.int p2), .val (.int p3), .val (.int p4), .val (.int p5), .val (.int p6), .val (.ref b7), .val (.int (2 : Int32)), .val (.int (1 : Int32)), .val (.int (2 : Int32)), .unset] [])) _
          refine XS.iload X300.here hx rfl (hb hby at_89) rfl ?_
          show Steps p.tables e below (T300.setTop (mkF m 91 #[.val (.int p1), .val (.int p2), .val (.int p3), .val (.int p4), .val (.int p5), .val (.int p6), .val (.ref b7), .val (.int (2 : Int32)), .val (.int (1 : Int32)), .val (.int (2 : Int32)), .unset] [(.int p6)])) _
          refine XS.istore X300.here hx rfl (hb hby at_91) rfl (l' := #[.val (.int p1), .val (.int p2), .val (.int p3), .val (.int p4), .val (.int p5), .val (.int p6), .val (.ref b7), .val (.int (2 : Int32)), .val (.int (1 : Int32)), .val (.int (2 : Int32)), .val (.int p6)]) rfl ?_
          show Steps p.tables e below (T300.setTop (mkF m 93 #[.val (.int p1), .val (.int p2), .val (.int p3), .val (.int p4), .val (.int p5), .val (.int p6), .val (.ref b7), .val (.int (2 : Int32)), .val (.int (1 : Int32)), .val (.int (2 : Int32)), .val (.int p6)] [])) _
          refine XS.goto X300.here hx rfl (pc0 := 93) (pc' := 134) rfl (hb hby at_93) (by decide) (by decide) ?_
          show Steps p.tables e below (T300.setTop (mkF m 134 #[.val (.int p1), .val (.int p2), .val (.int p3), .val (.int p4), .val (.int p5), .val (.int p6), .val (.ref b7), .val (.int (2 : Int32)), .val (.int (1 : Int32)), .val (.int (2 : Int32)), .val (.int p6)] [])) _
          refine XS.aload X300.here hx rfl (hb hby at_134) rfl rfl ?_
          show Steps p.tables e below (T300.setTop (mkF m 136 #[.val (.int p1), .val (.int p2), .val (.int p3), .val (.int p4), .val (.int p5), .val (.int p6), .val (.ref b7), .val (.int (2 : Int32)), .val (.int (1 : Int32)), .val (.int (2 : Int32)), .val (.int p6)] [(.ref b7)])) _
          refine XS.iload X300.here hx rfl (hb hby at_136) rfl ?_
          show Steps p.tables e below (T300.setTop (mkF m 138 #[.val (.int p1), .val (.int p2), .val (.int p3), .val (.int p4), .val (.int p5), .val (.int p6), .val (.ref b7), .val (.int (2 : Int32)), .val (.int (1 : Int32)), .val (.int (2 : Int32)), .val (.int p6)] [(.int (2 : Int32)), (.ref b7)])) _
          refine st308.trans ?_
          show Steps p.tables e below (T308.setTop (mkF m 141 #[.val (.int p1), .val (.int p2), .val (.int p3), .val (.int p4), .val (.int p5), .val (.int p6), .val (.ref b7), .val (.int (2 : Int32)), .val (.int (1 : Int32)), .val (.int (2 : Int32)), .val (.int p6)] [(.int p6)])) _
          refine XS.iload X308.here hx rfl (hb hby at_141) rfl ?_
          show Steps p.tables e below (T308.setTop (mkF m 143 #[.val (.int p1), .val (.int p2), .val (.int p3), .val (.int p4), .val (.int p5), .val (.int p6), .val (.ref b7), .val (.int (2 : Int32)), .val (.int (1 : Int32)), .val (.int (2 : Int32)), .val (.int p6)] [(.int p6), (.int p6)])) _
          refine XS.icmpNo X308.here hx rfl (hb hby at_143) rfl (teq (rfl : p6 = p6)).2 ?_
          show Steps p.tables e below (T308.setTop (mkF m 146 #[.val (.int p1), .val (.int p2), .val (.int p3), .val (.int p4), .val (.int p5), .val (.int p6), .val (.ref b7), .val (.int (2 : Int32)), .val (.int (1 : Int32)), .val (.int (2 : Int32)), .val (.int p6)] [])) _
          refine XS.iconst X308.here hx rfl (hb hby at_146) ?_
          show Steps p.tables e below (T308.setTop (mkF m 147 #[.val (.int p1), .val (.int p2), .val (.int p3), .val (.int p4), .val (.int p5), .val (.int p6), .val (.ref b7), .val (.int (2 : Int32)), .val (.int (1 : Int32)), .val (.int (2 : Int32)), .val (.int p6)] [(.int (1 : Int32))])) _
          refine XS.goto X308.here hx rfl (pc0 := 147) (pc' := 151) rfl (hb hby at_147) (by decide) (by decide) ?_
          show Steps p.tables e below (T308.setTop (mkF m 151 #[.val (.int p1), .val (.int p2), .val (.int p3), .val (.int p4), .val (.int p5), .val (.int p6), .val (.ref b7), .val (.int (2 : Int32)), .val (.int (1 : Int32)), .val (.int (2 : Int32)), .val (.int p6)] [(.int (1 : Int32))])) _
          exact retN X308 hx (t := .boolean) Bd.returns (by simp) (hb hby at_151) hr
        · show Q0 Z _ _ _ _ _ _ h0 n0 _ T308.heap _
          rw [u312]
          exact ⟨rfl, N308⟩
      · skip
        have f313 : Arv Z T58.heap b9 k10 (.array .int) (1 : Int32) [(.ref b23)] .null := (f57.keep Ku61 (ninS (Nat.ne_of_lt (Nat.lt_of_lt_of_le u14 u27)) (ninS (Ne.symm (Nat.ne_of_lt (Nat.lt_of_lt_of_le lt_b7 u13))) nin0)))
        obtain ⟨cq314, kq314, q314a, q314b, q314c⟩ := isOf hZ rfl u64
        obtain ⟨_, _, ⟨T314, L314, k314, n314⟩, -, X314, ⟨Lc314, hQ314, l314, y314, z314⟩, st314⟩ := X58.virtualBack hx (y := M_3) (z := M_3) hown (mvT hZ (hw _ (gw 27 rfl))) (mvT hZ (hw _ (gw 28 rfl))) (notFace_of_selects (args := #[]) (mvT hZ (hw _ (gw 30 rfl)))) (mvT hZ (hw _ (gw 30 rfl))) (mvT hZ (hw _ (gw 29 rfl))) (by decide) (backOf (W := 0) (rm5_13 l Z a0 hw [] b7 p6 b9 b23 k10 p1 p2 p3 p4 k24 T58.heap n0  Ou61 u65 f313 u63 g_b23 u62) hZ (hw _ (gw 31 rfl)) (hw _ (gw 2 rfl)) (by decide) (by decide)) q314a q314c (g := (mkF m 74 #[.val (.int p1), .val (.int p2), .val (.int p3), .val (.int p4), .val (.int p5), .val (.int p6), .val (.ref b7), .val (.int (2 : Int32)), .val (.int (1 : Int32)), .val (.int (3 : Int32)), .unset] [(.int p6), (.int (2 : Int32)), (.ref b7)])) rfl (by rw [hml]; rfl) (Steps.refl _) (argsL := [(.int (2 : Int32)), (.int p6)]) (rest := []) (lenOf pd_3 rfl) rfl (by show 2 * 0 + _ ≤ _; exact Nat.le_of_eq rfl) (hb hby at_74) (fun _ _ => ⟨rfl, rfl, (by decide : 3 + 0 ≤ _), (by decide : 4099 + 0 ≤ _)⟩)
        dsimp only [Pt.U, Pt.locs, Pt.cells, Pt.slots] at X314 l314 y314 z314 st314 hQ314
        subst l314 y314 z314
        obtain ⟨rfl, u316, Ku317, u318, u319⟩ := hQ314
        have Ou317 : Old Z n0 T314.heap := Ou61.keep Ku317 (allS g_b23 all0)
        have N314 := Fr.app N58 u316
        have f320 : Fld Z T314.heap b7 "com/example/vestry/vestry/Ints" "blocks" "[[I" (.ref b9) := (u65.keep Ku317 (ninS (Nat.ne_of_lt (Nat.lt_of_lt_of_le (Nat.lt_of_lt_of_le lt_b7 Ku15.1) u27)) nin0))
        have f321 : Arv Z T314.heap b9 k10 (.array .int) (1 : Int32) [(.ref b23)] .null := (f313.keep Ku317 (ninS (Nat.ne_of_lt (Nat.lt_of_lt_of_le u14 u27)) nin0))
        have f323 : Exa Z T314.heap b7 "com/example/vestry/vestry/Ints" := (u64.keep Ku317)
        obtain ⟨cq322, kq322, q322a, q322b, q322c⟩ := isOf hZ rfl f323
        obtain ⟨_, _, ⟨T322, L322, k322, n322⟩, -, X322, ⟨Lc322, hQ322, l322, y322, z322⟩, st322⟩ := X314.virtualBack hx (y := M_2) (z := M_2) hown (mvT hZ (hw _ (gw 22 rfl))) (mvT hZ (hw _ (gw 23 rfl))) (notFace_of_selects (args := #[]) (mvT hZ (hw _ (gw 25 rfl)))) (mvT hZ (hw _ (gw 25 rfl))) (mvT hZ (hw _ (gw 24 rfl))) (by decide) (backOf (W := 0) (rm4_10 l Z a0 hw [] b7 b9 b23 k10 p1 p2 p6 p4 k24 T314.heap n0  Ou317 f320 f321 u319) hZ (hw _ (gw 26 rfl)) (hw _ (gw 2 rfl)) (by decide) (by decide)) q322a q322c (g := (mkF m 138 #[.val (.int p1), .val (.int p2), .val (.int p3), .val (.int p4), .val (.int p5), .val (.int p6), .val (.ref b7), .val (.int (2 : Int32)), .val (.int (1 : Int32)), .val (.int (3 : Int32)), .val (.int p4)] [(.int (3 : Int32)), (.ref b7)])) rfl (by rw [hml]; rfl) (Steps.refl _) (argsL := [(.int (3 : Int32))]) (rest := []) (lenOf pd_2 rfl) rfl (by show 2 * 0 + _ ≤ _; exact Nat.le_of_eq rfl) (hb hby at_138) (fun _ _ => ⟨rfl, rfl, (by decide : 3 + 0 ≤ _), (by decide : 4099 + 0 ≤ _)⟩)
        dsimp only [Pt.U, Pt.locs, Pt.cells, Pt.slots] at X322 l322 y322 z322 st322 hQ322
        subst l322 y322 z322
        obtain ⟨rfl, u325, u326⟩ := hQ322
        have N322 := Fr.app N314 u325
        obtain ⟨fs, hr, hrun, hended, hW, hsame⟩ := X322.leave (v := some (.int (1 : Int32))) (fun h => by rw [Bd.returns] at h; cases h)
        refine ⟨_, _, pre270 _ ?_, hrun, hended, _, _, rfl, ?_, ⟨_, rfl⟩, hW, hsame.mono (by decide) (by decide)⟩
        · show Steps p.tables e below (T58.setTop (mkF m 60 #[.val (.int p1), .val (.int p2), .val (.int p3), .val (.int p4), .val (.int p5), .val (.int p6), .val (.ref b7), .val (.int (2 : Int32)), .val (.int (1 : Int32)), .unset, .unset] [(.int (3 : Int32)), (.int i268)])) _
          refine XS.iand X58.here hx rfl (hb hby at_60) rfl ?_
          show Steps p.tables e below (T58.setTop (mkF m 61 #[.val (.int p1), .val (.int p2), .val (.int p3), .val (.int p4), .val (.int p5), .val (.int p6), .val (.ref b7), .val (.int (2 : Int32)), .val (.int (1 : Int32)), .unset, .unset] [(.int (i268 &&& (3 : Int32)))])) _
          rw [hq269]
          show Steps p.tables e below (T58.setTop (mkF m 61 #[.val (.int p1), .val (.int p2), .val (.int p3), .val (.int p4), .val (.int p5), .val (.int p6), .val (.ref b7), .val (.int (2 : Int32)), .val (.int (1 : Int32)), .unset, .unset] [(.int (3 : Int32))])) _
          refine XS.istore X58.here hx rfl (hb hby at_61) rfl (l' := #[.val (.int p1), .val (.int p2), .val (.int p3), .val (.int p4), .val (.int p5), .val (.int p6), .val (.ref b7), .val (.int (2 : Int32)), .val (.int (1 : Int32)), .val (.int (3 : Int32)), .unset]) rfl ?_
          show Steps p.tables e below (T58.setTop (mkF m 63 #[.val (.int p1), .val (.int p2), .val (.int p3), .val (.int p4), .val (.int p5), .val (.int p6), .val (.ref b7), .val (.int (2 : Int32)), .val (.int (1 : Int32)), .val (.int (3 : Int32)), .unset] [])) _
          refine XS.iload X58.here hx rfl (hb hby at_63) rfl ?_
          show Steps p.tables e below (T58.setTop (mkF m 65 #[.val (.int p1), .val (.int p2), .val (.int p3), .val (.int p4), .val (.int p5), .val (.int p6), .val (.ref b7), .val (.int (2 : Int32)), .val (.int (1 : Int32)), .val (.int (3 : Int32)), .unset] [(.int (1 : Int32))])) _
          refine XS.ifNo X58.here hx rfl (hb hby at_65) rfl ((if0 _ _).trans (feq (by decide +kernel : ¬ ((1 : Int32) = (0 : Int32)))).1) ?_
          show Steps p.tables e below (T58.setTop (mkF m 68 #[.val (.int p1), .val (.int p2), .val (.int p3), .val (.int p4), .val (.int p5), .val (.int p6), .val (.ref b7), .val (.int (2 : Int32)), .val (.int (1 : Int32)), .val (.int (3 : Int32)), .unset] [])) _
          refine XS.aload X58.here hx rfl (hb hby at_68) rfl rfl ?_
          show Steps p.tables e below (T58.setTop (mkF m 70 #[.val (.int p1), .val (.int p2), .val (.int p3), .val (.int p4), .val (.int p5), .val (.int p6), .val (.ref b7), .val (.int (2 : Int32)), .val (.int (1 : Int32)), .val (.int (3 : Int32)), .unset] [(.ref b7)])) _
          refine XS.iload X58.here hx rfl (hb hby at_70) rfl ?_
          show Steps p.tables e below (T58.setTop (mkF m 72 #[.val (.int p1), .val (.int p2), .val (.int p3), .val (.int p4), .val (.int p5), .val (.int p6), .val (.ref b7), .val (.int (2 : Int32)), .val (.int (1 : Int32)), .val (.int (3 : Int32)), .unset] [(.int (2 : Int32)), (.ref b7)])) _
          refine XS.iload X58.here hx rfl (hb hby at_72) rfl ?_
          show Steps p.tables e below (T58.setTop (mkF m 74 #[.val (.int p1), .val (.int p2), .val (.int p3), .val (.int p4), .val (.int p5), .val (.int p6), .val (.ref b7), .val (.int (2 : Int32)), .val (.int (1 : Int32)), .val (.int (3 : Int32)), .unset] [(.int p6), (.int (2 : Int32)), (.ref b7)])) _
          refine st314.trans ?_
          show Steps p.tables e below (T314.setTop (mkF m 77 #[.val (.int p1), .val (.int p2), .val (.int p3), .val (.int p4), .val (.int p5), .val (.int p6), .val (.ref b7), .val (.int (2 : Int32)), .val (.int (1 : Int32)), .val (.int (3 : Int32)), .unset] [])) _
          refine XS.iload X314.here hx rfl (hb hby at_77) rfl ?_
          show Steps p.tables e below (T314.setTop (mkF m 79 #[.val (.int p1), .val (.int p2), .val (.int p3), .val (.int p4), .val (.int p5), .val (.int p6), .val (.ref b7), .val (.int (2 : Int32)), .val (.int (1 : Int32)), .val (.int (3 : Int32)), .unset] [(.int (1 : Int32))])) _
          refine XS.ifNo X314.here hx rfl (hb hby at_79) rfl ((if0 _ _).trans (feq (by decide +kernel : ¬ ((1 : Int32) = (0 : Int32)))).1) ?_
          show Steps p.tables e below (T314.setTop (mkF m 82 #[.val (.int p1), .val (.int p2), .val (.int p3), .val (.int p4), .val (.int p5), .val (.int p6), .val (.ref b7), .val (.int (2 : Int32)), .val (.int (1 : Int32)), .val (.int (3 : Int32)), .unset] [])) _
          refine XS.iload X314.here hx rfl (hb hby at_82) rfl ?_
          show Steps p.tables e below (T314.setTop (mkF m 84 #[.val (.int p1), .val (.int p2), .val (.int p3), .val (.int p4), .val (.int p5), .val (.int p6), .val (.ref b7), .val (.int (2 : Int32)), .val (.int (1 : Int32)), .val (.int (3 : Int32)), .unset] [(.int (3 : Int32))])) _
          refine XS.iload X314.here hx rfl (hb hby at_84) rfl ?_
          show Steps p.tables e below (T314.setTop (mkF m 86 #[.val (.int p1), .val (.int p2), .val (.int p3), .val (.int p4), .val (.int p5), .val (.int p6), .val (.ref b7), .val (.int (2 : Int32)), .val (.int (1 : Int32)), .val (.int (3 : Int32)), .unset] [(.int (2 : Int32)), (.int (3 : Int32))])) _
          refine XS.icmpYes X314.here hx rfl (pc0 := 86) (pc' := 96) rfl (hb hby at_86) rfl (feq (by decide +kernel : ¬ ((3 : Int32) = (2 : Int32)))).2 (by decide) (by decide) ?_
          show Steps p.tables e below (T314.setTop (mkF m 96 #[.val (.int p1), .val (.int p2), .val (.int p3), .val (.int p4), .val (.int p5), .val (.int p6), .val (.ref b7), .val (.int (2 : Int32)), .val (.int (1 : Int32)), .val (.int (3 : Int32)), .unset] [])) _
          refine XS.iload X314.here hx rfl (hb hby at_96) rfl ?_
          show Steps p.tables e below (T314.setTop (mkF m 98 #[.val (.int p1), .val (.int p2), .val (.int p3), .val (.int p4), .val (.int p5), .val (.int p6), .val (.ref b7), .val (.int (2 : Int32)), .val (.int (1 : Int32)), .val (.int (3 : Int32)), .unset] [(.int (3 : Int32))])) _
          refine XS.ifYes X314.here hx rfl (pc0 := 98) (pc' := 107) rfl (hb hby at_98) rfl ((if0 _ _).trans (feq (by decide +kernel : ¬ ((3 : Int32) = (0 : Int32)))).2) (by decide) (by decide) ?_
          show Steps p.tables e below (T314.setTop (mkF m 107 #[.val (.int p1), .val (.int p2), .val (.int p3), .val (.int p4), .val (.int p5), .val (.int p6), .val (.ref b7), .val (.int (2 : Int32)), .val (.int (1 : Int32)), .val (.int (3 : Int32)), .unset] [])) _
          refine XS.iload X314.here hx rfl (hb hby at_107) rfl ?_
          show Steps p.tables e below (T314.setTop (mkF m 109 #[.val (.int p1), .val (.int p2), .val (.int p3), .val (.int p4), .val (.int p5), .val (.int p6), .val (.ref b7), .val (.int (2 : Int32)), .val (.int (1 : Int32)), .val (.int (3 : Int32)), .unset] [(.int (3 : Int32))])) _
          refine XS.iconst X314.here hx rfl (hb hby at_109) ?_
          show Steps p.tables e below (T314.setTop (mkF m 110 #[.val (.int p1), .val (.int p2), .val (.int p3), .val (.int p4), .val (.int p5), .val (.int p6), .val (.ref b7), .val (.int (2 : Int32)), .val (.int (1 : Int32)), .val (.int (3 : Int32)), .unset] [(.int (1 : Int32)), (.int (3 : Int32))])) _
          refine XS.icmpYes X314.here hx rfl (pc0 := 110) (pc' := 119) rfl (hb hby at_110) rfl (feq (by decide +kernel : ¬ ((3 : Int32) = (1 : Int32)))).2 (by decide) (by decide) ?_
          show Steps p.tables e below (T314.setTop (mkF m 119 #[.val (.int p1), .val (.int p2), .val (.int p3), .val (.int p4), .val (.int p5), .val (.int p6), .val (.ref b7), .val (.int (2 : Int32)), .val (.int (1 : Int32)), .val (.int (3 : Int32)), .unset] [])) _
          refine XS.iload X314.here hx rfl (hb hby at_119) rfl ?_
          show Steps p.tables e below (T314.setTop (mkF m 121 #[.val (.int p1), .val (.int p2), .val (.int p3), .val (.int p4), .val (.int p5), .val (.int p6), .val (.ref b7), .val (.int (2 : Int32)), .val (.int (1 : Int32)), .val (.int (3 : Int32)), .unset] [(.int (3 : Int32))])) _
          refine XS.iconst X314.here hx rfl (hb hby at_121) ?_
          show Steps p.tables e below (T314.setTop (mkF m 122 #[.val (.int p1), .val (.int p2), .val (.int p3), .val (.int p4), .val (.int p5), .val (.int p6), .val (.ref b7), .val (.int (2 : Int32)), .val (.int (1 : Int32)), .val (.int (3 : Int32)), .unset] [(.int (2 : Int32)), (.int (3 : Int32))])) _
          refine XS.icmpYes X314.here hx rfl (pc0 := 122) (pc' := 131) rfl (hb hby at_122) rfl (feq (by decide +kernel : ¬ ((3 : Int32) = (2 : Int32)))).2 (by decide) (by decide) ?_
          show Steps p.tables e below (T314.setTop (mkF m 131 #[.val (.int p1), .val (.int p2), .val (.int p3), .val (.int p4), .val (.int p5), .val (.int p6), .val (.ref b7), .val (.int (2 : Int32)), .val (.int (1 : Int32)), .val (.int (3 : Int32)), .unset] [])) _
          refine XS.iloadN X314.here hx rfl (hb hby at_131) rfl ?_
          show Steps p.tables e below (T314.setTop (mkF m 132 #[.val (.int p1), .val (.int p2), .val (.int p3), .val (.int p4), .val (.int p5), .val (.int p6), .val (.ref b7), .val (.int (2 : Int32)), .val (.int (1 : Int32)), .val (.int (3 : Int32)), .unset] [(.int p4)])) _
          refine XS.istore X314.here hx rfl (hb hby at_132) rfl (l' := #[.val (.int p1), .val (.int p2), .val (.int p3), .val (.int p4), .val (.int p5), .val (.int p6), .val (.ref b7), .val (.int (2 : Int32)), .val (.int (1 : Int32)), .val (.int (3 : Int32)), .val (.int p4)]) rfl ?_
          show Steps p.tables e below (T314.setTop (mkF m 134 #[.val (.int p1), .val (.int p2), .val (.int p3), .val (.int p4), .val (.int p5), .val (.int p6), .val (.ref b7), .val (.int (2 : Int32)), .val (.int (1 : Int32)), .val (.int (3 : Int32)), .val (.int p4)] [])) _
          refine XS.aload X314.here hx rfl (hb hby at_134) rfl rfl ?_
          show Steps p.tables e below (T314.setTop (mkF m 136 #[.val (.int p1), .val (.int p2), .val (.int p3), .val (.int p4), .val (.int p5), .val (.int p6), .val (.ref b7), .val (.int (2 : Int32)), .val (.int (1 : Int32)), .val (.int (3 : Int32)), .val (.int p4)] [(.ref b7)])) _
          refine XS.iload X314.here hx rfl (hb hby at_136) rfl ?_
          show Steps p.tables e below (T314.setTop (mkF m 138 #[.val (.int p1), .val (.int p2), .val (.int p3), .val (.int p4), .val (.int p5), .val (.int p6), .val (.ref b7), .val (.int (2 : Int32)), .val (.int (1 : Int32)), .val (.int (3 : Int32)), .val (.int p4)] [(.int (3 : Int32)), (.ref b7)])) _
          refine st322.trans ?_
          show Steps p.tables e below (T322.setTop (mkF m 141 #[.val (.int p1), .val (.int p2), .val (.int p3), .val (.int p4), .val (.int p5), .val (.int p6), .val (.ref b7), .val (.int (2 : Int32)), .val (.int (1 : Int32)), .val (.int (3 : Int32)), .val (.int p4)] [(.int p4)])) _
          refine XS.iload X322.here hx rfl (hb hby at_141) rfl ?_
          show Steps p.tables e below (T322.setTop (mkF m 143 #[.val (.int p1), .val (.int p2), .val (.int p3), .val (.int p4), .val (.int p5), .val (.int p6), .val (.ref b7), .val (.int (2 : Int32)), .val (.int (1 : Int32)), .val (.int (3 : Int32)), .val (.int p4)] [(.int p4), (.int p4)])) _
          refine XS.icmpNo X322.here hx rfl (hb hby at_143) rfl (teq (rfl : p4 = p4)).2 ?_
          show Steps p.tables e below (T322.setTop (mkF m 146 #[.val (.int p1), .val (.int p2), .val (.int p3), .val (.int p4), .val (.int p5), .val (.int p6), .val (.ref b7), .val (.int (2 : Int32)), .val (.int (1 : Int32)), .val (.int (3 : Int32)), .val (.int p4)] [])) _
          refine XS.iconst X322.here hx rfl (hb hby at_146) ?_
          show Steps p.tables e below (T322.setTop (mkF m 147 #[.val (.int p1), .val (.int p2), .val (.int p3), .val (.int p4), .val (.int p5), .val (.int p6), .val (.ref b7), .val (.int (2 : Int32)), .val (.int (1 : Int32)), .val (.int (3 : Int32)), .val (.int p4)] [(.int (1 : Int32))])) _
          refine XS.goto X322.here hx rfl (pc0 := 147) (pc' := 151) rfl (hb hby at_147) (by decide) (by decide) ?_
          show Steps p.tables e below (T322.setTop (mkF m 151 #[.val (.int p1), .val (.int p2), .val (.int p3), .val (.int p4), .val (.int p5), .val (.int p6), .val (.ref b7), .val (.int (2 : Int32)), .val (.int (1 : Int32)), .val (.int (3 : Int32)), .val (.int p4)] [(.int (1 : Int32))])) _
          exact retN X322 hx (t := .boolean) Bd.returns (by simp) (hb hby at_151) hr
        · show Q0 Z _ _ _ _ _ _ h0 n0 _ T322.heap _
          rw [u326]
          exact ⟨rfl, N322⟩
  · skip
    obtain ⟨i327, hi327⟩ : ∃ z, z = ((p5.toUInt32 >>> ((2 : Int32) &&& 31).toUInt32).toInt32) := ⟨_, rfl⟩
    obtain ⟨i328, hi328⟩ : ∃ z, z = (i327 &&& (1 : Int32)) := ⟨_, rfl⟩
    have pre329 : ∀ t, Steps p.tables e below (T58.setTop (mkF m 45 #[.val (.int p1), .val (.int p2), .val (.int p3), .val (.int p4), .val (.int p5), .val (.int p6), .val (.ref b7), .val (.int (3 : Int32)), .unset, .unset, .unset] [(.int i328)])) t → Steps p.tables e below (s₁.setTop (entryFrame m #[(.int p1), (.int p2), (.int p3), (.int p4), (.int p5), (.int p6)] maxLocals)) t := by
      intro t kt
      refine pre68 t ?_
      show Steps p.tables e below (T58.setTop (mkF m 36 #[.val (.int p1), .val (.int p2), .val (.int p3), .val (.int p4), .val (.int p5), .val (.int p6), .val (.ref b7), .unset, .unset, .unset, .unset] [(.int (3 : Int32)), (.int p5)])) _
      refine XS.iand X58.here hx rfl (hb hby at_36) rfl ?_
      show Steps p.tables e below (T58.setTop (mkF m 37 #[.val (.int p1), .val (.int p2), .val (.int p3), .val (.int p4), .val (.int p5), .val (.int p6), .val (.ref b7), .unset, .unset, .unset, .unset] [(.int (p5 &&& (3 : Int32)))])) _
      rw [hq67]
      show Steps p.tables e below (T58.setTop (mkF m 37 #[.val (.int p1), .val (.int p2), .val (.int p3), .val (.int p4), .val (.int p5), .val (.int p6), .val (.ref b7), .unset, .unset, .unset, .unset] [(.int (3 : Int32))])) _
      refine XS.istore X58.here hx rfl (hb hby at_37) rfl (l' := #[.val (.int p1), .val (.int p2), .val (.int p3), .val (.int p4), .val (.int p5), .val (.int p6), .val (.ref b7), .val (.int (3 : Int32)), .unset, .unset, .unset]) rfl ?_
      show Steps p.tables e below (T58.setTop (mkF m 39 #[.val (.int p1), .val (.int p2), .val (.int p3), .val (.int p4), .val (.int p5), .val (.int p6), .val (.ref b7), .val (.int (3 : Int32)), .unset, .unset, .unset] [])) _
      refine XS.iload X58.here hx rfl (hb hby at_39) rfl ?_
      show Steps p.tables e below (T58.setTop (mkF m 41 #[.val (.int p1), .val (.int p2), .val (.int p3), .val (.int p4), .val (.int p5), .val (.int p6), .val (.ref b7), .val (.int (3 : Int32)), .unset, .unset, .unset] [(.int p5)])) _
      refine XS.iconst X58.here hx rfl (hb hby at_41) ?_
      show Steps p.tables e below (T58.setTop (mkF m 42 #[.val (.int p1), .val (.int p2), .val (.int p3), .val (.int p4), .val (.int p5), .val (.int p6), .val (.ref b7), .val (.int (3 : Int32)), .unset, .unset, .unset] [(.int (2 : Int32)), (.int p5)])) _
      refine XS.iushr X58.here hx rfl (hb hby at_42) rfl ?_
      show Steps p.tables e below (T58.setTop (mkF m 43 #[.val (.int p1), .val (.int p2), .val (.int p3), .val (.int p4), .val (.int p5), .val (.int p6), .val (.ref b7), .val (.int (3 : Int32)), .unset, .unset, .unset] [(.int ((p5.toUInt32 >>> ((2 : Int32) &&& 31).toUInt32).toInt32))])) _
      rw [← hi327]
      show Steps p.tables e below (T58.setTop (mkF m 43 #[.val (.int p1), .val (.int p2), .val (.int p3), .val (.int p4), .val (.int p5), .val (.int p6), .val (.ref b7), .val (.int (3 : Int32)), .unset, .unset, .unset] [(.int i327)])) _
      refine XS.iconst X58.here hx rfl (hb hby at_43) ?_
      show Steps p.tables e below (T58.setTop (mkF m 44 #[.val (.int p1), .val (.int p2), .val (.int p3), .val (.int p4), .val (.int p5), .val (.int p6), .val (.ref b7), .val (.int (3 : Int32)), .unset, .unset, .unset] [(.int (1 : Int32)), (.int i327)])) _
      refine XS.iand X58.here hx rfl (hb hby at_44) rfl ?_
      show Steps p.tables e below (T58.setTop (mkF m 45 #[.val (.int p1), .val (.int p2), .val (.int p3), .val (.int p4), .val (.int p5), .val (.int p6), .val (.ref b7), .val (.int (3 : Int32)), .unset, .unset, .unset] [(.int (i327 &&& (1 : Int32)))])) _
      rw [← hi328]
      exact kt
    by_cases hc330 : i328 = (0 : Int32)
    · skip
      subst hc330
      obtain ⟨i331, hi331⟩ : ∃ z, z = ((p5.toUInt32 >>> ((3 : Int32) &&& 31).toUInt32).toInt32) := ⟨_, rfl⟩
      have pre333 : ∀ t, Steps p.tables e below (T58.setTop (mkF m 60 #[.val (.int p1), .val (.int p2), .val (.int p3), .val (.int p4), .val (.int p5), .val (.int p6), .val (.ref b7), .val (.int (3 : Int32)), .val (.int (0 : Int32)), .unset, .unset] [(.int (3 : Int32)), (.int i331)])) t → Steps p.tables e below (s₁.setTop (entryFrame m #[(.int p1), (.int p2), (.int p3), (.int p4), (.int p5), (.int p6)] maxLocals)) t := by
        intro t kt
        refine pre329 t ?_
        show Steps p.tables e below (T58.setTop (mkF m 45 #[.val (.int p1), .val (.int p2), .val (.int p3), .val (.int p4), .val (.int p5), .val (.int p6), .val (.ref b7), .val (.int (3 : Int32)), .unset, .unset, .unset] [(.int (0 : Int32))])) _
        refine XS.ifYes X58.here hx rfl (pc0 := 45) (pc' := 52) rfl (hb hby at_45) rfl ((if0 _ _).trans (teq (by decide +kernel : (0 : Int32) = (0 : Int32))).1) (by decide) (by decide) ?_
        show Steps p.tables e below (T58.setTop (mkF m 52 #[.val (.int p1), .val (.int p2), .val (.int p3), .val (.int p4), .val (.int p5), .val (.int p6), .val (.ref b7), .val (.int (3 : Int32)), .unset, .unset, .unset] [])) _
        refine XS.iconst X58.here hx rfl (hb hby at_52) ?_
        show Steps p.tables e below (T58.setTop (mkF m 53 #[.val (.int p1), .val (.int p2), .val (.int p3), .val (.int p4), .val (.int p5), .val (.int p6), .val (.ref b7), .val (.int (3 : Int32)), .unset, .unset, .unset] [(.int (0 : Int32))])) _
        refine XS.istore X58.here hx rfl (hb hby at_53) rfl (l' := #[.val (.int p1), .val (.int p2), .val (.int p3), .val (.int p4), .val (.int p5), .val (.int p6), .val (.ref b7), .val (.int (3 : Int32)), .val (.int (0 : Int32)), .unset, .unset]) rfl ?_
        show Steps p.tables e below (T58.setTop (mkF m 55 #[.val (.int p1), .val (.int p2), .val (.int p3), .val (.int p4), .val (.int p5), .val (.int p6), .val (.ref b7), .val (.int (3 : Int32)), .val (.int (0 : Int32)), .unset, .unset] [])) _
        refine XS.iload X58.here hx rfl (hb hby at_55) rfl ?_
        show Steps p.tables e below (T58.setTop (mkF m 57 #[.val (.int p1), .val (.int p2), .val (.int p3), .val (.int p4), .val (.int p5), .val (.int p6), .val (.ref b7), .val (.int (3 : Int32)), .val (.int (0 : Int32)), .unset, .unset] [(.int p5)])) _
        refine XS.iconst X58.here hx rfl (hb hby at_57) ?_
        show Steps p.tables e below (T58.setTop (mkF m 58 #[.val (.int p1), .val (.int p2), .val (.int p3), .val (.int p4), .val (.int p5), .val (.int p6), .val (.ref b7), .val (.int (3 : Int32)), .val (.int (0 : Int32)), .unset, .unset] [(.int (3 : Int32)), (.int p5)])) _
        refine XS.iushr X58.here hx rfl (hb hby at_58) rfl ?_
        show Steps p.tables e below (T58.setTop (mkF m 59 #[.val (.int p1), .val (.int p2), .val (.int p3), .val (.int p4), .val (.int p5), .val (.int p6), .val (.ref b7), .val (.int (3 : Int32)), .val (.int (0 : Int32)), .unset, .unset] [(.int ((p5.toUInt32 >>> ((3 : Int32) &&& 31).toUInt32).toInt32))])) _
        rw [← hi331]
        show Steps p.tables e below (T58.setTop (mkF m 59 #[.val (.int p1), .val (.int p2), .val (.int p3), .val (.int p4), .val (.int p5), .val (.int p6), .val (.ref b7), .val (.int (3 : Int32)), .val (.int (0 : Int32)), .unset, .unset] [(.int i331)])) _
        refine XS.iconst X58.here hx rfl (hb hby at_59) ?_
        show Steps p.tables e below (T58.setTop (mkF m 60 #[.val (.int p1), .val (.int p2), .val (.int p3), .val (.int p4), .val (.int p5), .val (.int p6), .val (.ref b7), .val (.int (3 : Int32)), .val (.int (0 : Int32)), .unset, .unset] [(.int (3 : Int32)), (.int i331)])) _
        exact kt
      rcases (own_and3 i331) with hq332 | hq332 | hq332 | hq332
      · skip
        have f334 : Arv Z T58.heap b9 k10 (.array .int) (1 : Int32) [(.ref b23)] .null := (f57.keep Ku61 (ninS (Nat.ne_of_lt (Nat.lt_of_lt_of_le u14 u27)) (ninS (Ne.symm (Nat.ne_of_lt (Nat.lt_of_lt_of_le lt_b7 u13))) nin0)))
        obtain ⟨cq335, kq335, q335a, q335b, q335c⟩ := isOf hZ rfl u64
        obtain ⟨_, _, ⟨T335, L335, k335, n335⟩, -, X335, ⟨Lc335, hQ335, l335, y335, z335⟩, st335⟩ := X58.virtualBack hx (y := M_2) (z := M_2) hown (mvT hZ (hw _ (gw 22 rfl))) (mvT hZ (hw _ (gw 23 rfl))) (notFace_of_selects (args := #[]) (mvT hZ (hw _ (gw 25 rfl)))) (mvT hZ (hw _ (gw 25 rfl))) (mvT hZ (hw _ (gw 24 rfl))) (by decide) (backOf (W := 0) (rm4_7 l Z a0 hw [] b7 b9 b23 k10 p1 p2 p3 p4 k24 T58.heap n0  Ou61 u65 f334 u63) hZ (hw _ (gw 26 rfl)) (hw _ (gw 2 rfl)) (by decide) (by decide)) q335a q335c (g := (mkF m 138 #[.val (.int p1), .val (.int p2), .val (.int p3), .val (.int p4), .val (.int p5), .val (.int p6), .val (.ref b7), .val (.int (3 : Int32)), .val (.int (0 : Int32)), .val (.int (0 : Int32)), .val (.int p1)] [(.int (0 : Int32)), (.ref b7)])) rfl (by rw [hml]; rfl) (Steps.refl _) (argsL := [(.int (0 : Int32))]) (rest := []) (lenOf pd_2 rfl) rfl (by show 2 * 0 + _ ≤ _; exact Nat.le_of_eq rfl) (hb hby at_138) (fun _ _ => ⟨rfl, rfl, (by decide : 3 + 0 ≤ _), (by decide : 4099 + 0 ≤ _)⟩)
        dsimp only [Pt.U, Pt.locs, Pt.cells, Pt.slots] at X335 l335 y335 z335 st335 hQ335
        subst l335 y335 z335
        obtain ⟨rfl, u337, u338⟩ := hQ335
        have N335 := Fr.app N58 u337
        obtain ⟨fs, hr, hrun, hended, hW, hsame⟩ := X335.leave (v := some (.int (1 : Int32))) (fun h => by rw [Bd.returns] at h; cases h)
        refine ⟨_, _, pre333 _ ?_, hrun, hended, _, _, rfl, ?_, ⟨_, rfl⟩, hW, hsame.mono (by decide) (by decide)⟩
        · show Steps p.tables e below (T58.setTop (mkF m 60 #[.val (.int p1), .val (.int p2), .val (.int p3), .val (.int p4), .val (.int p5), .val (.int p6), .val (.ref b7), .val (.int (3 : Int32)), .val (.int (0 : Int32)), .unset, .unset] [(.int (3 : Int32)), (.int i331)])) _
          refine XS.iand X58.here hx rfl (hb hby at_60) rfl ?_
          show Steps p.tables e below (T58.setTop (mkF m 61 #[.val (.int p1), .val (.int p2), .val (.int p3), .val (.int p4), .val (.int p5), .val (.int p6), .val (.ref b7), .val (.int (3 : Int32)), .val (.int (0 : Int32)), .unset, .unset] [(.int (i331 &&& (3 : Int32)))])) _
          rw [hq332]
          show Steps p.tables e below (T58.setTop (mkF m 61 #[.val (.int p1), .val (.int p2), .val (.int p3), .val (.int p4), .val (.int p5), .val (.int p6), .val (.ref b7), .val (.int (3 : Int32)), .val (.int (0 : Int32)), .unset, .unset] [(.int (0 : Int32))])) _
          refine XS.istore X58.here hx rfl (hb hby at_61) rfl (l' := #[.val (.int p1), .val (.int p2), .val (.int p3), .val (.int p4), .val (.int p5), .val (.int p6), .val (.ref b7), .val (.int (3 : Int32)), .val (.int (0 : Int32)), .val (.int (0 : Int32)), .unset]) rfl ?_
          show Steps p.tables e below (T58.setTop (mkF m 63 #[.val (.int p1), .val (.int p2), .val (.int p3), .val (.int p4), .val (.int p5), .val (.int p6), .val (.ref b7), .val (.int (3 : Int32)), .val (.int (0 : Int32)), .val (.int (0 : Int32)), .unset] [])) _
          refine XS.iload X58.here hx rfl (hb hby at_63) rfl ?_
          show Steps p.tables e below (T58.setTop (mkF m 65 #[.val (.int p1), .val (.int p2), .val (.int p3), .val (.int p4), .val (.int p5), .val (.int p6), .val (.ref b7), .val (.int (3 : Int32)), .val (.int (0 : Int32)), .val (.int (0 : Int32)), .unset] [(.int (0 : Int32))])) _
          refine XS.ifYes X58.here hx rfl (pc0 := 65) (pc' := 77) rfl (hb hby at_65) rfl ((if0 _ _).trans (teq (by decide +kernel : (0 : Int32) = (0 : Int32))).1) (by decide) (by decide) ?_
          show Steps p.tables e below (T58.setTop (mkF m 77 #[.val (.int p1), .val (.int p2), .val (.int p3), .val (.int p4), .val (.int p5), .val (.int p6), .val (.ref b7), .val (.int (3 : Int32)), .val (.int (0 : Int32)), .val (.int (0 : Int32)), .unset] [])) _
          refine XS.iload X58.here hx rfl (hb hby at_77) rfl ?_
          show Steps p.tables e below (T58.setTop (mkF m 79 #[.val (.int p1), .val (.int p2), .val (.int p3), .val (.int p4), .val (.int p5), .val (.int p6), .val (.ref b7), .val (.int (3 : Int32)), .val (.int (0 : Int32)), .val (.int (0 : Int32)), .unset] [(.int (0 : Int32))])) _
          refine XS.ifYes X58.here hx rfl (pc0 := 79) (pc' := 96) rfl (hb hby at_79) rfl ((if0 _ _).trans (teq (by decide +kernel : (0 : Int32) = (0 : Int32))).1) (by decide) (by decide) ?_
          show Steps p.tables e below (T58.setTop (mkF m 96 #[.val (.int p1), .val (.int p2), .val (.int p3), .val (.int p4), .val (.int p5), .val (.int p6), .val (.ref b7), .val (.int (3 : Int32)), .val (.int (0 : Int32)), .val (.int (0 : Int32)), .unset] [])) _
          refine XS.iload X58.here hx rfl (hb hby at_96) rfl ?_
          show Steps p.tables e below (T58.setTop (mkF m 98 #[.val (.int p1), .val (.int p2), .val (.int p3), .val (.int p4), .val (.int p5), .val (.int p6), .val (.ref b7), .val (.int (3 : Int32)), .val (.int (0 : Int32)), .val (.int (0 : Int32)), .unset] [(.int (0 : Int32))])) _
          refine XS.ifNo X58.here hx rfl (hb hby at_98) rfl ((if0 _ _).trans (teq (by decide +kernel : (0 : Int32) = (0 : Int32))).2) ?_
          show Steps p.tables e below (T58.setTop (mkF m 101 #[.val (.int p1), .val (.int p2), .val (.int p3), .val (.int p4), .val (.int p5), .val (.int p6), .val (.ref b7), .val (.int (3 : Int32)), .val (.int (0 : Int32)), .val (.int (0 : Int32)), .unset] [])) _
          refine XS.iloadN X58.here hx rfl (hb hby at_101) rfl ?_
          show Steps p.tables e below (T58.setTop (mkF m 102 #[.val (.int p1), .val (.int p2), .val (.int p3), .val (.int p4), .val (.int p5), .val (.int p6), .val (.ref b7), .val (.int (3 : Int32)), .val (.int (0 : Int32)), .val (.int (0 : Int32)), .unset] [(.int p1)])) _
          refine XS.istore X58.here hx rfl (hb hby at_102) rfl (l' := #[.val (.int p1), .val (.int p2), .val (.int p3), .val (.int p4), .val (.int p5), .val (.int p6), .val (.ref b7), .val (.int (3 : Int32)), .val (.int (0 : Int32)), .val (.int (0 : Int32)), .val (.int p1)]) rfl ?_
          show Steps p.tables e below (T58.setTop (mkF m 104 #[.val (.int p1), .val (.int p2), .val (.int p3), .val (.int p4), .val (.int p5), .val (.int p6), .val (.ref b7), .val (.int (3 : Int32)), .val (.int (0 : Int32)), .val (.int (0 : Int32)), .val (.int p1)] [])) _
          refine XS.goto X58.here hx rfl (pc0 := 104) (pc' := 134) rfl (hb hby at_104) (by decide) (by decide) ?_
          show Steps p.tables e below (T58.setTop (mkF m 134 #[.val (.int p1), .val (.int p2), .val (.int p3), .val (.int p4), .val (.int p5), .val (.int p6), .val (.ref b7), .val (.int (3 : Int32)), .val (.int (0 : Int32)), .val (.int (0 : Int32)), .val (.int p1)] [])) _
          refine XS.aload X58.here hx rfl (hb hby at_134) rfl rfl ?_
          show Steps p.tables e below (T58.setTop (mkF m 136 #[.val (.int p1), .val (.int p2), .val (.int p3), .val (.int p4), .val (.int p5), .val (.int p6), .val (.ref b7), .val (.int (3 : Int32)), .val (.int (0 : Int32)), .val (.int (0 : Int32)), .val (.int p1)] [(.ref b7)])) _
          refine XS.iload X58.here hx rfl (hb hby at_136) rfl ?_
          show Steps p.tables e below (T58.setTop (mkF m 138 #[.val (.int p1), .val (.int p2), .val (.int p3), .val (.int p4), .val (.int p5), .val (.int p6), .val (.ref b7), .val (.int (3 : Int32)), .val (.int (0 : Int32)), .val (.int (0 : Int32)), .val (.int p1)] [(.int (0 : Int32)), (.ref b7)])) _
          refine st335.trans ?_
          show Steps p.tables e below (T335.setTop (mkF m 141 #[.val (.int p1), .val (.int p2), .val (.int p3), .val (.int p4), .val (.int p5), .val (.int p6), .val (.ref b7), .val (.int (3 : Int32)), .val (.int (0 : Int32)), .val (.int (0 : Int32)), .val (.int p1)] [(.int p1)])) _
          refine XS.iload X335.here hx rfl (hb hby at_141) rfl ?_
          show Steps p.tables e below (T335.setTop (mkF m 143 #[.val (.int p1), .val (.int p2), .val (.int p3), .val (.int p4), .val (.int p5), .val (.int p6), .val (.ref b7), .val (.int (3 : Int32)), .val (.int (0 : Int32)), .val (.int (0 : Int32)), .val (.int p1)] [(.int p1), (.int p1)])) _
          refine XS.icmpNo X335.here hx rfl (hb hby at_143) rfl (teq (rfl : p1 = p1)).2 ?_
          show Steps p.tables e below (T335.setTop (mkF m 146 #[.val (.int p1), .val (.int p2), .val (.int p3), .val (.int p4), .val (.int p5), .val (.int p6), .val (.ref b7), .val (.int (3 : Int32)), .val (.int (0 : Int32)), .val (.int (0 : Int32)), .val (.int p1)] [])) _
          refine XS.iconst X335.here hx rfl (hb hby at_146) ?_
          show Steps p.tables e below (T335.setTop (mkF m 147 #[.val (.int p1), .val (.int p2), .val (.int p3), .val (.int p4), .val (.int p5), .val (.int p6), .val (.ref b7), .val (.int (3 : Int32)), .val (.int (0 : Int32)), .val (.int (0 : Int32)), .val (.int p1)] [(.int (1 : Int32))])) _
          refine XS.goto X335.here hx rfl (pc0 := 147) (pc' := 151) rfl (hb hby at_147) (by decide) (by decide) ?_
          show Steps p.tables e below (T335.setTop (mkF m 151 #[.val (.int p1), .val (.int p2), .val (.int p3), .val (.int p4), .val (.int p5), .val (.int p6), .val (.ref b7), .val (.int (3 : Int32)), .val (.int (0 : Int32)), .val (.int (0 : Int32)), .val (.int p1)] [(.int (1 : Int32))])) _
          exact retN X335 hx (t := .boolean) Bd.returns (by simp) (hb hby at_151) hr
        · show Q0 Z _ _ _ _ _ _ h0 n0 _ T335.heap _
          rw [u338]
          exact ⟨rfl, N335⟩
      · skip
        have f339 : Arv Z T58.heap b9 k10 (.array .int) (1 : Int32) [(.ref b23)] .null := (f57.keep Ku61 (ninS (Nat.ne_of_lt (Nat.lt_of_lt_of_le u14 u27)) (ninS (Ne.symm (Nat.ne_of_lt (Nat.lt_of_lt_of_le lt_b7 u13))) nin0)))
        obtain ⟨cq340, kq340, q340a, q340b, q340c⟩ := isOf hZ rfl u64
        obtain ⟨_, _, ⟨T340, L340, k340, n340⟩, -, X340, ⟨Lc340, hQ340, l340, y340, z340⟩, st340⟩ := X58.virtualBack hx (y := M_2) (z := M_2) hown (mvT hZ (hw _ (gw 22 rfl))) (mvT hZ (hw _ (gw 23 rfl))) (notFace_of_selects (args := #[]) (mvT hZ (hw _ (gw 25 rfl)))) (mvT hZ (hw _ (gw 25 rfl))) (mvT hZ (hw _ (gw 24 rfl))) (by decide) (backOf (W := 0) (rm4_8 l Z a0 hw [] b7 b9 b23 k10 p1 p2 p3 p4 k24 T58.heap n0  Ou61 u65 f339 u63) hZ (hw _ (gw 26 rfl)) (hw _ (gw 2 rfl)) (by decide) (by decide)) q340a q340c (g := (mkF m 138 #[.val (.int p1), .val (.int p2), .val (.int p3), .val (.int p4), .val (.int p5), .val (.int p6), .val (.ref b7), .val (.int (3 : Int32)), .val (.int (0 : Int32)), .val (.int (1 : Int32)), .val (.int p2)] [(.int (1 : Int32)), (.ref b7)])) rfl (by rw [hml]; rfl) (Steps.refl _) (argsL := [(.int (1 : Int32))]) (rest := []) (lenOf pd_2 rfl) rfl (by show 2 * 0 + _ ≤ _; exact Nat.le_of_eq rfl) (hb hby at_138) (fun _ _ => ⟨rfl, rfl, (by decide : 3 + 0 ≤ _), (by decide : 4099 + 0 ≤ _)⟩)
        dsimp only [Pt.U, Pt.locs, Pt.cells, Pt.slots] at X340 l340 y340 z340 st340 hQ340
        subst l340 y340 z340
        obtain ⟨rfl, u342, u343⟩ := hQ340
        have N340 := Fr.app N58 u342
        obtain ⟨fs, hr, hrun, hended, hW, hsame⟩ := X340.leave (v := some (.int (1 : Int32))) (fun h => by rw [Bd.returns] at h; cases h)
        refine ⟨_, _, pre333 _ ?_, hrun, hended, _, _, rfl, ?_, ⟨_, rfl⟩, hW, hsame.mono (by decide) (by decide)⟩
        · show Steps p.tables e below (T58.setTop (mkF m 60 #[.val (.int p1), .val (.int p2), .val (.int p3), .val (.int p4), .val (.int p5), .val (.int p6), .val (.ref b7), .val (.int (3 : Int32)), .val (.int (0 : Int32)), .unset, .unset] [(.int (3 : Int32)), (.int i331)])) _
          refine XS.iand X58.here hx rfl (hb hby at_60) rfl ?_
          show Steps p.tables e below (T58.setTop (mkF m 61 #[.val (.int p1), .val (.int p2), .val (.int p3), .val (.int p4), .val (.int p5), .val (.int p6), .val (.ref b7), .val (.int (3 : Int32)), .val (.int (0 : Int32)), .unset, .unset] [(.int (i331 &&& (3 : Int32)))])) _
          rw [hq332]
          show Steps p.tables e below (T58.setTop (mkF m 61 #[.val (.int p1), .val (.int p2), .val (.int p3), .val (.int p4), .val (.int p5), .val (.int p6), .val (.ref b7), .val (.int (3 : Int32)), .val (.int (0 : Int32)), .unset, .unset] [(.int (1 : Int32))])) _
          refine XS.istore X58.here hx rfl (hb hby at_61) rfl (l' := #[.val (.int p1), .val (.int p2), .val (.int p3), .val (.int p4), .val (.int p5), .val (.int p6), .val (.ref b7), .val (.int (3 : Int32)), .val (.int (0 : Int32)), .val (.int (1 : Int32)), .unset]) rfl ?_
          show Steps p.tables e below (T58.setTop (mkF m 63 #[.val (.int p1), .val (.int p2), .val (.int p3), .val (.int p4), .val (.int p5), .val (.int p6), .val (.ref b7), .val (.int (3 : Int32)), .val (.int (0 : Int32)), .val (.int (1 : Int32)), .unset] [])) _
          refine XS.iload X58.here hx rfl (hb hby at_63) rfl ?_
          show Steps p.tables e below (T58.setTop (mkF m 65 #[.val (.int p1), .val (.int p2), .val (.int p3), .val (.int p4), .val (.int p5), .val (.int p6), .val (.ref b7), .val (.int (3 : Int32)), .val (.int (0 : Int32)), .val (.int (1 : Int32)), .unset] [(.int (0 : Int32))])) _
          refine XS.ifYes X58.here hx rfl (pc0 := 65) (pc' := 77) rfl (hb hby at_65) rfl ((if0 _ _).trans (teq (by decide +kernel : (0 : Int32) = (0 : Int32))).1) (by decide) (by decide) ?_
          show Steps p.tables e below (T58.setTop (mkF m 77 #[.val (.int p1), .val (.int p2), .val (.int p3), .val (.int p4), .val (.int p5), .val (.int p6), .val (.ref b7), .val (.int (3 : Int32)), .val (.int (0 : Int32)), .val (.int (1 : Int32)), .unset] [])) _
          refine XS.iload X58.here hx rfl (hb hby at_77) rfl ?_
          show Steps p.tables e below (T58.setTop (mkF m 79 #[.val (.int p1), .val (.int p2), .val (.int p3), .val (.int p4), .val (.int p5), .val (.int p6), .val (.ref b7), .val (.int (3 : Int32)), .val (.int (0 : Int32)), .val (.int (1 : Int32)), .unset] [(.int (0 : Int32))])) _
          refine XS.ifYes X58.here hx rfl (pc0 := 79) (pc' := 96) rfl (hb hby at_79) rfl ((if0 _ _).trans (teq (by decide +kernel : (0 : Int32) = (0 : Int32))).1) (by decide) (by decide) ?_
          show Steps p.tables e below (T58.setTop (mkF m 96 #[.val (.int p1), .val (.int p2), .val (.int p3), .val (.int p4), .val (.int p5), .val (.int p6), .val (.ref b7), .val (.int (3 : Int32)), .val (.int (0 : Int32)), .val (.int (1 : Int32)), .unset] [])) _
          refine XS.iload X58.here hx rfl (hb hby at_96) rfl ?_
          show Steps p.tables e below (T58.setTop (mkF m 98 #[.val (.int p1), .val (.int p2), .val (.int p3), .val (.int p4), .val (.int p5), .val (.int p6), .val (.ref b7), .val (.int (3 : Int32)), .val (.int (0 : Int32)), .val (.int (1 : Int32)), .unset] [(.int (1 : Int32))])) _
          refine XS.ifYes X58.here hx rfl (pc0 := 98) (pc' := 107) rfl (hb hby at_98) rfl ((if0 _ _).trans (feq (by decide +kernel : ¬ ((1 : Int32) = (0 : Int32)))).2) (by decide) (by decide) ?_
          show Steps p.tables e below (T58.setTop (mkF m 107 #[.val (.int p1), .val (.int p2), .val (.int p3), .val (.int p4), .val (.int p5), .val (.int p6), .val (.ref b7), .val (.int (3 : Int32)), .val (.int (0 : Int32)), .val (.int (1 : Int32)), .unset] [])) _
          refine XS.iload X58.here hx rfl (hb hby at_107) rfl ?_
          show Steps p.tables e below (T58.setTop (mkF m 109 #[.val (.int p1), .val (.int p2), .val (.int p3), .val (.int p4), .val (.int p5), .val (.int p6), .val (.ref b7), .val (.int (3 : Int32)), .val (.int (0 : Int32)), .val (.int (1 : Int32)), .unset] [(.int (1 : Int32))])) _
          refine XS.iconst X58.here hx rfl (hb hby at_109) ?_
          show Steps p.tables e below (T58.setTop (mkF m 110 #[.val (.int p1), .val (.int p2), .val (.int p3), .val (.int p4), .val (.int p5), .val (.int p6), .val (.ref b7), .val (.int (3 : Int32)), .val (.int (0 : Int32)), .val (.int (1 : Int32)), .unset] [(.int (1 : Int32)), (.int (1 : Int32))])) _
          refine XS.icmpNo X58.here hx rfl (hb hby at_110) rfl (teq (by decide +kernel : (1 : Int32) = (1 : Int32))).2 ?_
          show Steps p.tables e below (T58.setTop (mkF m 113 #[.val (.int p1), .val (.int p2), .val (.int p3), .val (.int p4), .val (.int p5), .val (.int p6), .val (.ref b7), .val (.int (3 : Int32)), .val (.int (0 : Int32)), .val (.int (1 : Int32)), .unset] [])) _
          refine XS.iloadN X58.here hx rfl (hb hby at_113) rfl ?_
          show Steps p.tables e below (T58.setTop (mkF m 114 #[.val (.int p1), .val (.int p2), .val (.int p3), .val (.int p4), .val (.int p5), .val (.int p6), .val (.ref b7), .val (.int (3 : Int32)), .val (.int (0 : Int32)), .val (.int (1 : Int32)), .unset] [(.int p2)])) _
          refine XS.istore X58.here hx rfl (hb hby at_114) rfl (l' := #[.val (.int p1), .val (.int p2), .val (.int p3), .val (.int p4), .val (.int p5), .val (.int p6), .val (.ref b7), .val (.int (3 : Int32)), .val (.int (0 : Int32)), .val (.int (1 : Int32)), .val (.int p2)]) rfl ?_
          show Steps p.tables e below (T58.setTop (mkF m 116 #[.val (.int p1), .val (.int p2), .val (.int p3), .val (.int p4), .val (.int p5), .val (.int p6), .val (.ref b7), .val (.int (3 : Int32)), .val (.int (0 : Int32)), .val (.int (1 : Int32)), .val (.int p2)] [])) _
          refine XS.goto X58.here hx rfl (pc0 := 116) (pc' := 134) rfl (hb hby at_116) (by decide) (by decide) ?_
          show Steps p.tables e below (T58.setTop (mkF m 134 #[.val (.int p1), .val (.int p2), .val (.int p3), .val (.int p4), .val (.int p5), .val (.int p6), .val (.ref b7), .val (.int (3 : Int32)), .val (.int (0 : Int32)), .val (.int (1 : Int32)), .val (.int p2)] [])) _
          refine XS.aload X58.here hx rfl (hb hby at_134) rfl rfl ?_
          show Steps p.tables e below (T58.setTop (mkF m 136 #[.val (.int p1), .val (.int p2), .val (.int p3), .val (.int p4), .val (.int p5), .val (.int p6), .val (.ref b7), .val (.int (3 : Int32)), .val (.int (0 : Int32)), .val (.int (1 : Int32)), .val (.int p2)] [(.ref b7)])) _
          refine XS.iload X58.here hx rfl (hb hby at_136) rfl ?_
          show Steps p.tables e below (T58.setTop (mkF m 138 #[.val (.int p1), .val (.int p2), .val (.int p3), .val (.int p4), .val (.int p5), .val (.int p6), .val (.ref b7), .val (.int (3 : Int32)), .val (.int (0 : Int32)), .val (.int (1 : Int32)), .val (.int p2)] [(.int (1 : Int32)), (.ref b7)])) _
          refine st340.trans ?_
          show Steps p.tables e below (T340.setTop (mkF m 141 #[.val (.int p1), .val (.int p2), .val (.int p3), .val (.int p4), .val (.int p5), .val (.int p6), .val (.ref b7), .val (.int (3 : Int32)), .val (.int (0 : Int32)), .val (.int (1 : Int32)), .val (.int p2)] [(.int p2)])) _
          refine XS.iload X340.here hx rfl (hb hby at_141) rfl ?_
          show Steps p.tables e below (T340.setTop (mkF m 143 #[.val (.int p1), .val (.int p2), .val (.int p3), .val (.int p4), .val (.int p5), .val (.int p6), .val (.ref b7), .val (.int (3 : Int32)), .val (.int (0 : Int32)), .val (.int (1 : Int32)), .val (.int p2)] [(.int p2), (.int p2)])) _
          refine XS.icmpNo X340.here hx rfl (hb hby at_143) rfl (teq (rfl : p2 = p2)).2 ?_
          show Steps p.tables e below (T340.setTop (mkF m 146 #[.val (.int p1), .val (.int p2), .val (.int p3), .val (.int p4), .val (.int p5), .val (.int p6), .val (.ref b7), .val (.int (3 : Int32)), .val (.int (0 : Int32)), .val (.int (1 : Int32)), .val (.int p2)] [])) _
          refine XS.iconst X340.here hx rfl (hb hby at_146) ?_
          show Steps p.tables e below (T340.setTop (mkF m 147 #[.val (.int p1), .val (.int p2), .val (.int p3), .val (.int p4), .val (.int p5), .val (.int p6), .val (.ref b7), .val (.int (3 : Int32)), .val (.int (0 : Int32)), .val (.int (1 : Int32)), .val (.int p2)] [(.int (1 : Int32))])) _
          refine XS.goto X340.here hx rfl (pc0 := 147) (pc' := 151) rfl (hb hby at_147) (by decide) (by decide) ?_
          show Steps p.tables e below (T340.setTop (mkF m 151 #[.val (.int p1), .val (.int p2), .val (.int p3), .val (.int p4), .val (.int p5), .val (.int p6), .val (.ref b7), .val (.int (3 : Int32)), .val (.int (0 : Int32)), .val (.int (1 : Int32)), .val (.int p2)] [(.int (1 : Int32))])) _
          exact retN X340 hx (t := .boolean) Bd.returns (by simp) (hb hby at_151) hr
        · show Q0 Z _ _ _ _ _ _ h0 n0 _ T340.heap _
          rw [u343]
          exact ⟨rfl, N340⟩
      · skip
        have f344 : Arv Z T58.heap b9 k10 (.array .int) (1 : Int32) [(.ref b23)] .null := (f57.keep Ku61 (ninS (Nat.ne_of_lt (Nat.lt_of_lt_of_le u14 u27)) (ninS (Ne.symm (Nat.ne_of_lt (Nat.lt_of_lt_of_le lt_b7 u13))) nin0)))
        obtain ⟨cq345, kq345, q345a, q345b, q345c⟩ := isOf hZ rfl u64
        obtain ⟨_, _, ⟨T345, L345, k345, n345⟩, -, X345, ⟨Lc345, hQ345, l345, y345, z345⟩, st345⟩ := X58.virtualBack hx (y := M_2) (z := M_2) hown (mvT hZ (hw _ (gw 22 rfl))) (mvT hZ (hw _ (gw 23 rfl))) (notFace_of_selects (args := #[]) (mvT hZ (hw _ (gw 25 rfl)))) (mvT hZ (hw _ (gw 25 rfl))) (mvT hZ (hw _ (gw 24 rfl))) (by decide) (backOf (W := 0) (rm4_9 l Z a0 hw [] b7 b9 b23 k10 p1 p2 p3 p4 k24 T58.heap n0  Ou61 u65 f344 u63) hZ (hw _ (gw 26 rfl)) (hw _ (gw 2 rfl)) (by decide) (by decide)) q345a q345c (g := (mkF m 138 #[.val (.int p1), .val (.int p2), .val (.int p3), .val (.int p4), .val (.int p5), .val (.int p6), .val (.ref b7), .val (.int (3 : Int32)), .val (.int (0 : Int32)), .val (.int (2 : Int32)), .val (.int p3)] [(.int (2 : Int32)), (.ref b7)])) rfl (by rw [hml]; rfl) (Steps.refl _) (argsL := [(.int (2 : Int32))]) (rest := []) (lenOf pd_2 rfl) rfl (by show 2 * 0 + _ ≤ _; exact Nat.le_of_eq rfl) (hb hby at_138) (fun _ _ => ⟨rfl, rfl, (by decide : 3 + 0 ≤ _), (by decide : 4099 + 0 ≤ _)⟩)
        dsimp only [Pt.U, Pt.locs, Pt.cells, Pt.slots] at X345 l345 y345 z345 st345 hQ345
        subst l345 y345 z345
        obtain ⟨rfl, u347, u348⟩ := hQ345
        have N345 := Fr.app N58 u347
        obtain ⟨fs, hr, hrun, hended, hW, hsame⟩ := X345.leave (v := some (.int (1 : Int32))) (fun h => by rw [Bd.returns] at h; cases h)
        refine ⟨_, _, pre333 _ ?_, hrun, hended, _, _, rfl, ?_, ⟨_, rfl⟩, hW, hsame.mono (by decide) (by decide)⟩
        · show Steps p.tables e below (T58.setTop (mkF m 60 #[.val (.int p1), .val (.int p2), .val (.int p3), .val (.int p4), .val (.int p5), .val (.int p6), .val (.ref b7), .val (.int (3 : Int32)), .val (.int (0 : Int32)), .unset, .unset] [(.int (3 : Int32)), (.int i331)])) _
          refine XS.iand X58.here hx rfl (hb hby at_60) rfl ?_
          show Steps p.tables e below (T58.setTop (mkF m 61 #[.val (.int p1), .val (.int p2), .val (.int p3), .val (.int p4), .val (.int p5), .val (.int p6), .val (.ref b7), .val (.int (3 : Int32)), .val (.int (0 : Int32)), .unset, .unset] [(.int (i331 &&& (3 : Int32)))])) _
          rw [hq332]
          show Steps p.tables e below (T58.setTop (mkF m 61 #[.val (.int p1), .val (.int p2), .val (.int p3), .val (.int p4), .val (.int p5), .val (.int p6), .val (.ref b7), .val (.int (3 : Int32)), .val (.int (0 : Int32)), .unset, .unset] [(.int (2 : Int32))])) _
          refine XS.istore X58.here hx rfl (hb hby at_61) rfl (l' := #[.val (.int p1), .val (.int p2), .val (.int p3), .val (.int p4), .val (.int p5), .val (.int p6), .val (.ref b7), .val (.int (3 : Int32)), .val (.int (0 : Int32)), .val (.int (2 : Int32)), .unset]) rfl ?_
          show Steps p.tables e below (T58.setTop (mkF m 63 #[.val (.int p1), .val (.int p2), .val (.int p3), .val (.int p4), .val (.int p5), .val (.int p6), .val (.ref b7), .val (.int (3 : Int32)), .val (.int (0 : Int32)), .val (.int (2 : Int32)), .unset] [])) _
          refine XS.iload X58.here hx rfl (hb hby at_63) rfl ?_
          show Steps p.tables e below (T58.setTop (mkF m 65 #[.val (.int p1), .val (.int p2), .val (.int p3), .val (.int p4), .val (.int p5), .val (.int p6), .val (.ref b7), .val (.int (3 : Int32)), .val (.int (0 : Int32)), .val (.int (2 : Int32)), .unset] [(.int (0 : Int32))])) _
          refine XS.ifYes X58.here hx rfl (pc0 := 65) (pc' := 77) rfl (hb hby at_65) rfl ((if0 _ _).trans (teq (by decide +kernel : (0 : Int32) = (0 : Int32))).1) (by decide) (by decide) ?_
          show Steps p.tables e below (T58.setTop (mkF m 77 #[.val (.int p1), .val (.int p2), .val (.int p3), .val (.int p4), .val (.int p5), .val (.int p6), .val (.ref b7), .val (.int (3 : Int32)), .val (.int (0 : Int32)), .val (.int (2 : Int32)), .unset] [])) _
          refine XS.iload X58.here hx rfl (hb hby at_77) rfl ?_
          show Steps p.tables e below (T58.setTop (mkF m 79 #[.val (.int p1), .val (.int p2), .val (.int p3), .val (.int p4), .val (.int p5), .val (.int p6), .val (.ref b7), .val (.int (3 : Int32)), .val (.int (0 : Int32)), .val (.int (2 : Int32)), .unset] [(.int (0 : Int32))])) _
          refine XS.ifYes X58.here hx rfl (pc0 := 79) (pc' := 96) rfl (hb hby at_79) rfl ((if0 _ _).trans (teq (by decide +kernel : (0 : Int32) = (0 : Int32))).1) (by decide) (by decide) ?_
          show Steps p.tables e below (T58.setTop (mkF m 96 #[.val (.int p1), .val (.int p2), .val (.int p3), .val (.int p4), .val (.int p5), .val (.int p6), .val (.ref b7), .val (.int (3 : Int32)), .val (.int (0 : Int32)), .val (.int (2 : Int32)), .unset] [])) _
          refine XS.iload X58.here hx rfl (hb hby at_96) rfl ?_
          show Steps p.tables e below (T58.setTop (mkF m 98 #[.val (.int p1), .val (.int p2), .val (.int p3), .val (.int p4), .val (.int p5), .val (.int p6), .val (.ref b7), .val (.int (3 : Int32)), .val (.int (0 : Int32)), .val (.int (2 : Int32)), .unset] [(.int (2 : Int32))])) _
          refine XS.ifYes X58.here hx rfl (pc0 := 98) (pc' := 107) rfl (hb hby at_98) rfl ((if0 _ _).trans (feq (by decide +kernel : ¬ ((2 : Int32) = (0 : Int32)))).2) (by decide) (by decide) ?_
          show Steps p.tables e below (T58.setTop (mkF m 107 #[.val (.int p1), .val (.int p2), .val (.int p3), .val (.int p4), .val (.int p5), .val (.int p6), .val (.ref b7), .val (.int (3 : Int32)), .val (.int (0 : Int32)), .val (.int (2 : Int32)), .unset] [])) _
          refine XS.iload X58.here hx rfl (hb hby at_107) rfl ?_
          show Steps p.tables e below (T58.setTop (mkF m 109 #[.val (.int p1), .val (.int p2), .val (.int p3), .val (.int p4), .val (.int p5), .val (.int p6), .val (.ref b7), .val (.int (3 : Int32)), .val (.int (0 : Int32)), .val (.int (2 : Int32)), .unset] [(.int (2 : Int32))])) _
          refine XS.iconst X58.here hx rfl (hb hby at_109) ?_
          show Steps p.tables e below (T58.setTop (mkF m 110 #[.val (.int p1), .val (.int p2), .val (.int p3), .val (.int p4), .val (.int p5), .val (.int p6), .val (.ref b7), .val (.int (3 : Int32)), .val (.int (0 : Int32)), .val (.int (2 : Int32)), .unset] [(.int (1 : Int32)), (.int (2 : Int32))])) _
          refine XS.icmpYes X58.here hx rfl (pc0 := 110) (pc' := 119) rfl (hb hby at_110) rfl (feq (by decide +kernel : ¬ ((2 : Int32) = (1 : Int32)))).2 (by decide) (by decide) ?_
          show Steps p.tables e below (T58.setTop (mkF m 119 #[.val (.int p1), .val (.int p2), .val (.int p3), .val (.int p4), .val (.int p5), .val (.int p6), .val (.ref b7), .val (.int (3 : Int32)), .val (.int (0 : Int32)), .val (.int (2 : Int32)), .unset] [])) _
          refine XS.iload X58.here hx rfl (hb hby at_119) rfl ?_
          show Steps p.tables e below (T58.setTop (mkF m 121 #[.val (.int p1), .val (.int p2), .val (.int p3), .val (.int p4), .val (.int p5), .val (.int p6), .val (.ref b7), .val (.int (3 : Int32)), .val (.int (0 : Int32)), .val (.int (2 : Int32)), .unset] [(.int (2 : Int32))])) _
          refine XS.iconst X58.here hx rfl (hb hby at_121) ?_
          show Steps p.tables e below (T58.setTop (mkF m 122 #[.val (.int p1), .val (.int p2), .val (.int p3), .val (.int p4), .val (.int p5), .val (.int p6), .val (.ref b7), .val (.int (3 : Int32)), .val (.int (0 : Int32)), .val (.int (2 : Int32)), .unset] [(.int (2 : Int32)), (.int (2 : Int32))])) _
          refine XS.icmpNo X58.here hx rfl (hb hby at_122) rfl (teq (by decide +kernel : (2 : Int32) = (2 : Int32))).2 ?_
          show Steps p.tables e below (T58.setTop (mkF m 125 #[.val (.int p1), .val (.int p2), .val (.int p3), .val (.int p4), .val (.int p5), .val (.int p6), .val (.ref b7), .val (.int (3 : Int32)), .val (.int (0 : Int32)), .val (.int (2 : Int32)), .unset] [])) _
          refine XS.iloadN X58.here hx rfl (hb hby at_125) rfl ?_
          show Steps p.tables e below (T58.setTop (mkF m 126 #[.val (.int p1), .val (.int p2), .val (.int p3), .val (.int p4), .val (.int p5), .val (.int p6), .val (.ref b7), .val (.int (3 : Int32)), .val (.int (0 : Int32)), .val (.int (2 : Int32)), .unset] [(.int p3)])) _
          refine XS.istore X58.here hx rfl (hb hby at_126) rfl (l' := #[.val (.int p1), .val (.int p2), .val (.int p3), .val (.int p4), .val (.int p5), .val (.int p6), .val (.ref b7), .val (.int (3 : Int32)), .val (.int (0 : Int32)), .val (.int (2 : Int32)), .val (.int p3)]) rfl ?_
          show Steps p.tables e below (T58.setTop (mkF m 128 #[.val (.int p1), .val (.int p2), .val (.int p3), .val (.int p4), .val (.int p5), .val (.int p6), .val (.ref b7), .val (.int (3 : Int32)), .val (.int (0 : Int32)), .val (.int (2 : Int32)), .val (.int p3)] [])) _
          refine XS.goto X58.here hx rfl (pc0 := 128) (pc' := 134) rfl (hb hby at_128) (by decide) (by decide) ?_
          show Steps p.tables e below (T58.setTop (mkF m 134 #[.val (.int p1), .val (.int p2), .val (.int p3), .val (.int p4), .val (.int p5), .val (.int p6), .val (.ref b7), .val (.int (3 : Int32)), .val (.int (0 : Int32)), .val (.int (2 : Int32)), .val (.int p3)] [])) _
          refine XS.aload X58.here hx rfl (hb hby at_134) rfl rfl ?_
          show Steps p.tables e below (T58.setTop (mkF m 136 #[.val (.int p1), .val (.int p2), .val (.int p3), .val (.int p4), .val (.int p5), .val (.int p6), .val (.ref b7), .val (.int (3 : Int32)), .val (.int (0 : Int32)), .val (.int (2 : Int32)), .val (.int p3)] [(.ref b7)])) _
          refine XS.iload X58.here hx rfl (hb hby at_136) rfl ?_
          show Steps p.tables e below (T58.setTop (mkF m 138 #[.val (.int p1), .val (.int p2), .val (.int p3), .val (.int p4), .val (.int p5), .val (.int p6), .val (.ref b7), .val (.int (3 : Int32)), .val (.int (0 : Int32)), .val (.int (2 : Int32)), .val (.int p3)] [(.int (2 : Int32)), (.ref b7)])) _
          refine st345.trans ?_
          show Steps p.tables e below (T345.setTop (mkF m 141 #[.val (.int p1), .val (.int p2), .val (.int p3), .val (.int p4), .val (.int p5), .val (.int p6), .val (.ref b7), .val (.int (3 : Int32)), .val (.int (0 : Int32)), .val (.int (2 : Int32)), .val (.int p3)] [(.int p3)])) _
          refine XS.iload X345.here hx rfl (hb hby at_141) rfl ?_
          show Steps p.tables e below (T345.setTop (mkF m 143 #[.val (.int p1), .val (.int p2), .val (.int p3), .val (.int p4), .val (.int p5), .val (.int p6), .val (.ref b7), .val (.int (3 : Int32)), .val (.int (0 : Int32)), .val (.int (2 : Int32)), .val (.int p3)] [(.int p3), (.int p3)])) _
          refine XS.icmpNo X345.here hx rfl (hb hby at_143) rfl (teq (rfl : p3 = p3)).2 ?_
          show Steps p.tables e below (T345.setTop (mkF m 146 #[.val (.int p1), .val (.int p2), .val (.int p3), .val (.int p4), .val (.int p5), .val (.int p6), .val (.ref b7), .val (.int (3 : Int32)), .val (.int (0 : Int32)), .val (.int (2 : Int32)), .val (.int p3)] [])) _
          refine XS.iconst X345.here hx rfl (hb hby at_146) ?_
          show Steps p.tables e below (T345.setTop (mkF m 147 #[.val (.int p1), .val (.int p2), .val (.int p3), .val (.int p4), .val (.int p5), .val (.int p6), .val (.ref b7), .val (.int (3 : Int32)), .val (.int (0 : Int32)), .val (.int (2 : Int32)), .val (.int p3)] [(.int (1 : Int32))])) _
          refine XS.goto X345.here hx rfl (pc0 := 147) (pc' := 151) rfl (hb hby at_147) (by decide) (by decide) ?_
          show Steps p.tables e below (T345.setTop (mkF m 151 #[.val (.int p1), .val (.int p2), .val (.int p3), .val (.int p4), .val (.int p5), .val (.int p6), .val (.ref b7), .val (.int (3 : Int32)), .val (.int (0 : Int32)), .val (.int (2 : Int32)), .val (.int p3)] [(.int (1 : Int32))])) _
          exact retN X345 hx (t := .boolean) Bd.returns (by simp) (hb hby at_151) hr
        · show Q0 Z _ _ _ _ _ _ h0 n0 _ T345.heap _
          rw [u348]
          exact ⟨rfl, N345⟩
      · skip
        have f349 : Arv Z T58.heap b9 k10 (.array .int) (1 : Int32) [(.ref b23)] .null := (f57.keep Ku61 (ninS (Nat.ne_of_lt (Nat.lt_of_lt_of_le u14 u27)) (ninS (Ne.symm (Nat.ne_of_lt (Nat.lt_of_lt_of_le lt_b7 u13))) nin0)))
        obtain ⟨cq350, kq350, q350a, q350b, q350c⟩ := isOf hZ rfl u64
        obtain ⟨_, _, ⟨T350, L350, k350, n350⟩, -, X350, ⟨Lc350, hQ350, l350, y350, z350⟩, st350⟩ := X58.virtualBack hx (y := M_2) (z := M_2) hown (mvT hZ (hw _ (gw 22 rfl))) (mvT hZ (hw _ (gw 23 rfl))) (notFace_of_selects (args := #[]) (mvT hZ (hw _ (gw 25 rfl)))) (mvT hZ (hw _ (gw 25 rfl))) (mvT hZ (hw _ (gw 24 rfl))) (by decide) (backOf (W := 0) (rm4_10 l Z a0 hw [] b7 b9 b23 k10 p1 p2 p3 p4 k24 T58.heap n0  Ou61 u65 f349 u63) hZ (hw _ (gw 26 rfl)) (hw _ (gw 2 rfl)) (by decide) (by decide)) q350a q350c (g := (mkF m 138 #[.val (.int p1), .val (.int p2), .val (.int p3), .val (.int p4), .val (.int p5), .val (.int p6), .val (.ref b7), .val (.int (3 : Int32)), .val (.int (0 : Int32)), .val (.int (3 : Int32)), .val (.int p4)] [(.int (3 : Int32)), (.ref b7)])) rfl (by rw [hml]; rfl) (Steps.refl _) (argsL := [(.int (3 : Int32))]) (rest := []) (lenOf pd_2 rfl) rfl (by show 2 * 0 + _ ≤ _; exact Nat.le_of_eq rfl) (hb hby at_138) (fun _ _ => ⟨rfl, rfl, (by decide : 3 + 0 ≤ _), (by decide : 4099 + 0 ≤ _)⟩)
        dsimp only [Pt.U, Pt.locs, Pt.cells, Pt.slots] at X350 l350 y350 z350 st350 hQ350
        subst l350 y350 z350
        obtain ⟨rfl, u352, u353⟩ := hQ350
        have N350 := Fr.app N58 u352
        obtain ⟨fs, hr, hrun, hended, hW, hsame⟩ := X350.leave (v := some (.int (1 : Int32))) (fun h => by rw [Bd.returns] at h; cases h)
        refine ⟨_, _, pre333 _ ?_, hrun, hended, _, _, rfl, ?_, ⟨_, rfl⟩, hW, hsame.mono (by decide) (by decide)⟩
        · show Steps p.tables e below (T58.setTop (mkF m 60 #[.val (.int p1), .val (.int p2), .val (.int p3), .val (.int p4), .val (.int p5), .val (.int p6), .val (.ref b7), .val (.int (3 : Int32)), .val (.int (0 : Int32)), .unset, .unset] [(.int (3 : Int32)), (.int i331)])) _
          refine XS.iand X58.here hx rfl (hb hby at_60) rfl ?_
          show Steps p.tables e below (T58.setTop (mkF m 61 #[.val (.int p1), .val (.int p2), .val (.int p3), .val (.int p4), .val (.int p5), .val (.int p6), .val (.ref b7), .val (.int (3 : Int32)), .val (.int (0 : Int32)), .unset, .unset] [(.int (i331 &&& (3 : Int32)))])) _
          rw [hq332]
          show Steps p.tables e below (T58.setTop (mkF m 61 #[.val (.int p1), .val (.int p2), .val (.int p3), .val (.int p4), .val (.int p5), .val (.int p6), .val (.ref b7), .val (.int (3 : Int32)), .val (.int (0 : Int32)), .unset, .unset] [(.int (3 : Int32))])) _
          refine XS.istore X58.here hx rfl (hb hby at_61) rfl (l' := #[.val (.int p1), .val (.int p2), .val (.int p3), .val (.int p4), .val (.int p5), .val (.int p6), .val (.ref b7), .val (.int (3 : Int32)), .val (.int (0 : Int32)), .val (.int (3 : Int32)), .unset]) rfl ?_
          show Steps p.tables e below (T58.setTop (mkF m 63 #[.val (.int p1), .val (.int p2), .val (.int p3), .val (.int p4), .val (.int p5), .val (.int p6), .val (.ref b7), .val (.int (3 : Int32)), .val (.int (0 : Int32)), .val (.int (3 : Int32)), .unset] [])) _
          refine XS.iload X58.here hx rfl (hb hby at_63) rfl ?_
          show Steps p.tables e below (T58.setTop (mkF m 65 #[.val (.int p1), .val (.int p2), .val (.int p3), .val (.int p4), .val (.int p5), .val (.int p6), .val (.ref b7), .val (.int (3 : Int32)), .val (.int (0 : Int32)), .val (.int (3 : Int32)), .unset] [(.int (0 : Int32))])) _
          refine XS.ifYes X58.here hx rfl (pc0 := 65) (pc' := 77) rfl (hb hby at_65) rfl ((if0 _ _).trans (teq (by decide +kernel : (0 : Int32) = (0 : Int32))).1) (by decide) (by decide) ?_
          show Steps p.tables e below (T58.setTop (mkF m 77 #[.val (.int p1), .val (.int p2), .val (.int p3), .val (.int p4), .val (.int p5), .val (.int p6), .val (.ref b7), .val (.int (3 : Int32)), .val (.int (0 : Int32)), .val (.int (3 : Int32)), .unset] [])) _
          refine XS.iload X58.here hx rfl (hb hby at_77) rfl ?_
          show Steps p.tables e below (T58.setTop (mkF m 79 #[.val (.int p1), .val (.int p2), .val (.int p3), .val (.int p4), .val (.int p5), .val (.int p6), .val (.ref b7), .val (.int (3 : Int32)), .val (.int (0 : Int32)), .val (.int (3 : Int32)), .unset] [(.int (0 : Int32))])) _
          refine XS.ifYes X58.here hx rfl (pc0 := 79) (pc' := 96) rfl (hb hby at_79) rfl ((if0 _ _).trans (teq (by decide +kernel : (0 : Int32) = (0 : Int32))).1) (by decide) (by decide) ?_
          show Steps p.tables e below (T58.setTop (mkF m 96 #[.val (.int p1), .val (.int p2), .val (.int p3), .val (.int p4), .val (.int p5), .val (.int p6), .val (.ref b7), .val (.int (3 : Int32)), .val (.int (0 : Int32)), .val (.int (3 : Int32)), .unset] [])) _
          refine XS.iload X58.here hx rfl (hb hby at_96) rfl ?_
          show Steps p.tables e below (T58.setTop (mkF m 98 #[.val (.int p1), .val (.int p2), .val (.int p3), .val (.int p4), .val (.int p5), .val (.int p6), .val (.ref b7), .val (.int (3 : Int32)), .val (.int (0 : Int32)), .val (.int (3 : Int32)), .unset] [(.int (3 : Int32))])) _
          refine XS.ifYes X58.here hx rfl (pc0 := 98) (pc' := 107) rfl (hb hby at_98) rfl ((if0 _ _).trans (feq (by decide +kernel : ¬ ((3 : Int32) = (0 : Int32)))).2) (by decide) (by decide) ?_
          show Steps p.tables e below (T58.setTop (mkF m 107 #[.val (.int p1), .val (.int p2), .val (.int p3), .val (.int p4), .val (.int p5), .val (.int p6), .val (.ref b7), .val (.int (3 : Int32)), .val (.int (0 : Int32)), .val (.int (3 : Int32)), .unset] [])) _
          refine XS.iload X58.here hx rfl (hb hby at_107) rfl ?_
          show Steps p.tables e below (T58.setTop (mkF m 109 #[.val (.int p1), .val (.int p2), .val (.int p3), .val (.int p4), .val (.int p5), .val (.int p6), .val (.ref b7), .val (.int (3 : Int32)), .val (.int (0 : Int32)), .val (.int (3 : Int32)), .unset] [(.int (3 : Int32))])) _
          refine XS.iconst X58.here hx rfl (hb hby at_109) ?_
          show Steps p.tables e below (T58.setTop (mkF m 110 #[.val (.int p1), .val (.int p2), .val (.int p3), .val (.int p4), .val (.int p5), .val (.int p6), .val (.ref b7), .val (.int (3 : Int32)), .val (.int (0 : Int32)), .val (.int (3 : Int32)), .unset] [(.int (1 : Int32)), (.int (3 : Int32))])) _
          refine XS.icmpYes X58.here hx rfl (pc0 := 110) (pc' := 119) rfl (hb hby at_110) rfl (feq (by decide +kernel : ¬ ((3 : Int32) = (1 : Int32)))).2 (by decide) (by decide) ?_
          show Steps p.tables e below (T58.setTop (mkF m 119 #[.val (.int p1), .val (.int p2), .val (.int p3), .val (.int p4), .val (.int p5), .val (.int p6), .val (.ref b7), .val (.int (3 : Int32)), .val (.int (0 : Int32)), .val (.int (3 : Int32)), .unset] [])) _
          refine XS.iload X58.here hx rfl (hb hby at_119) rfl ?_
          show Steps p.tables e below (T58.setTop (mkF m 121 #[.val (.int p1), .val (.int p2), .val (.int p3), .val (.int p4), .val (.int p5), .val (.int p6), .val (.ref b7), .val (.int (3 : Int32)), .val (.int (0 : Int32)), .val (.int (3 : Int32)), .unset] [(.int (3 : Int32))])) _
          refine XS.iconst X58.here hx rfl (hb hby at_121) ?_
          show Steps p.tables e below (T58.setTop (mkF m 122 #[.val (.int p1), .val (.int p2), .val (.int p3), .val (.int p4), .val (.int p5), .val (.int p6), .val (.ref b7), .val (.int (3 : Int32)), .val (.int (0 : Int32)), .val (.int (3 : Int32)), .unset] [(.int (2 : Int32)), (.int (3 : Int32))])) _
          refine XS.icmpYes X58.here hx rfl (pc0 := 122) (pc' := 131) rfl (hb hby at_122) rfl (feq (by decide +kernel : ¬ ((3 : Int32) = (2 : Int32)))).2 (by decide) (by decide) ?_
          show Steps p.tables e below (T58.setTop (mkF m 131 #[.val (.int p1), .val (.int p2), .val (.int p3), .val (.int p4), .val (.int p5), .val (.int p6), .val (.ref b7), .val (.int (3 : Int32)), .val (.int (0 : Int32)), .val (.int (3 : Int32)), .unset] [])) _
          refine XS.iloadN X58.here hx rfl (hb hby at_131) rfl ?_
          show Steps p.tables e below (T58.setTop (mkF m 132 #[.val (.int p1), .val (.int p2), .val (.int p3), .val (.int p4), .val (.int p5), .val (.int p6), .val (.ref b7), .val (.int (3 : Int32)), .val (.int (0 : Int32)), .val (.int (3 : Int32)), .unset] [(.int p4)])) _
          refine XS.istore X58.here hx rfl (hb hby at_132) rfl (l' := #[.val (.int p1), .val (.int p2), .val (.int p3), .val (.int p4), .val (.int p5), .val (.int p6), .val (.ref b7), .val (.int (3 : Int32)), .val (.int (0 : Int32)), .val (.int (3 : Int32)), .val (.int p4)]) rfl ?_
          show Steps p.tables e below (T58.setTop (mkF m 134 #[.val (.int p1), .val (.int p2), .val (.int p3), .val (.int p4), .val (.int p5), .val (.int p6), .val (.ref b7), .val (.int (3 : Int32)), .val (.int (0 : Int32)), .val (.int (3 : Int32)), .val (.int p4)] [])) _
          refine XS.aload X58.here hx rfl (hb hby at_134) rfl rfl ?_
          show Steps p.tables e below (T58.setTop (mkF m 136 #[.val (.int p1), .val (.int p2), .val (.int p3), .val (.int p4), .val (.int p5), .val (.int p6), .val (.ref b7), .val (.int (3 : Int32)), .val (.int (0 : Int32)), .val (.int (3 : Int32)), .val (.int p4)] [(.ref b7)])) _
          refine XS.iload X58.here hx rfl (hb hby at_136) rfl ?_
          show Steps p.tables e below (T58.setTop (mkF m 138 #[.val (.int p1), .val (.int p2), .val (.int p3), .val (.int p4), .val (.int p5), .val (.int p6), .val (.ref b7), .val (.int (3 : Int32)), .val (.int (0 : Int32)), .val (.int (3 : Int32)), .val (.int p4)] [(.int (3 : Int32)), (.ref b7)])) _
          refine st350.trans ?_
          show Steps p.tables e below (T350.setTop (mkF m 141 #[.val (.int p1), .val (.int p2), .val (.int p3), .val (.int p4), .val (.int p5), .val (.int p6), .val (.ref b7), .val (.int (3 : Int32)), .val (.int (0 : Int32)), .val (.int (3 : Int32)), .val (.int p4)] [(.int p4)])) _
          refine XS.iload X350.here hx rfl (hb hby at_141) rfl ?_
          show Steps p.tables e below (T350.setTop (mkF m 143 #[.val (.int p1), .val (.int p2), .val (.int p3), .val (.int p4), .val (.int p5), .val (.int p6), .val (.ref b7), .val (.int (3 : Int32)), .val (.int (0 : Int32)), .val (.int (3 : Int32)), .val (.int p4)] [(.int p4), (.int p4)])) _
          refine XS.icmpNo X350.here hx rfl (hb hby at_143) rfl (teq (rfl : p4 = p4)).2 ?_
          show Steps p.tables e below (T350.setTop (mkF m 146 #[.val (.int p1), .val (.int p2), .val (.int p3), .val (.int p4), .val (.int p5), .val (.int p6), .val (.ref b7), .val (.int (3 : Int32)), .val (.int (0 : Int32)), .val (.int (3 : Int32)), .val (.int p4)] [])) _
          refine XS.iconst X350.here hx rfl (hb hby at_146) ?_
          show Steps p.tables e below (T350.setTop (mkF m 147 #[.val (.int p1), .val (.int p2), .val (.int p3), .val (.int p4), .val (.int p5), .val (.int p6), .val (.ref b7), .val (.int (3 : Int32)), .val (.int (0 : Int32)), .val (.int (3 : Int32)), .val (.int p4)] [(.int (1 : Int32))])) _
          refine XS.goto X350.here hx rfl (pc0 := 147) (pc' := 151) rfl (hb hby at_147) (by decide) (by decide) ?_
          show Steps p.tables e below (T350.setTop (mkF m 151 #[.val (.int p1), .val (.int p2), .val (.int p3), .val (.int p4), .val (.int p5), .val (.int p6), .val (.ref b7), .val (.int (3 : Int32)), .val (.int (0 : Int32)), .val (.int (3 : Int32)), .val (.int p4)] [(.int (1 : Int32))])) _
          exact retN X350 hx (t := .boolean) Bd.returns (by simp) (hb hby at_151) hr
        · show Q0 Z _ _ _ _ _ _ h0 n0 _ T350.heap _
          rw [u353]
          exact ⟨rfl, N350⟩
    · skip
      obtain ⟨i354, hi354⟩ : ∃ z, z = ((p5.toUInt32 >>> ((3 : Int32) &&& 31).toUInt32).toInt32) := ⟨_, rfl⟩
      have pre356 : ∀ t, Steps p.tables e below (T58.setTop (mkF m 60 #[.val (.int p1), .val (.int p2), .val (.int p3), .val (.int p4), .val (.int p5), .val (.int p6), .val (.ref b7), .val (.int (3 : Int32)), .val (.int (1 : Int32)), .unset, .unset] [(.int (3 : Int32)), (.int i354)])) t → Steps p.tables e below (s₁.setTop (entryFrame m #[(.int p1), (.int p2), (.int p3), (.int p4), (.int p5), (.int p6)] maxLocals)) t := by
        intro t kt
        refine pre329 t ?_
        show Steps p.tables e below (T58.setTop (mkF m 45 #[.val (.int p1), .val (.int p2), .val (.int p3), .val (.int p4), .val (.int p5), .val (.int p6), .val (.ref b7), .val (.int (3 : Int32)), .unset, .unset, .unset] [(.int i328)])) _
        refine XS.ifNo X58.here hx rfl (hb hby at_45) rfl ((if0 _ _).trans (feq hc330).1) ?_
        show Steps p.tables e below (T58.setTop (mkF m 48 #[.val (.int p1), .val (.int p2), .val (.int p3), .val (.int p4), .val (.int p5), .val (.int p6), .val (.ref b7), .val (.int (3 : Int32)), .unset, .unset, .unset] [])) _
        refine XS.iconst X58.here hx rfl (hb hby at_48) ?_
        show Steps p.tables e below (T58.setTop (mkF m 49 #[.val (.int p1), .val (.int p2), .val (.int p3), .val (.int p4), .val (.int p5), .val (.int p6), .val (.ref b7), .val (.int (3 : Int32)), .unset, .unset, .unset] [(.int (1 : Int32))])) _
        refine XS.goto X58.here hx rfl (pc0 := 49) (pc' := 53) rfl (hb hby at_49) (by decide) (by decide) ?_
        show Steps p.tables e below (T58.setTop (mkF m 53 #[.val (.int p1), .val (.int p2), .val (.int p3), .val (.int p4), .val (.int p5), .val (.int p6), .val (.ref b7), .val (.int (3 : Int32)), .unset, .unset, .unset] [(.int (1 : Int32))])) _
        refine XS.istore X58.here hx rfl (hb hby at_53) rfl (l' := #[.val (.int p1), .val (.int p2), .val (.int p3), .val (.int p4), .val (.int p5), .val (.int p6), .val (.ref b7), .val (.int (3 : Int32)), .val (.int (1 : Int32)), .unset, .unset]) rfl ?_
        show Steps p.tables e below (T58.setTop (mkF m 55 #[.val (.int p1), .val (.int p2), .val (.int p3), .val (.int p4), .val (.int p5), .val (.int p6), .val (.ref b7), .val (.int (3 : Int32)), .val (.int (1 : Int32)), .unset, .unset] [])) _
        refine XS.iload X58.here hx rfl (hb hby at_55) rfl ?_
        show Steps p.tables e below (T58.setTop (mkF m 57 #[.val (.int p1), .val (.int p2), .val (.int p3), .val (.int p4), .val (.int p5), .val (.int p6), .val (.ref b7), .val (.int (3 : Int32)), .val (.int (1 : Int32)), .unset, .unset] [(.int p5)])) _
        refine XS.iconst X58.here hx rfl (hb hby at_57) ?_
        show Steps p.tables e below (T58.setTop (mkF m 58 #[.val (.int p1), .val (.int p2), .val (.int p3), .val (.int p4), .val (.int p5), .val (.int p6), .val (.ref b7), .val (.int (3 : Int32)), .val (.int (1 : Int32)), .unset, .unset] [(.int (3 : Int32)), (.int p5)])) _
        refine XS.iushr X58.here hx rfl (hb hby at_58) rfl ?_
        show Steps p.tables e below (T58.setTop (mkF m 59 #[.val (.int p1), .val (.int p2), .val (.int p3), .val (.int p4), .val (.int p5), .val (.int p6), .val (.ref b7), .val (.int (3 : Int32)), .val (.int (1 : Int32)), .unset, .unset] [(.int ((p5.toUInt32 >>> ((3 : Int32) &&& 31).toUInt32).toInt32))])) _
        rw [← hi354]
        show Steps p.tables e below (T58.setTop (mkF m 59 #[.val (.int p1), .val (.int p2), .val (.int p3), .val (.int p4), .val (.int p5), .val (.int p6), .val (.ref b7), .val (.int (3 : Int32)), .val (.int (1 : Int32)), .unset, .unset] [(.int i354)])) _
        refine XS.iconst X58.here hx rfl (hb hby at_59) ?_
        show Steps p.tables e below (T58.setTop (mkF m 60 #[.val (.int p1), .val (.int p2), .val (.int p3), .val (.int p4), .val (.int p5), .val (.int p6), .val (.ref b7), .val (.int (3 : Int32)), .val (.int (1 : Int32)), .unset, .unset] [(.int (3 : Int32)), (.int i354)])) _
        exact kt
      rcases (own_and3 i354) with hq355 | hq355 | hq355 | hq355
      · skip
        have f357 : Arv Z T58.heap b9 k10 (.array .int) (1 : Int32) [(.ref b23)] .null := (f57.keep Ku61 (ninS (Nat.ne_of_lt (Nat.lt_of_lt_of_le u14 u27)) (ninS (Ne.symm (Nat.ne_of_lt (Nat.lt_of_lt_of_le lt_b7 u13))) nin0)))
        obtain ⟨cq358, kq358, q358a, q358b, q358c⟩ := isOf hZ rfl u64
        obtain ⟨_, _, ⟨T358, L358, k358, n358⟩, -, X358, ⟨Lc358, hQ358, l358, y358, z358⟩, st358⟩ := X58.virtualBack hx (y := M_3) (z := M_3) hown (mvT hZ (hw _ (gw 27 rfl))) (mvT hZ (hw _ (gw 28 rfl))) (notFace_of_selects (args := #[]) (mvT hZ (hw _ (gw 30 rfl)))) (mvT hZ (hw _ (gw 30 rfl))) (mvT hZ (hw _ (gw 29 rfl))) (by decide) (backOf (W := 0) (rm5_14 l Z a0 hw [] b7 p6 b9 b23 k10 p1 p2 p3 p4 k24 T58.heap n0  Ou61 u65 f357 u63 g_b23 u62) hZ (hw _ (gw 31 rfl)) (hw _ (gw 2 rfl)) (by decide) (by decide)) q358a q358c (g := (mkF m 74 #[.val (.int p1), .val (.int p2), .val (.int p3), .val (.int p4), .val (.int p5), .val (.int p6), .val (.ref b7), .val (.int (3 : Int32)), .val (.int (1 : Int32)), .val (.int (0 : Int32)), .unset] [(.int p6), (.int (3 : Int32)), (.ref b7)])) rfl (by rw [hml]; rfl) (Steps.refl _) (argsL := [(.int (3 : Int32)), (.int p6)]) (rest := []) (lenOf pd_3 rfl) rfl (by show 2 * 0 + _ ≤ _; exact Nat.le_of_eq rfl) (hb hby at_74) (fun _ _ => ⟨rfl, rfl, (by decide : 3 + 0 ≤ _), (by decide : 4099 + 0 ≤ _)⟩)
        dsimp only [Pt.U, Pt.locs, Pt.cells, Pt.slots] at X358 l358 y358 z358 st358 hQ358
        subst l358 y358 z358
        obtain ⟨rfl, u360, Ku361, u362, u363⟩ := hQ358
        have Ou361 : Old Z n0 T358.heap := Ou61.keep Ku361 (allS g_b23 all0)
        have N358 := Fr.app N58 u360
        have f364 : Fld Z T358.heap b7 "com/example/vestry/vestry/Ints" "blocks" "[[I" (.ref b9) := (u65.keep Ku361 (ninS (Nat.ne_of_lt (Nat.lt_of_lt_of_le (Nat.lt_of_lt_of_le lt_b7 Ku15.1) u27)) nin0))
        have f365 : Arv Z T358.heap b9 k10 (.array .int) (1 : Int32) [(.ref b23)] .null := (f357.keep Ku361 (ninS (Nat.ne_of_lt (Nat.lt_of_lt_of_le u14 u27)) nin0))
        have f367 : Exa Z T358.heap b7 "com/example/vestry/vestry/Ints" := (u64.keep Ku361)
        obtain ⟨cq366, kq366, q366a, q366b, q366c⟩ := isOf hZ rfl f367
        obtain ⟨_, _, ⟨T366, L366, k366, n366⟩, -, X366, ⟨Lc366, hQ366, l366, y366, z366⟩, st366⟩ := X358.virtualBack hx (y := M_2) (z := M_2) hown (mvT hZ (hw _ (gw 22 rfl))) (mvT hZ (hw _ (gw 23 rfl))) (notFace_of_selects (args := #[]) (mvT hZ (hw _ (gw 25 rfl)))) (mvT hZ (hw _ (gw 25 rfl))) (mvT hZ (hw _ (gw 24 rfl))) (by decide) (backOf (W := 0) (rm4_7 l Z a0 hw [] b7 b9 b23 k10 p1 p2 p3 p6 k24 T358.heap n0  Ou361 f364 f365 u363) hZ (hw _ (gw 26 rfl)) (hw _ (gw 2 rfl)) (by decide) (by decide)) q366a q366c (g := (mkF m 138 #[.val (.int p1), .val (.int p2), .val (.int p3), .val (.int p4), .val (.int p5), .val (.int p6), .val (.ref b7), .val (.int (3 : Int32)), .val (.int (1 : Int32)), .val (.int (0 : Int32)), .val (.int p1)] [(.int (0 : Int32)), (.ref b7)])) rfl (by rw [hml]; rfl) (Steps.refl _) (argsL := [(.int (0 : Int32))]) (rest := []) (lenOf pd_2 rfl) rfl (by show 2 * 0 + _ ≤ _; exact Nat.le_of_eq rfl) (hb hby at_138) (fun _ _ => ⟨rfl, rfl, (by decide : 3 + 0 ≤ _), (by decide : 4099 + 0 ≤ _)⟩)
        dsimp only [Pt.U, Pt.locs, Pt.cells, Pt.slots] at X366 l366 y366 z366 st366 hQ366
        subst l366 y366 z366
        obtain ⟨rfl, u369, u370⟩ := hQ366
        have N366 := Fr.app N358 u369
        obtain ⟨fs, hr, hrun, hended, hW, hsame⟩ := X366.leave (v := some (.int (1 : Int32))) (fun h => by rw [Bd.returns] at h; cases h)
        refine ⟨_, _, pre356 _ ?_, hrun, hended, _, _, rfl, ?_, ⟨_, rfl⟩, hW, hsame.mono (by decide) (by decide)⟩
        · show Steps p.tables e below (T58.setTop (mkF m 60 #[.val (.int p1), .val (.int p2), .val (.int p3), .val (.int p4), .val (.int p5), .val (.int p6), .val (.ref b7), .val (.int (3 : Int32)), .val (.int (1 : Int32)), .unset, .unset] [(.int (3 : Int32)), (.int i354)])) _
          refine XS.iand X58.here hx rfl (hb hby at_60) rfl ?_
          show Steps p.tables e below (T58.setTop (mkF m 61 #[.val (.int p1), .val (.int p2), .val (.int p3), .val (.int p4), .val (.int p5), .val (.int p6), .val (.ref b7), .val (.int (3 : Int32)), .val (.int (1 : Int32)), .unset, .unset] [(.int (i354 &&& (3 : Int32)))])) _
          rw [hq355]
          show Steps p.tables e below (T58.setTop (mkF m 61 #[.val (.int p1), .val (.int p2), .val (.int p3), .val (.int p4), .val (.int p5), .val (.int p6), .val (.ref b7), .val (.int (3 : Int32)), .val (.int (1 : Int32)), .unset, .unset] [(.int (0 : Int32))])) _
          refine XS.istore X58.here hx rfl (hb hby at_61) rfl (l' := #[.val (.int p1), .val (.int p2), .val (.int p3), .val (.int p4), .val (.int p5), .val (.int p6), .val (.ref b7), .val (.int (3 : Int32)), .val (.int (1 : Int32)), .val (.int (0 : Int32)), .unset]) rfl ?_
          show Steps p.tables e below (T58.setTop (mkF m 63 #[.val (.int p1), .val (.int p2), .val (.int p3), .val (.int p4), .val (.int p5), .val (.int p6), .val (.ref b7), .val (.int (3 : Int32)), .val (.int (1 : Int32)), .val (.int (0 : Int32)), .unset] [])) _
          refine XS.iload X58.here hx rfl (hb hby at_63) rfl ?_
          show Steps p.tables e below (T58.setTop (mkF m 65 #[.val (.int p1), .val (.int p2), .val (.int p3), .val (.int p4), .val (.int p5), .val (.int p6), .val (.ref b7), .val (.int (3 : Int32)), .val (.int (1 : Int32)), .val (.int (0 : Int32)), .unset] [(.int (1 : Int32))])) _
          refine XS.ifNo X58.here hx rfl (hb hby at_65) rfl ((if0 _ _).trans (feq (by decide +kernel : ¬ ((1 : Int32) = (0 : Int32)))).1) ?_
          show Steps p.tables e below (T58.setTop (mkF m 68 #[.val (.int p1), .val (.int p2), .val (.int p3), .val (.int p4), .val (.int p5), .val (.int p6), .val (.ref b7), .val (.int (3 : Int32)), .val (.int (1 : Int32)), .val (.int (0 : Int32)), .unset] [])) _
          refine XS.aload X58.here hx rfl (hb hby at_68) rfl rfl ?_
          show Steps p.tables e below (T58.setTop (mkF m 70 #[.val (.int p1), .val (.int p2), .val (.int p3), .val (.int p4), .val (.int p5), .val (.int p6), .val (.ref b7), .val (.int (3 : Int32)), .val (.int (1 : Int32)), .val (.int (0 : Int32)), .unset] [(.ref b7)])) _
          refine XS.iload X58.here hx rfl (hb hby at_70) rfl ?_
          show Steps p.tables e below (T58.setTop (mkF m 72 #[.val (.int p1), .val (.int p2), .val (.int p3), .val (.int p4), .val (.int p5), .val (.int p6), .val (.ref b7), .val (.int (3 : Int32)), .val (.int (1 : Int32)), .val (.int (0 : Int32)), .unset] [(.int (3 : Int32)), (.ref b7)])) _
          refine XS.iload X58.here hx rfl (hb hby at_72) rfl ?_
          show Steps p.tables e below (T58.setTop (mkF m 74 #[.val (.int p1), .val (.int p2), .val (.int p3), .val (.int p4), .val (.int p5), .val (.int p6), .val (.ref b7), .val (.int (3 : Int32)), .val (.int (1 : Int32)), .val (.int (0 : Int32)), .unset] [(.int p6), (.int (3 : Int32)), (.ref b7)])) _
          refine st358.trans ?_
          show Steps p.tables e below (T358.setTop (mkF m 77 #[.val (.int p1), .val (.int p2), .val (.int p3), .val (.int p4), .val (.int p5), .val (.int p6), .val (.ref b7), .val (.int (3 : Int32)), .val (.int (1 : Int32)), .val (.int (0 : Int32)), .unset] [])) _
          refine XS.iload X358.here hx rfl (hb hby at_77) rfl ?_
          show Steps p.tables e below (T358.setTop (mkF m 79 #[.val (.int p1), .val (.int p2), .val (.int p3), .val (.int p4), .val (.int p5), .val (.int p6), .val (.ref b7), .val (.int (3 : Int32)), .val (.int (1 : Int32)), .val (.int (0 : Int32)), .unset] [(.int (1 : Int32))])) _
          refine XS.ifNo X358.here hx rfl (hb hby at_79) rfl ((if0 _ _).trans (feq (by decide +kernel : ¬ ((1 : Int32) = (0 : Int32)))).1) ?_
          show Steps p.tables e below (T358.setTop (mkF m 82 #[.val (.int p1), .val (.int p2), .val (.int p3), .val (.int p4), .val (.int p5), .val (.int p6), .val (.ref b7), .val (.int (3 : Int32)), .val (.int (1 : Int32)), .val (.int (0 : Int32)), .unset] [])) _
          refine XS.iload X358.here hx rfl (hb hby at_82) rfl ?_
          show Steps p.tables e below (T358.setTop (mkF m 84 #[.val (.int p1), .val (.int p2), .val (.int p3), .val (.int p4), .val (.int p5), .val (.int p6), .val (.ref b7), .val (.int (3 : Int32)), .val (.int (1 : Int32)), .val (.int (0 : Int32)), .unset] [(.int (0 : Int32))])) _
          refine XS.iload X358.here hx rfl (hb hby at_84) rfl ?_
          show Steps p.tables e below (T358.setTop (mkF m 86 #[.val (.int p1), .val (.int p2), .val (.int p3), .val (.int p4), .val (.int p5), .val (.int p6), .val (.ref b7), .val (.int (3 : Int32)), .val (.int (1 : Int32)), .val (.int (0 : Int32)), .unset] [(.int (3 : Int32)), (.int (0 : Int32))])) _
          refine XS.icmpYes X358.here hx rfl (pc0 := 86) (pc' := 96) rfl (hb hby at_86) rfl (feq (by decide +kernel : ¬ ((0 : Int32) = (3 : Int32)))).2 (by decide) (by decide) ?_
          show Steps p.tables e below (T358.setTop (mkF m 96 #[.val (.int p1), .val (.int p2), .val (.int p3), .val (.int p4), .val (.int p5), .val (.int p6), .val (.ref b7), .val (.int (3 : Int32)), .val (.int (1 : Int32)), .val (.int (0 : Int32)), .unset] [])) _
          refine XS.iload X358.here hx rfl (hb hby at_96) rfl ?_
          show Steps p.tables e below (T358.setTop (mkF m 98 #[.val (.int p1), .val (.int p2), .val (.int p3), .val (.int p4), .val (.int p5), .val (.int p6), .val (.ref b7), .val (.int (3 : Int32)), .val (.int (1 : Int32)), .val (.int (0 : Int32)), .unset] [(.int (0 : Int32))])) _
          refine XS.ifNo X358.here hx rfl (hb hby at_98) rfl ((if0 _ _).trans (teq (by decide +kernel : (0 : Int32) = (0 : Int32))).2) ?_
          show Steps p.tables e below (T358.setTop (mkF m 101 #[.val (.int p1), .val (.int p2), .val (.int p3), .val (.int p4), .val (.int p5), .val (.int p6), .val (.ref b7), .val (.int (3 : Int32)), .val (.int (1 : Int32)), .val (.int (0 : Int32)), .unset] [])) _
          refine XS.iloadN X358.here hx rfl (hb hby at_101) rfl ?_
          show Steps p.tables e below (T358.setTop (mkF m 102 #[.val (.int p1), .val (.int p2), .val (.int p3), .val (.int p4), .val (.int p5), .val (.int p6), .val (.ref b7), .val (.int (3 : Int32)), .val (.int (1 : Int32)), .val (.int (0 : Int32)), .unset] [(.int p1)])) _
          refine XS.istore X358.here hx rfl (hb hby at_102) rfl (l' := #[.val (.int p1), .val (.int p2), .val (.int p3), .val (.int p4), .val (.int p5), .val (.int p6), .val (.ref b7), .val (.int (3 : Int32)), .val (.int (1 : Int32)), .val (.int (0 : Int32)), .val (.int p1)]) rfl ?_
          show Steps p.tables e below (T358.setTop (mkF m 104 #[.val (.int p1), .val (.int p2), .val (.int p3), .val (.int p4), .val (.int p5), .val (.int p6), .val (.ref b7), .val (.int (3 : Int32)), .val (.int (1 : Int32)), .val (.int (0 : Int32)), .val (.int p1)] [])) _
          refine XS.goto X358.here hx rfl (pc0 := 104) (pc' := 134) rfl (hb hby at_104) (by decide) (by decide) ?_
          show Steps p.tables e below (T358.setTop (mkF m 134 #[.val (.int p1), .val (.int p2), .val (.int p3), .val (.int p4), .val (.int p5), .val (.int p6), .val (.ref b7), .val (.int (3 : Int32)), .val (.int (1 : Int32)), .val (.int (0 : Int32)), .val (.int p1)] [])) _
          refine XS.aload X358.here hx rfl (hb hby at_134) rfl rfl ?_
          show Steps p.tables e below (T358.setTop (mkF m 136 #[.val (.int p1), .val (.int p2), .val (.int p3), .val (.int p4), .val (.int p5), .val (.int p6), .val (.ref b7), .val (.int (3 : Int32)), .val (.int (1 : Int32)), .val (.int (0 : Int32)), .val (.int p1)] [(.ref b7)])) _
          refine XS.iload X358.here hx rfl (hb hby at_136) rfl ?_
          show Steps p.tables e below (T358.setTop (mkF m 138 #[.val (.int p1), .val (.int p2), .val (.int p3), .val (.int p4), .val (.int p5), .val (.int p6), .val (.ref b7), .val (.int (3 : Int32)), .val (.int (1 : Int32)), .val (.int (0 : Int32)), .val (.int p1)] [(.int (0 : Int32)), (.ref b7)])) _
          refine st366.trans ?_
          show Steps p.tables e below (T366.setTop (mkF m 141 #[.val (.int p1), .val (.int p2), .val (.int p3), .val (.int p4), .val (.int p5), .val (.int p6), .val (.ref b7), .val (.int (3 : Int32)), .val (.int (1 : Int32)), .val (.int (0 : Int32)), .val (.int p1)] [(.int p1)])) _
          refine XS.iload X366.here hx rfl (hb hby at_141) rfl ?_
          show Steps p.tables e below (T366.setTop (mkF m 143 #[.val (.int p1), .val (.int p2), .val (.int p3), .val (.int p4), .val (.int p5), .val (.int p6), .val (.ref b7), .val (.int (3 : Int32)), .val (.int (1 : Int32)), .val (.int (0 : Int32)), .val (.int p1)] [(.int p1), (.int p1)])) _
          refine XS.icmpNo X366.here hx rfl (hb hby at_143) rfl (teq (rfl : p1 = p1)).2 ?_
          show Steps p.tables e below (T366.setTop (mkF m 146 #[.val (.int p1), .val (.int p2), .val (.int p3), .val (.int p4), .val (.int p5), .val (.int p6), .val (.ref b7), .val (.int (3 : Int32)), .val (.int (1 : Int32)), .val (.int (0 : Int32)), .val (.int p1)] [])) _
          refine XS.iconst X366.here hx rfl (hb hby at_146) ?_
          show Steps p.tables e below (T366.setTop (mkF m 147 #[.val (.int p1), .val (.int p2), .val (.int p3), .val (.int p4), .val (.int p5), .val (.int p6), .val (.ref b7), .val (.int (3 : Int32)), .val (.int (1 : Int32)), .val (.int (0 : Int32)), .val (.int p1)] [(.int (1 : Int32))])) _
          refine XS.goto X366.here hx rfl (pc0 := 147) (pc' := 151) rfl (hb hby at_147) (by decide) (by decide) ?_
          show Steps p.tables e below (T366.setTop (mkF m 151 #[.val (.int p1), .val (.int p2), .val (.int p3), .val (.int p4), .val (.int p5), .val (.int p6), .val (.ref b7), .val (.int (3 : Int32)), .val (.int (1 : Int32)), .val (.int (0 : Int32)), .val (.int p1)] [(.int (1 : Int32))])) _
          exact retN X366 hx (t := .boolean) Bd.returns (by simp) (hb hby at_151) hr
        · show Q0 Z _ _ _ _ _ _ h0 n0 _ T366.heap _
          rw [u370]
          exact ⟨rfl, N366⟩
      · skip
        have f371 : Arv Z T58.heap b9 k10 (.array .int) (1 : Int32) [(.ref b23)] .null := (f57.keep Ku61 (ninS (Nat.ne_of_lt (Nat.lt_of_lt_of_le u14 u27)) (ninS (Ne.symm (Nat.ne_of_lt (Nat.lt_of_lt_of_le lt_b7 u13))) nin0)))
        obtain ⟨cq372, kq372, q372a, q372b, q372c⟩ := isOf hZ rfl u64
        obtain ⟨_, _, ⟨T372, L372, k372, n372⟩, -, X372, ⟨Lc372, hQ372, l372, y372, z372⟩, st372⟩ := X58.virtualBack hx (y := M_3) (z := M_3) hown (mvT hZ (hw _ (gw 27 rfl))) (mvT hZ (hw _ (gw 28 rfl))) (notFace_of_selects (args := #[]) (mvT hZ (hw _ (gw 30 rfl)))) (mvT hZ (hw _ (gw 30 rfl))) (mvT hZ (hw _ (gw 29 rfl))) (by decide) (backOf (W := 0) (rm5_14 l Z a0 hw [] b7 p6 b9 b23 k10 p1 p2 p3 p4 k24 T58.heap n0  Ou61 u65 f371 u63 g_b23 u62) hZ (hw _ (gw 31 rfl)) (hw _ (gw 2 rfl)) (by decide) (by decide)) q372a q372c (g := (mkF m 74 #[.val (.int p1), .val (.int p2), .val (.int p3), .val (.int p4), .val (.int p5), .val (.int p6), .val (.ref b7), .val (.int (3 : Int32)), .val (.int (1 : Int32)), .val (.int (1 : Int32)), .unset] [(.int p6), (.int (3 : Int32)), (.ref b7)])) rfl (by rw [hml]; rfl) (Steps.refl _) (argsL := [(.int (3 : Int32)), (.int p6)]) (rest := []) (lenOf pd_3 rfl) rfl (by show 2 * 0 + _ ≤ _; exact Nat.le_of_eq rfl) (hb hby at_74) (fun _ _ => ⟨rfl, rfl, (by decide : 3 + 0 ≤ _), (by decide : 4099 + 0 ≤ _)⟩)
        dsimp only [Pt.U, Pt.locs, Pt.cells, Pt.slots] at X372 l372 y372 z372 st372 hQ372
        subst l372 y372 z372
        obtain ⟨rfl, u374, Ku375, u376, u377⟩ := hQ372
        have Ou375 : Old Z n0 T372.heap := Ou61.keep Ku375 (allS g_b23 all0)
        have N372 := Fr.app N58 u374
        have f378 : Fld Z T372.heap b7 "com/example/vestry/vestry/Ints" "blocks" "[[I" (.ref b9) := (u65.keep Ku375 (ninS (Nat.ne_of_lt (Nat.lt_of_lt_of_le (Nat.lt_of_lt_of_le lt_b7 Ku15.1) u27)) nin0))
        have f379 : Arv Z T372.heap b9 k10 (.array .int) (1 : Int32) [(.ref b23)] .null := (f371.keep Ku375 (ninS (Nat.ne_of_lt (Nat.lt_of_lt_of_le u14 u27)) nin0))
        have f381 : Exa Z T372.heap b7 "com/example/vestry/vestry/Ints" := (u64.keep Ku375)
        obtain ⟨cq380, kq380, q380a, q380b, q380c⟩ := isOf hZ rfl f381
        obtain ⟨_, _, ⟨T380, L380, k380, n380⟩, -, X380, ⟨Lc380, hQ380, l380, y380, z380⟩, st380⟩ := X372.virtualBack hx (y := M_2) (z := M_2) hown (mvT hZ (hw _ (gw 22 rfl))) (mvT hZ (hw _ (gw 23 rfl))) (notFace_of_selects (args := #[]) (mvT hZ (hw _ (gw 25 rfl)))) (mvT hZ (hw _ (gw 25 rfl))) (mvT hZ (hw _ (gw 24 rfl))) (by decide) (backOf (W := 0) (rm4_8 l Z a0 hw [] b7 b9 b23 k10 p1 p2 p3 p6 k24 T372.heap n0  Ou375 f378 f379 u377) hZ (hw _ (gw 26 rfl)) (hw _ (gw 2 rfl)) (by decide) (by decide)) q380a q380c (g := (mkF m 138 #[.val (.int p1), .val (.int p2), .val (.int p3), .val (.int p4), .val (.int p5), .val (.int p6), .val (.ref b7), .val (.int (3 : Int32)), .val (.int (1 : Int32)), .val (.int (1 : Int32)), .val (.int p2)] [(.int (1 : Int32)), (.ref b7)])) rfl (by rw [hml]; rfl) (Steps.refl _) (argsL := [(.int (1 : Int32))]) (rest := []) (lenOf pd_2 rfl) rfl (by show 2 * 0 + _ ≤ _; exact Nat.le_of_eq rfl) (hb hby at_138) (fun _ _ => ⟨rfl, rfl, (by decide : 3 + 0 ≤ _), (by decide : 4099 + 0 ≤ _)⟩)
        dsimp only [Pt.U, Pt.locs, Pt.cells, Pt.slots] at X380 l380 y380 z380 st380 hQ380
        subst l380 y380 z380
        obtain ⟨rfl, u383, u384⟩ := hQ380
        have N380 := Fr.app N372 u383
        obtain ⟨fs, hr, hrun, hended, hW, hsame⟩ := X380.leave (v := some (.int (1 : Int32))) (fun h => by rw [Bd.returns] at h; cases h)
        refine ⟨_, _, pre356 _ ?_, hrun, hended, _, _, rfl, ?_, ⟨_, rfl⟩, hW, hsame.mono (by decide) (by decide)⟩
        · show Steps p.tables e below (T58.setTop (mkF m 60 #[.val (.int p1), .val (.int p2), .val (.int p3), .val (.int p4), .val (.int p5), .val (.int p6), .val (.ref b7), .val (.int (3 : Int32)), .val (.int (1 : Int32)), .unset, .unset] [(.int (3 : Int32)), (.int i354)])) _
          refine XS.iand X58.here hx rfl (hb hby at_60) rfl ?_
          show Steps p.tables e below (T58.setTop (mkF m 61 #[.val (.int p1), .val (.int p2), .val (.int p3), .val (.int p4), .val (.int p5), .val (.int p6), .val (.ref b7), .val (.int (3 : Int32)), .val (.int (1 : Int32)), .unset, .unset] [(.int (i354 &&& (3 : Int32)))])) _
          rw [hq355]
          show Steps p.tables e below (T58.setTop (mkF m 61 #[.val (.int p1), .val (.int p2), .val (.int p3), .val (.int p4), .val (.int p5), .val (.int p6), .val (.ref b7), .val (.int (3 : Int32)), .val (.int (1 : Int32)), .unset, .unset] [(.int (1 : Int32))])) _
          refine XS.istore X58.here hx rfl (hb hby at_61) rfl (l' := #[.val (.int p1), .val (.int p2), .val (.int p3), .val (.int p4), .val (.int p5), .val (.int p6), .val (.ref b7), .val (.int (3 : Int32)), .val (.int (1 : Int32)), .val (.int (1 : Int32)), .unset]) rfl ?_
          show Steps p.tables e below (T58.setTop (mkF m 63 #[.val (.int p1), .val (.int p2), .val (.int p3), .val (.int p4), .val (.int p5), .val (.int p6), .val (.ref b7), .val (.int (3 : Int32)), .val (.int (1 : Int32)), .val (.int (1 : Int32)), .unset] [])) _
          refine XS.iload X58.here hx rfl (hb hby at_63) rfl ?_
          show Steps p.tables e below (T58.setTop (mkF m 65 #[.val (.int p1), .val (.int p2), .val (.int p3), .val (.int p4), .val (.int p5), .val (.int p6), .val (.ref b7), .val (.int (3 : Int32)), .val (.int (1 : Int32)), .val (.int (1 : Int32)), .unset] [(.int (1 : Int32))])) _
          refine XS.ifNo X58.here hx rfl (hb hby at_65) rfl ((if0 _ _).trans (feq (by decide +kernel : ¬ ((1 : Int32) = (0 : Int32)))).1) ?_
          show Steps p.tables e below (T58.setTop (mkF m 68 #[.val (.int p1), .val (.int p2), .val (.int p3), .val (.int p4), .val (.int p5), .val (.int p6), .val (.ref b7), .val (.int (3 : Int32)), .val (.int (1 : Int32)), .val (.int (1 : Int32)), .unset] [])) _
          refine XS.aload X58.here hx rfl (hb hby at_68) rfl rfl ?_
          show Steps p.tables e below (T58.setTop (mkF m 70 #[.val (.int p1), .val (.int p2), .val (.int p3), .val (.int p4), .val (.int p5), .val (.int p6), .val (.ref b7), .val (.int (3 : Int32)), .val (.int (1 : Int32)), .val (.int (1 : Int32)), .unset] [(.ref b7)])) _
          refine XS.iload X58.here hx rfl (hb hby at_70) rfl ?_
          show Steps p.tables e below (T58.setTop (mkF m 72 #[.val (.int p1), .val (.int p2), .val (.int p3), .val (.int p4), .val (.int p5), .val (.int p6), .val (.ref b7), .val (.int (3 : Int32)), .val (.int (1 : Int32)), .val (.int (1 : Int32)), .unset] [(.int (3 : Int32)), (.ref b7)])) _
          refine XS.iload X58.here hx rfl (hb hby at_72) rfl ?_
          show Steps p.tables e below (T58.setTop (mkF m 74 #[.val (.int p1), .val (.int p2), .val (.int p3), .val (.int p4), .val (.int p5), .val (.int p6), .val (.ref b7), .val (.int (3 : Int32)), .val (.int (1 : Int32)), .val (.int (1 : Int32)), .unset] [(.int p6), (.int (3 : Int32)), (.ref b7)])) _
          refine st372.trans ?_
          show Steps p.tables e below (T372.setTop (mkF m 77 #[.val (.int p1), .val (.int p2), .val (.int p3), .val (.int p4), .val (.int p5), .val (.int p6), .val (.ref b7), .val (.int (3 : Int32)), .val (.int (1 : Int32)), .val (.int (1 : Int32)), .unset] [])) _
          refine XS.iload X372.here hx rfl (hb hby at_77) rfl ?_
          show Steps p.tables e below (T372.setTop (mkF m 79 #[.val (.int p1), .val (.int p2), .val (.int p3), .val (.int p4), .val (.int p5), .val (.int p6), .val (.ref b7), .val (.int (3 : Int32)), .val (.int (1 : Int32)), .val (.int (1 : Int32)), .unset] [(.int (1 : Int32))])) _
          refine XS.ifNo X372.here hx rfl (hb hby at_79) rfl ((if0 _ _).trans (feq (by decide +kernel : ¬ ((1 : Int32) = (0 : Int32)))).1) ?_
          show Steps p.tables e below (T372.setTop (mkF m 82 #[.val (.int p1), .val (.int p2), .val (.int p3), .val (.int p4), .val (.int p5), .val (.int p6), .val (.ref b7), .val (.int (3 : Int32)), .val (.int (1 : Int32)), .val (.int (1 : Int32)), .unset] [])) _
          refine XS.iload X372.here hx rfl (hb hby at_82) rfl ?_
          show Steps p.tables e below (T372.setTop (mkF m 84 #[.val (.int p1), .val (.int p2), .val (.int p3), .val (.int p4), .val (.int p5), .val (.int p6), .val (.ref b7), .val (.int (3 : Int32)), .val (.int (1 : Int32)), .val (.int (1 : Int32)), .unset] [(.int (1 : Int32))])) _
          refine XS.iload X372.here hx rfl (hb hby at_84) rfl ?_
          show Steps p.tables e below (T372.setTop (mkF m 86 #[.val (.int p1), .val (.int p2), .val (.int p3), .val (.int p4), .val (.int p5), .val (.int p6), .val (.ref b7), .val (.int (3 : Int32)), .val (.int (1 : Int32)), .val (.int (1 : Int32)), .unset] [(.int (3 : Int32)), (.int (1 : Int32))])) _
          refine XS.icmpYes X372.here hx rfl (pc0 := 86) (pc' := 96) rfl (hb hby at_86) rfl (feq (by decide +kernel : ¬ ((1 : Int32) = (3 : Int32)))).2 (by decide) (by decide) ?_
          show Steps p.tables e below (T372.setTop (mkF m 96 #[.val (.int p1), .val (.int p2), .val (.int p3), .val (.int p4), .val (.int p5), .val (.int p6), .val (.ref b7), .val (.int (3 : Int32)), .val (.int (1 : Int32)), .val (.int (1 : Int32)), .unset] [])) _
          refine XS.iload X372.here hx rfl (hb hby at_96) rfl ?_
          show Steps p.tables e below (T372.setTop (mkF m 98 #[.val (.int p1), .val (.int p2), .val (.int p3), .val (.int p4), .val (.int p5), .val (.int p6), .val (.ref b7), .val (.int (3 : Int32)), .val (.int (1 : Int32)), .val (.int (1 : Int32)), .unset] [(.int (1 : Int32))])) _
          refine XS.ifYes X372.here hx rfl (pc0 := 98) (pc' := 107) rfl (hb hby at_98) rfl ((if0 _ _).trans (feq (by decide +kernel : ¬ ((1 : Int32) = (0 : Int32)))).2) (by decide) (by decide) ?_
          show Steps p.tables e below (T372.setTop (mkF m 107 #[.val (.int p1), .val (.int p2), .val (.int p3), .val (.int p4), .val (.int p5), .val (.int p6), .val (.ref b7), .val (.int (3 : Int32)), .val (.int (1 : Int32)), .val (.int (1 : Int32)), .unset] [])) _
          refine XS.iload X372.here hx rfl (hb hby at_107) rfl ?_
          show Steps p.tables e below (T372.setTop (mkF m 109 #[.val (.int p1), .val (.int p2), .val (.int p3), .val (.int p4), .val (.int p5), .val (.int p6), .val (.ref b7), .val (.int (3 : Int32)), .val (.int (1 : Int32)), .val (.int (1 : Int32)), .unset] [(.int (1 : Int32))])) _
          refine XS.iconst X372.here hx rfl (hb hby at_109) ?_
          show Steps p.tables e below (T372.setTop (mkF m 110 #[.val (.int p1), .val (.int p2), .val (.int p3), .val (.int p4), .val (.int p5), .val (.int p6), .val (.ref b7), .val (.int (3 : Int32)), .val (.int (1 : Int32)), .val (.int (1 : Int32)), .unset] [(.int (1 : Int32)), (.int (1 : Int32))])) _
          refine XS.icmpNo X372.here hx rfl (hb hby at_110) rfl (teq (by decide +kernel : (1 : Int32) = (1 : Int32))).2 ?_
          show Steps p.tables e below (T372.setTop (mkF m 113 #[.val (.int p1), .val (.int p2), .val (.int p3), .val (.int p4), .val (.int p5), .val (.int p6), .val (.ref b7), .val (.int (3 : Int32)), .val (.int (1 : Int32)), .val (.int (1 : Int32)), .unset] [])) _
          refine XS.iloadN X372.here hx rfl (hb hby at_113) rfl ?_
          show Steps p.tables e below (T372.setTop (mkF m 114 #[.val (.int p1), .val (.int p2), .val (.int p3), .val (.int p4), .val (.int p5), .val (.int p6), .val (.ref b7), .val (.int (3 : Int32)), .val (.int (1 : Int32)), .val (.int (1 : Int32)), .unset] [(.int p2)])) _
          refine XS.istore X372.here hx rfl (hb hby at_114) rfl (l' := #[.val (.int p1), .val (.int p2), .val (.int p3), .val (.int p4), .val (.int p5), .val (.int p6), .val (.ref b7), .val (.int (3 : Int32)), .val (.int (1 : Int32)), .val (.int (1 : Int32)), .val (.int p2)]) rfl ?_
          show Steps p.tables e below (T372.setTop (mkF m 116 #[.val (.int p1), .val (.int p2), .val (.int p3), .val (.int p4), .val (.int p5), .val (.int p6), .val (.ref b7), .val (.int (3 : Int32)), .val (.int (1 : Int32)), .val (.int (1 : Int32)), .val (.int p2)] [])) _
          refine XS.goto X372.here hx rfl (pc0 := 116) (pc' := 134) rfl (hb hby at_116) (by decide) (by decide) ?_
          show Steps p.tables e below (T372.setTop (mkF m 134 #[.val (.int p1), .val (.int p2), .val (.int p3), .val (.int p4), .val (.int p5), .val (.int p6), .val (.ref b7), .val (.int (3 : Int32)), .val (.int (1 : Int32)), .val (.int (1 : Int32)), .val (.int p2)] [])) _
          refine XS.aload X372.here hx rfl (hb hby at_134) rfl rfl ?_
          show Steps p.tables e below (T372.setTop (mkF m 136 #[.val (.int p1), .val (.int p2), .val (.int p3), .val (.int p4), .val (.int p5), .val (.int p6), .val (.ref b7), .val (.int (3 : Int32)), .val (.int (1 : Int32)), .val (.int (1 : Int32)), .val (.int p2)] [(.ref b7)])) _
          refine XS.iload X372.here hx rfl (hb hby at_136) rfl ?_
          show Steps p.tables e below (T372.setTop (mkF m 138 #[.val (.int p1), .val (.int p2), .val (.int p3), .val (.int p4), .val (.int p5), .val (.int p6), .val (.ref b7), .val (.int (3 : Int32)), .val (.int (1 : Int32)), .val (.int (1 : Int32)), .val (.int p2)] [(.int (1 : Int32)), (.ref b7)])) _
          refine st380.trans ?_
          show Steps p.tables e below (T380.setTop (mkF m 141 #[.val (.int p1), .val (.int p2), .val (.int p3), .val (.int p4), .val (.int p5), .val (.int p6), .val (.ref b7), .val (.int (3 : Int32)), .val (.int (1 : Int32)), .val (.int (1 : Int32)), .val (.int p2)] [(.int p2)])) _
          refine XS.iload X380.here hx rfl (hb hby at_141) rfl ?_
          show Steps p.tables e below (T380.setTop (mkF m 143 #[.val (.int p1), .val (.int p2), .val (.int p3), .val (.int p4), .val (.int p5), .val (.int p6), .val (.ref b7), .val (.int (3 : Int32)), .val (.int (1 : Int32)), .val (.int (1 : Int32)), .val (.int p2)] [(.int p2), (.int p2)])) _
          refine XS.icmpNo X380.here hx rfl (hb hby at_143) rfl (teq (rfl : p2 = p2)).2 ?_
          show Steps p.tables e below (T380.setTop (mkF m 146 #[.val (.int p1), .val (.int p2), .val (.int p3), .val (.int p4), .val (.int p5), .val (.int p6), .val (.ref b7), .val (.int (3 : Int32)), .val (.int (1 : Int32)), .val (.int (1 : Int32)), .val (.int p2)] [])) _
          refine XS.iconst X380.here hx rfl (hb hby at_146) ?_
          show Steps p.tables e below (T380.setTop (mkF m 147 #[.val (.int p1), .val (.int p2), .val (.int p3), .val (.int p4), .val (.int p5), .val (.int p6), .val (.ref b7), .val (.int (3 : Int32)), .val (.int (1 : Int32)), .val (.int (1 : Int32)), .val (.int p2)] [(.int (1 : Int32))])) _
          refine XS.goto X380.here hx rfl (pc0 := 147) (pc' := 151) rfl (hb hby at_147) (by decide) (by decide) ?_
          show Steps p.tables e below (T380.setTop (mkF m 151 #[.val (.int p1), .val (.int p2), .val (.int p3), .val (.int p4), .val (.int p5), .val (.int p6), .val (.ref b7), .val (.int (3 : Int32)), .val (.int (1 : Int32)), .val (.int (1 : Int32)), .val (.int p2)] [(.int (1 : Int32))])) _
          exact retN X380 hx (t := .boolean) Bd.returns (by simp) (hb hby at_151) hr
        · show Q0 Z _ _ _ _ _ _ h0 n0 _ T380.heap _
          rw [u384]
          exact ⟨rfl, N380⟩
      · skip
        have f385 : Arv Z T58.heap b9 k10 (.array .int) (1 : Int32) [(.ref b23)] .null := (f57.keep Ku61 (ninS (Nat.ne_of_lt (Nat.lt_of_lt_of_le u14 u27)) (ninS (Ne.symm (Nat.ne_of_lt (Nat.lt_of_lt_of_le lt_b7 u13))) nin0)))
        obtain ⟨cq386, kq386, q386a, q386b, q386c⟩ := isOf hZ rfl u64
        obtain ⟨_, _, ⟨T386, L386, k386, n386⟩, -, X386, ⟨Lc386, hQ386, l386, y386, z386⟩, st386⟩ := X58.virtualBack hx (y := M_3) (z := M_3) hown (mvT hZ (hw _ (gw 27 rfl))) (mvT hZ (hw _ (gw 28 rfl))) (notFace_of_selects (args := #[]) (mvT hZ (hw _ (gw 30 rfl)))) (mvT hZ (hw _ (gw 30 rfl))) (mvT hZ (hw _ (gw 29 rfl))) (by decide) (backOf (W := 0) (rm5_14 l Z a0 hw [] b7 p6 b9 b23 k10 p1 p2 p3 p4 k24 T58.heap n0  Ou61 u65 f385 u63 g_b23 u62) hZ (hw _ (gw 31 rfl)) (hw _ (gw 2 rfl)) (by decide) (by decide)) q386a q386c (g := (mkF m 74 #[.val (.int p1), .val (.int p2), .val (.int p3), .val (.int p4), .val (.int p5), .val (.int p6), .val (.ref b7), .val (.int (3 : Int32)), .val (.int (1 : Int32)), .val (.int (2 : Int32)), .unset] [(.int p6), (.int (3 : Int32)), (.ref b7)])) rfl (by rw [hml]; rfl) (Steps.refl _) (argsL := [(.int (3 : Int32)), (.int p6)]) (rest := []) (lenOf pd_3 rfl) rfl (by show 2 * 0 + _ ≤ _; exact Nat.le_of_eq rfl) (hb hby at_74) (fun _ _ => ⟨rfl, rfl, (by decide : 3 + 0 ≤ _), (by decide : 4099 + 0 ≤ _)⟩)
        dsimp only [Pt.U, Pt.locs, Pt.cells, Pt.slots] at X386 l386 y386 z386 st386 hQ386
        subst l386 y386 z386
        obtain ⟨rfl, u388, Ku389, u390, u391⟩ := hQ386
        have Ou389 : Old Z n0 T386.heap := Ou61.keep Ku389 (allS g_b23 all0)
        have N386 := Fr.app N58 u388
        have f392 : Fld Z T386.heap b7 "com/example/vestry/vestry/Ints" "blocks" "[[I" (.ref b9) := (u65.keep Ku389 (ninS (Nat.ne_of_lt (Nat.lt_of_lt_of_le (Nat.lt_of_lt_of_le lt_b7 Ku15.1) u27)) nin0))
        have f393 : Arv Z T386.heap b9 k10 (.array .int) (1 : Int32) [(.ref b23)] .null := (f385.keep Ku389 (ninS (Nat.ne_of_lt (Nat.lt_of_lt_of_le u14 u27)) nin0))
        have f395 : Exa Z T386.heap b7 "com/example/vestry/vestry/Ints" := (u64.keep Ku389)
        obtain ⟨cq394, kq394, q394a, q394b, q394c⟩ := isOf hZ rfl f395
        obtain ⟨_, _, ⟨T394, L394, k394, n394⟩, -, X394, ⟨Lc394, hQ394, l394, y394, z394⟩, st394⟩ := X386.virtualBack hx (y := M_2) (z := M_2) hown (mvT hZ (hw _ (gw 22 rfl))) (mvT hZ (hw _ (gw 23 rfl))) (notFace_of_selects (args := #[]) (mvT hZ (hw _ (gw 25 rfl)))) (mvT hZ (hw _ (gw 25 rfl))) (mvT hZ (hw _ (gw 24 rfl))) (by decide) (backOf (W := 0) (rm4_9 l Z a0 hw [] b7 b9 b23 k10 p1 p2 p3 p6 k24 T386.heap n0  Ou389 f392 f393 u391) hZ (hw _ (gw 26 rfl)) (hw _ (gw 2 rfl)) (by decide) (by decide)) q394a q394c (g := (mkF m 138 #[.val (.int p1), .val (.int p2), .val (.int p3), .val (.int p4), .val (.int p5), .val (.int p6), .val (.ref b7), .val (.int (3 : Int32)), .val (.int (1 : Int32)), .val (.int (2 : Int32)), .val (.int p3)] [(.int (2 : Int32)), (.ref b7)])) rfl (by rw [hml]; rfl) (Steps.refl _) (argsL := [(.int (2 : Int32))]) (rest := []) (lenOf pd_2 rfl) rfl (by show 2 * 0 + _ ≤ _; exact Nat.le_of_eq rfl) (hb hby at_138) (fun _ _ => ⟨rfl, rfl, (by decide : 3 + 0 ≤ _), (by decide : 4099 + 0 ≤ _)⟩)
        dsimp only [Pt.U, Pt.locs, Pt.cells, Pt.slots] at X394 l394 y394 z394 st394 hQ394
        subst l394 y394 z394
        obtain ⟨rfl, u397, u398⟩ := hQ394
        have N394 := Fr.app N386 u397
        obtain ⟨fs, hr, hrun, hended, hW, hsame⟩ := X394.leave (v := some (.int (1 : Int32))) (fun h => by rw [Bd.returns] at h; cases h)
        refine ⟨_, _, pre356 _ ?_, hrun, hended, _, _, rfl, ?_, ⟨_, rfl⟩, hW, hsame.mono (by decide) (by decide)⟩
        · show Steps p.tables e below (T58.setTop (mkF m 60 #[.val (.int p1), .val (.int p2), .val (.int p3), .val (.int p4), .val (.int p5), .val (.int p6), .val (.ref b7), .val (.int (3 : Int32)), .val (.int (1 : Int32)), .unset, .unset] [(.int (3 : Int32)), (.int i354)])) _
          refine XS.iand X58.here hx rfl (hb hby at_60) rfl ?_
          show Steps p.tables e below (T58.setTop (mkF m 61 #[.val (.int p1), .val (.int p2), .val (.int p3), .val (.int p4), .val (.int p5), .val (.int p6), .val (.ref b7), .val (.int (3 : Int32)), .val (.int (1 : Int32)), .unset, .unset] [(.int (i354 &&& (3 : Int32)))])) _
          rw [hq355]
          show Steps p.tables e below (T58.setTop (mkF m 61 #[.val (.int p1), .val (.int p2), .val (.int p3), .val (.int p4), .val (.int p5), .val (.int p6), .val (.ref b7), .val (.int (3 : Int32)), .val (.int (1 : Int32)), .unset, .unset] [(.int (2 : Int32))])) _
          refine XS.istore X58.here hx rfl (hb hby at_61) rfl (l' := #[.val (.int p1), .val (.int p2), .val (.int p3), .val (.int p4), .val (.int p5), .val (.int p6), .val (.ref b7), .val (.int (3 : Int32)), .val (.int (1 : Int32)), .val (.int (2 : Int32)), .unset]) rfl ?_
          show Steps p.tables e below (T58.setTop (mkF m 63 #[.val (.int p1), .val (.int p2), .val (.int p3), .val (.int p4), .val (.int p5), .val (.int p6), .val (.ref b7), .val (.int (3 : Int32)), .val (.int (1 : Int32)), .val (.int (2 : Int32)), .unset] [])) _
          refine XS.iload X58.here hx rfl (hb hby at_63) rfl ?_
          show Steps p.tables e below (T58.setTop (mkF m 65 #[.val (.int p1), .val (.int p2), .val (.int p3), .val (.int p4), .val (.int p5), .val (.int p6), .val (.ref b7), .val (.int (3 : Int32)), .val (.int (1 : Int32)), .val (.int (2 : Int32)), .unset] [(.int (1 : Int32))])) _
          refine XS.ifNo X58.here hx rfl (hb hby at_65) rfl ((if0 _ _).trans (feq (by decide +kernel : ¬ ((1 : Int32) = (0 : Int32)))).1) ?_
          show Steps p.tables e below (T58.setTop (mkF m 68 #[.val (.int p1), .val (.int p2), .val (.int p3), .val (.int p4), .val (.int p5), .val (.int p6), .val (.ref b7), .val (.int (3 : Int32)), .val (.int (1 : Int32)), .val (.int (2 : Int32)), .unset] [])) _
          refine XS.aload X58.here hx rfl (hb hby at_68) rfl rfl ?_
          show Steps p.tables e below (T58.setTop (mkF m 70 #[.val (.int p1), .val (.int p2), .val (.int p3), .val (.int p4), .val (.int p5), .val (.int p6), .val (.ref b7), .val (.int (3 : Int32)), .val (.int (1 : Int32)), .val (.int (2 : Int32)), .unset] [(.ref b7)])) _
          refine XS.iload X58.here hx rfl (hb hby at_70) rfl ?_
          show Steps p.tables e below (T58.setTop (mkF m 72 #[.val (.int p1), .val (.int p2), .val (.int p3), .val (.int p4), .val (.int p5), .val (.int p6), .val (.ref b7), .val (.int (3 : Int32)), .val (.int (1 : Int32)), .val (.int (2 : Int32)), .unset] [(.int (3 : Int32)), (.ref b7)])) _
          refine XS.iload X58.here hx rfl (hb hby at_72) rfl ?_
          show Steps p.tables e below (T58.setTop (mkF m 74 #[.val (.int p1), .val (.int p2), .val (.int p3), .val (.int p4), .val (.int p5), .val (.int p6), .val (.ref b7), .val (.int (3 : Int32)), .val (.int (1 : Int32)), .val (.int (2 : Int32)), .unset] [(.int p6), (.int (3 : Int32)), (.ref b7)])) _
          refine st386.trans ?_
          show Steps p.tables e below (T386.setTop (mkF m 77 #[.val (.int p1), .val (.int p2), .val (.int p3), .val (.int p4), .val (.int p5), .val (.int p6), .val (.ref b7), .val (.int (3 : Int32)), .val (.int (1 : Int32)), .val (.int (2 : Int32)), .unset] [])) _
          refine XS.iload X386.here hx rfl (hb hby at_77) rfl ?_
          show Steps p.tables e below (T386.setTop (mkF m 79 #[.val (.int p1), .val (.int p2), .val (.int p3), .val (.int p4), .val (.int p5), .val (.int p6), .val (.ref b7), .val (.int (3 : Int32)), .val (.int (1 : Int32)), .val (.int (2 : Int32)), .unset] [(.int (1 : Int32))])) _
          refine XS.ifNo X386.here hx rfl (hb hby at_79) rfl ((if0 _ _).trans (feq (by decide +kernel : ¬ ((1 : Int32) = (0 : Int32)))).1) ?_
          show Steps p.tables e below (T386.setTop (mkF m 82 #[.val (.int p1), .val (.int p2), .val (.int p3), .val (.int p4), .val (.int p5), .val (.int p6), .val (.ref b7), .val (.int (3 : Int32)), .val (.int (1 : Int32)), .val (.int (2 : Int32)), .unset] [])) _
          refine XS.iload X386.here hx rfl (hb hby at_82) rfl ?_
          show Steps p.tables e below (T386.setTop (mkF m 84 #[.val (.int p1), .val (.int p2), .val (.int p3), .val (.int p4), .val (.int p5), .val (.int p6), .val (.ref b7), .val (.int (3 : Int32)), .val (.int (1 : Int32)), .val (.int (2 : Int32)), .unset] [(.int (2 : Int32))])) _
          refine XS.iload X386.here hx rfl (hb hby at_84) rfl ?_
          show Steps p.tables e below (T386.setTop (mkF m 86 #[.val (.int p1), .val (.int p2), .val (.int p3), .val (.int p4), .val (.int p5), .val (.int p6), .val (.ref b7), .val (.int (3 : Int32)), .val (.int (1 : Int32)), .val (.int (2 : Int32)), .unset] [(.int (3 : Int32)), (.int (2 : Int32))])) _
          refine XS.icmpYes X386.here hx rfl (pc0 := 86) (pc' := 96) rfl (hb hby at_86) rfl (feq (by decide +kernel : ¬ ((2 : Int32) = (3 : Int32)))).2 (by decide) (by decide) ?_
          show Steps p.tables e below (T386.setTop (mkF m 96 #[.val (.int p1), .val (.int p2), .val (.int p3), .val (.int p4), .val (.int p5), .val (.int p6), .val (.ref b7), .val (.int (3 : Int32)), .val (.int (1 : Int32)), .val (.int (2 : Int32)), .unset] [])) _
          refine XS.iload X386.here hx rfl (hb hby at_96) rfl ?_
          show Steps p.tables e below (T386.setTop (mkF m 98 #[.val (.int p1), .val (.int p2), .val (.int p3), .val (.int p4), .val (.int p5), .val (.int p6), .val (.ref b7), .val (.int (3 : Int32)), .val (.int (1 : Int32)), .val (.int (2 : Int32)), .unset] [(.int (2 : Int32))])) _
          refine XS.ifYes X386.here hx rfl (pc0 := 98) (pc' := 107) rfl (hb hby at_98) rfl ((if0 _ _).trans (feq (by decide +kernel : ¬ ((2 : Int32) = (0 : Int32)))).2) (by decide) (by decide) ?_
          show Steps p.tables e below (T386.setTop (mkF m 107 #[.val (.int p1), .val (.int p2), .val (.int p3), .val (.int p4), .val (.int p5), .val (.int p6), .val (.ref b7), .val (.int (3 : Int32)), .val (.int (1 : Int32)), .val (.int (2 : Int32)), .unset] [])) _
          refine XS.iload X386.here hx rfl (hb hby at_107) rfl ?_
          show Steps p.tables e below (T386.setTop (mkF m 109 #[.val (.int p1), .val (.int p2), .val (.int p3), .val (.int p4), .val (.int p5), .val (.int p6), .val (.ref b7), .val (.int (3 : Int32)), .val (.int (1 : Int32)), .val (.int (2 : Int32)), .unset] [(.int (2 : Int32))])) _
          refine XS.iconst X386.here hx rfl (hb hby at_109) ?_
          show Steps p.tables e below (T386.setTop (mkF m 110 #[.val (.int p1), .val (.int p2), .val (.int p3), .val (.int p4), .val (.int p5), .val (.int p6), .val (.ref b7), .val (.int (3 : Int32)), .val (.int (1 : Int32)), .val (.int (2 : Int32)), .unset] [(.int (1 : Int32)), (.int (2 : Int32))])) _
          refine XS.icmpYes X386.here hx rfl (pc0 := 110) (pc' := 119) rfl (hb hby at_110) rfl (feq (by decide +kernel : ¬ ((2 : Int32) = (1 : Int32)))).2 (by decide) (by decide) ?_
          show Steps p.tables e below (T386.setTop (mkF m 119 #[.val (.int p1), .val (.int p2), .val (.int p3), .val (.int p4), .val (.int p5), .val (.int p6), .val (.ref b7), .val (.int (3 : Int32)), .val (.int (1 : Int32)), .val (.int (2 : Int32)), .unset] [])) _
          refine XS.iload X386.here hx rfl (hb hby at_119) rfl ?_
          show Steps p.tables e below (T386.setTop (mkF m 121 #[.val (.int p1), .val (.int p2), .val (.int p3), .val (.int p4), .val (.int p5), .val (.int p6), .val (.ref b7), .val (.int (3 : Int32)), .val (.int (1 : Int32)), .val (.int (2 : Int32)), .unset] [(.int (2 : Int32))])) _
          refine XS.iconst X386.here hx rfl (hb hby at_121) ?_
          show Steps p.tables e below (T386.setTop (mkF m 122 #[.val (.int p1), .val (.int p2), .val (.int p3), .val (.int p4), .val (.int p5), .val (.int p6), .val (.ref b7), .val (.int (3 : Int32)), .val (.int (1 : Int32)), .val (.int (2 : Int32)), .unset] [(.int (2 : Int32)), (.int (2 : Int32))])) _
          refine XS.icmpNo X386.here hx rfl (hb hby at_122) rfl (teq (by decide +kernel : (2 : Int32) = (2 : Int32))).2 ?_
          show Steps p.tables e below (T386.setTop (mkF m 125 #[.val (.int p1), .val (.int p2), .val (.int p3), .val (.int p4), .val (.int p5), .val (.int p6), .val (.ref b7), .val (.int (3 : Int32)), .val (.int (1 : Int32)), .val (.int (2 : Int32)), .unset] [])) _
          refine XS.iloadN X386.here hx rfl (hb hby at_125) rfl ?_
          show Steps p.tables e below (T386.setTop (mkF m 126 #[.val (.int p1), .val (.int p2), .val (.int p3), .val (.int p4), .val (.int p5), .val (.int p6), .val (.ref b7), .val (.int (3 : Int32)), .val (.int (1 : Int32)), .val (.int (2 : Int32)), .unset] [(.int p3)])) _
          refine XS.istore X386.here hx rfl (hb hby at_126) rfl (l' := #[.val (.int p1), .val (.int p2), .val (.int p3), .val (.int p4), .val (.int p5), .val (.int p6), .val (.ref b7), .val (.int (3 : Int32)), .val (.int (1 : Int32)), .val (.int (2 : Int32)), .val (.int p3)]) rfl ?_
          show Steps p.tables e below (T386.setTop (mkF m 128 #[.val (.int p1), .val (.int p2), .val (.int p3), .val (.int p4), .val (.int p5), .val (.int p6), .val (.ref b7), .val (.int (3 : Int32)), .val (.int (1 : Int32)), .val (.int (2 : Int32)), .val (.int p3)] [])) _
          refine XS.goto X386.here hx rfl (pc0 := 128) (pc' := 134) rfl (hb hby at_128) (by decide) (by decide) ?_
          show Steps p.tables e below (T386.setTop (mkF m 134 #[.val (.int p1), .val (.int p2), .val (.int p3), .val (.int p4), .val (.int p5), .val (.int p6), .val (.ref b7), .val (.int (3 : Int32)), .val (.int (1 : Int32)), .val (.int (2 : Int32)), .val (.int p3)] [])) _
          refine XS.aload X386.here hx rfl (hb hby at_134) rfl rfl ?_
          show Steps p.tables e below (T386.setTop (mkF m 136 #[.val (.int p1), .val (.int p2), .val (.int p3), .val (.int p4), .val (.int p5), .val (.int p6), .val (.ref b7), .val (.int (3 : Int32)), .val (.int (1 : Int32)), .val (.int (2 : Int32)), .val (.int p3)] [(.ref b7)])) _
          refine XS.iload X386.here hx rfl (hb hby at_136) rfl ?_
          show Steps p.tables e below (T386.setTop (mkF m 138 #[.val (.int p1), .val (.int p2), .val (.int p3), .val (.int p4), .val (.int p5), .val (.int p6), .val (.ref b7), .val (.int (3 : Int32)), .val (.int (1 : Int32)), .val (.int (2 : Int32)), .val (.int p3)] [(.int (2 : Int32)), (.ref b7)])) _
          refine st394.trans ?_
          show Steps p.tables e below (T394.setTop (mkF m 141 #[.val (.int p1), .val (.int p2), .val (.int p3), .val (.int p4), .val (.int p5), .val (.int p6), .val (.ref b7), .val (.int (3 : Int32)), .val (.int (1 : Int32)), .val (.int (2 : Int32)), .val (.int p3)] [(.int p3)])) _
          refine XS.iload X394.here hx rfl (hb hby at_141) rfl ?_
          show Steps p.tables e below (T394.setTop (mkF m 143 #[.val (.int p1), .val (.int p2), .val (.int p3), .val (.int p4), .val (.int p5), .val (.int p6), .val (.ref b7), .val (.int (3 : Int32)), .val (.int (1 : Int32)), .val (.int (2 : Int32)), .val (.int p3)] [(.int p3), (.int p3)])) _
          refine XS.icmpNo X394.here hx rfl (hb hby at_143) rfl (teq (rfl : p3 = p3)).2 ?_
          show Steps p.tables e below (T394.setTop (mkF m 146 #[.val (.int p1), .val (.int p2), .val (.int p3), .val (.int p4), .val (.int p5), .val (.int p6), .val (.ref b7), .val (.int (3 : Int32)), .val (.int (1 : Int32)), .val (.int (2 : Int32)), .val (.int p3)] [])) _
          refine XS.iconst X394.here hx rfl (hb hby at_146) ?_
          show Steps p.tables e below (T394.setTop (mkF m 147 #[.val (.int p1), .val (.int p2), .val (.int p3), .val (.int p4), .val (.int p5), .val (.int p6), .val (.ref b7), .val (.int (3 : Int32)), .val (.int (1 : Int32)), .val (.int (2 : Int32)), .val (.int p3)] [(.int (1 : Int32))])) _
          refine XS.goto X394.here hx rfl (pc0 := 147) (pc' := 151) rfl (hb hby at_147) (by decide) (by decide) ?_
          show Steps p.tables e below (T394.setTop (mkF m 151 #[.val (.int p1), .val (.int p2), .val (.int p3), .val (.int p4), .val (.int p5), .val (.int p6), .val (.ref b7), .val (.int (3 : Int32)), .val (.int (1 : Int32)), .val (.int (2 : Int32)), .val (.int p3)] [(.int (1 : Int32))])) _
          exact retN X394 hx (t := .boolean) Bd.returns (by simp) (hb hby at_151) hr
        · show Q0 Z _ _ _ _ _ _ h0 n0 _ T394.heap _
          rw [u398]
          exact ⟨rfl, N394⟩
      · skip
        have f399 : Arv Z T58.heap b9 k10 (.array .int) (1 : Int32) [(.ref b23)] .null := (f57.keep Ku61 (ninS (Nat.ne_of_lt (Nat.lt_of_lt_of_le u14 u27)) (ninS (Ne.symm (Nat.ne_of_lt (Nat.lt_of_lt_of_le lt_b7 u13))) nin0)))
        obtain ⟨cq400, kq400, q400a, q400b, q400c⟩ := isOf hZ rfl u64
        obtain ⟨_, _, ⟨T400, L400, k400, n400⟩, -, X400, ⟨Lc400, hQ400, l400, y400, z400⟩, st400⟩ := X58.virtualBack hx (y := M_3) (z := M_3) hown (mvT hZ (hw _ (gw 27 rfl))) (mvT hZ (hw _ (gw 28 rfl))) (notFace_of_selects (args := #[]) (mvT hZ (hw _ (gw 30 rfl)))) (mvT hZ (hw _ (gw 30 rfl))) (mvT hZ (hw _ (gw 29 rfl))) (by decide) (backOf (W := 0) (rm5_14 l Z a0 hw [] b7 p6 b9 b23 k10 p1 p2 p3 p4 k24 T58.heap n0  Ou61 u65 f399 u63 g_b23 u62) hZ (hw _ (gw 31 rfl)) (hw _ (gw 2 rfl)) (by decide) (by decide)) q400a q400c (g := (mkF m 74 #[.val (.int p1), .val (.int p2), .val (.int p3), .val (.int p4), .val (.int p5), .val (.int p6), .val (.ref b7), .val (.int (3 : Int32)), .val (.int (1 : Int32)), .val (.int (3 : Int32)), .unset] [(.int p6), (.int (3 : Int32)), (.ref b7)])) rfl (by rw [hml]; rfl) (Steps.refl _) (argsL := [(.int (3 : Int32)), (.int p6)]) (rest := []) (lenOf pd_3 rfl) rfl (by show 2 * 0 + _ ≤ _; exact Nat.le_of_eq rfl) (hb hby at_74) (fun _ _ => ⟨rfl, rfl, (by decide : 3 + 0 ≤ _), (by decide : 4099 + 0 ≤ _)⟩)
        dsimp only [Pt.U, Pt.locs, Pt.cells, Pt.slots] at X400 l400 y400 z400 st400 hQ400
        subst l400 y400 z400
        obtain ⟨rfl, u402, Ku403, u404, u405⟩ := hQ400
        have Ou403 : Old Z n0 T400.heap := Ou61.keep Ku403 (allS g_b23 all0)
        have N400 := Fr.app N58 u402
        have f406 : Fld Z T400.heap b7 "com/example/vestry/vestry/Ints" "blocks" "[[I" (.ref b9) := (u65.keep Ku403 (ninS (Nat.ne_of_lt (Nat.lt_of_lt_of_le (Nat.lt_of_lt_of_le lt_b7 Ku15.1) u27)) nin0))
        have f407 : Arv Z T400.heap b9 k10 (.array .int) (1 : Int32) [(.ref b23)] .null := (f399.keep Ku403 (ninS (Nat.ne_of_lt (Nat.lt_of_lt_of_le u14 u27)) nin0))
        have f409 : Exa Z T400.heap b7 "com/example/vestry/vestry/Ints" := (u64.keep Ku403)
        obtain ⟨cq408, kq408, q408a, q408b, q408c⟩ := isOf hZ rfl f409
        obtain ⟨_, _, ⟨T408, L408, k408, n408⟩, -, X408, ⟨Lc408, hQ408, l408, y408, z408⟩, st408⟩ := X400.virtualBack hx (y := M_2) (z := M_2) hown (mvT hZ (hw _ (gw 22 rfl))) (mvT hZ (hw _ (gw 23 rfl))) (notFace_of_selects (args := #[]) (mvT hZ (hw _ (gw 25 rfl)))) (mvT hZ (hw _ (gw 25 rfl))) (mvT hZ (hw _ (gw 24 rfl))) (by decide) (backOf (W := 0) (rm4_10 l Z a0 hw [] b7 b9 b23 k10 p1 p2 p3 p6 k24 T400.heap n0  Ou403 f406 f407 u405) hZ (hw _ (gw 26 rfl)) (hw _ (gw 2 rfl)) (by decide) (by decide)) q408a q408c (g := (mkF m 138 #[.val (.int p1), .val (.int p2), .val (.int p3), .val (.int p4), .val (.int p5), .val (.int p6), .val (.ref b7), .val (.int (3 : Int32)), .val (.int (1 : Int32)), .val (.int (3 : Int32)), .val (.int p6)] [(.int (3 : Int32)), (.ref b7)])) rfl (by rw [hml]; rfl) (Steps.refl _) (argsL := [(.int (3 : Int32))]) (rest := []) (lenOf pd_2 rfl) rfl (by show 2 * 0 + _ ≤ _; exact Nat.le_of_eq rfl) (hb hby at_138) (fun _ _ => ⟨rfl, rfl, (by decide : 3 + 0 ≤ _), (by decide : 4099 + 0 ≤ _)⟩)
        dsimp only [Pt.U, Pt.locs, Pt.cells, Pt.slots] at X408 l408 y408 z408 st408 hQ408
        subst l408 y408 z408
        obtain ⟨rfl, u411, u412⟩ := hQ408
        have N408 := Fr.app N400 u411
        obtain ⟨fs, hr, hrun, hended, hW, hsame⟩ := X408.leave (v := some (.int (1 : Int32))) (fun h => by rw [Bd.returns] at h; cases h)
        refine ⟨_, _, pre356 _ ?_, hrun, hended, _, _, rfl, ?_, ⟨_, rfl⟩, hW, hsame.mono (by decide) (by decide)⟩
        · show Steps p.tables e below (T58.setTop (mkF m 60 #[.val (.int p1), .val (.int p2), .val (.int p3), .val (.int p4), .val (.int p5), .val (.int p6), .val (.ref b7), .val (.int (3 : Int32)), .val (.int (1 : Int32)), .unset, .unset] [(.int (3 : Int32)), (.int i354)])) _
          refine XS.iand X58.here hx rfl (hb hby at_60) rfl ?_
          show Steps p.tables e below (T58.setTop (mkF m 61 #[.val (.int p1), .val (.int p2), .val (.int p3), .val (.int p4), .val (.int p5), .val (.int p6), .val (.ref b7), .val (.int (3 : Int32)), .val (.int (1 : Int32)), .unset, .unset] [(.int (i354 &&& (3 : Int32)))])) _
          rw [hq355]
          show Steps p.tables e below (T58.setTop (mkF m 61 #[.val (.int p1), .val (.int p2), .val (.int p3), .val (.int p4), .val (.int p5), .val (.int p6), .val (.ref b7), .val (.int (3 : Int32)), .val (.int (1 : Int32)), .unset, .unset] [(.int (3 : Int32))])) _
          refine XS.istore X58.here hx rfl (hb hby at_61) rfl (l' := #[.val (.int p1), .val (.int p2), .val (.int p3), .val (.int p4), .val (.int p5), .val (.int p6), .val (.ref b7), .val (.int (3 : Int32)), .val (.int (1 : Int32)), .val (.int (3 : Int32)), .unset]) rfl ?_
          show Steps p.tables e below (T58.setTop (mkF m 63 #[.val (.int p1), .val (.int p2), .val (.int p3), .val (.int p4), .val (.int p5), .val (.int p6), .val (.ref b7), .val (.int (3 : Int32)), .val (.int (1 : Int32)), .val (.int (3 : Int32)), .unset] [])) _
          refine XS.iload X58.here hx rfl (hb hby at_63) rfl ?_
          show Steps p.tables e below (T58.setTop (mkF m 65 #[.val (.int p1), .val (.int p2), .val (.int p3), .val (.int p4), .val (.int p5), .val (.int p6), .val (.ref b7), .val (.int (3 : Int32)), .val (.int (1 : Int32)), .val (.int (3 : Int32)), .unset] [(.int (1 : Int32))])) _
          refine XS.ifNo X58.here hx rfl (hb hby at_65) rfl ((if0 _ _).trans (feq (by decide +kernel : ¬ ((1 : Int32) = (0 : Int32)))).1) ?_
          show Steps p.tables e below (T58.setTop (mkF m 68 #[.val (.int p1), .val (.int p2), .val (.int p3), .val (.int p4), .val (.int p5), .val (.int p6), .val (.ref b7), .val (.int (3 : Int32)), .val (.int (1 : Int32)), .val (.int (3 : Int32)), .unset] [])) _
          refine XS.aload X58.here hx rfl (hb hby at_68) rfl rfl ?_
          show Steps p.tables e below (T58.setTop (mkF m 70 #[.val (.int p1), .val (.int p2), .val (.int p3), .val (.int p4), .val (.int p5), .val (.int p6), .val (.ref b7), .val (.int (3 : Int32)), .val (.int (1 : Int32)), .val (.int (3 : Int32)), .unset] [(.ref b7)])) _
          refine XS.iload X58.here hx rfl (hb hby at_70) rfl ?_
          show Steps p.tables e below (T58.setTop (mkF m 72 #[.val (.int p1), .val (.int p2), .val (.int p3), .val (.int p4), .val (.int p5), .val (.int p6), .val (.ref b7), .val (.int (3 : Int32)), .val (.int (1 : Int32)), .val (.int (3 : Int32)), .unset] [(.int (3 : Int32)), (.ref b7)])) _
          refine XS.iload X58.here hx rfl (hb hby at_72) rfl ?_
          show Steps p.tables e below (T58.setTop (mkF m 74 #[.val (.int p1), .val (.int p2), .val (.int p3), .val (.int p4), .val (.int p5), .val (.int p6), .val (.ref b7), .val (.int (3 : Int32)), .val (.int (1 : Int32)), .val (.int (3 : Int32)), .unset] [(.int p6), (.int (3 : Int32)), (.ref b7)])) _
          refine st400.trans ?_
          show Steps p.tables e below (T400.setTop (mkF m 77 #[.val (.int p1), .val (.int p2), .val (.int p3), .val (.int p4), .val (.int p5), .val (.int p6), .val (.ref b7), .val (.int (3 : Int32)), .val (.int (1 : Int32)), .val (.int (3 : Int32)), .unset] [])) _
          refine XS.iload X400.here hx rfl (hb hby at_77) rfl ?_
          show Steps p.tables e below (T400.setTop (mkF m 79 #[.val (.int p1), .val (.int p2), .val (.int p3), .val (.int p4), .val (.int p5), .val (.int p6), .val (.ref b7), .val (.int (3 : Int32)), .val (.int (1 : Int32)), .val (.int (3 : Int32)), .unset] [(.int (1 : Int32))])) _
          refine XS.ifNo X400.here hx rfl (hb hby at_79) rfl ((if0 _ _).trans (feq (by decide +kernel : ¬ ((1 : Int32) = (0 : Int32)))).1) ?_
          show Steps p.tables e below (T400.setTop (mkF m 82 #[.val (.int p1), .val (.int p2), .val (.int p3), .val (.int p4), .val (.int p5), .val (.int p6), .val (.ref b7), .val (.int (3 : Int32)), .val (.int (1 : Int32)), .val (.int (3 : Int32)), .unset] [])) _
          refine XS.iload X400.here hx rfl (hb hby at_82) rfl ?_
          show Steps p.tables e below (T400.setTop (mkF m 84 #[.val (.int p1), .val (.int p2), .val (.int p3), .val (.int p4), .val (.int p5), .val (.int p6), .val (.ref b7), .val (.int (3 : Int32)), .val (.int (1 : Int32)), .val (.int (3 : Int32)), .unset] [(.int (3 : Int32))])) _
          refine XS.iload X400.here hx rfl (hb hby at_84) rfl ?_
          show Steps p.tables e below (T400.setTop (mkF m 86 #[.val (.int p1), .val (.int p2), .val (.int p3), .val (.int p4), .val (.int p5), .val (.int p6), .val (.ref b7), .val (.int (3 : Int32)), .val (.int (1 : Int32)), .val (.int (3 : Int32)), .unset] [(.int (3 : Int32)), (.int (3 : Int32))])) _
          refine XS.icmpNo X400.here hx rfl (hb hby at_86) rfl (teq (by decide +kernel : (3 : Int32) = (3 : Int32))).2 ?_
          show Steps p.tables e below (T400.setTop (mkF m 89 #[.val (.int p1), .val (.int p2), .val (.int p3), .val (.int p4), .val (.int p5), .val (.int p6), .val (.ref b7), .val (.int (3 : Int32)), .val (.int (1 : Int32)), .val (.int (3 : Int32)), .unset] [])) _
          refine XS.iload X400.here hx rfl (hb hby at_89) rfl ?_
          show Steps p.tables e below (T400.setTop (mkF m 91 #[.val (.int p1), .val (.int p2), .val (.int p3), .val (.int p4), .val (.int p5), .val (.int p6), .val (.ref b7), .val (.int (3 : Int32)), .val (.int (1 : Int32)), .val (.int (3 : Int32)), .unset] [(.int p6)])) _
          refine XS.istore X400.here hx rfl (hb hby at_91) rfl (l' := #[.val (.int p1), .val (.int p2), .val (.int p3), .val (.int p4), .val (.int p5), .val (.int p6), .val (.ref b7), .val (.int (3 : Int32)), .val (.int (1 : Int32)), .val (.int (3 : Int32)), .val (.int p6)]) rfl ?_
          show Steps p.tables e below (T400.setTop (mkF m 93 #[.val (.int p1), .val (.int p2), .val (.int p3), .val (.int p4), .val (.int p5), .val (.int p6), .val (.ref b7), .val (.int (3 : Int32)), .val (.int (1 : Int32)), .val (.int (3 : Int32)), .val (.int p6)] [])) _
          refine XS.goto X400.here hx rfl (pc0 := 93) (pc' := 134) rfl (hb hby at_93) (by decide) (by decide) ?_
          show Steps p.tables e below (T400.setTop (mkF m 134 #[.val (.int p1), .val (.int p2), .val (.int p3), .val (.int p4), .val (.int p5), .val (.int p6), .val (.ref b7), .val (.int (3 : Int32)), .val (.int (1 : Int32)), .val (.int (3 : Int32)), .val (.int p6)] [])) _
          refine XS.aload X400.here hx rfl (hb hby at_134) rfl rfl ?_
          show Steps p.tables e below (T400.setTop (mkF m 136 #[.val (.int p1), .val (.int p2), .val (.int p3), .val (.int p4), .val (.int p5), .val (.int p6), .val (.ref b7), .val (.int (3 : Int32)), .val (.int (1 : Int32)), .val (.int (3 : Int32)), .val (.int p6)] [(.ref b7)])) _
          refine XS.iload X400.here hx rfl (hb hby at_136) rfl ?_
          show Steps p.tables e below (T400.setTop (mkF m 138 #[.val (.int p1), .val (.int p2), .val (.int p3), .val (.int p4), .val (.int p5), .val (.int p6), .val (.ref b7), .val (.int (3 : Int32)), .val (.int (1 : Int32)), .val (.int (3 : Int32)), .val (.int p6)] [(.int (3 : Int32)), (.ref b7)])) _
          refine st408.trans ?_
          show Steps p.tables e below (T408.setTop (mkF m 141 #[.val (.int p1), .val (.int p2), .val (.int p3), .val (.int p4), .val (.int p5), .val (.int p6), .val (.ref b7), .val (.int (3 : Int32)), .val (.int (1 : Int32)), .val (.int (3 : Int32)), .val (.int p6)] [(.int p6)])) _
          refine XS.iload X408.here hx rfl (hb hby at_141) rfl ?_
          show Steps p.tables e below (T408.setTop (mkF m 143 #[.val (.int p1), .val (.int p2), .val (.int p3), .val (.int p4), .val (.int p5), .val (.int p6), .val (.ref b7), .val (.int (3 : Int32)), .val (.int (1 : Int32)), .val (.int (3 : Int32)), .val (.int p6)] [(.int p6), (.int p6)])) _
          refine XS.icmpNo X408.here hx rfl (hb hby at_143) rfl (teq (rfl : p6 = p6)).2 ?_
          show Steps p.tables e below (T408.setTop (mkF m 146 #[.val (.int p1), .val (.int p2), .val (.int p3), .val (.int p4), .val (.int p5), .val (.int p6), .val (.ref b7), .val (.int (3 : Int32)), .val (.int (1 : Int32)), .val (.int (3 : Int32)), .val (.int p6)] [])) _
          refine XS.iconst X408.here hx rfl (hb hby at_146) ?_
          show Steps p.tables e below (T408.setTop (mkF m 147 #[.val (.int p1), .val (.int p2), .val (.int p3), .val (.int p4), .val (.int p5), .val (.int p6), .val (.ref b7), .val (.int (3 : Int32)), .val (.int (1 : Int32)), .val (.int (3 : Int32)), .val (.int p6)] [(.int (1 : Int32))])) _
          refine XS.goto X408.here hx rfl (pc0 := 147) (pc' := 151) rfl (hb hby at_147) (by decide) (by decide) ?_
          show Steps p.tables e below (T408.setTop (mkF m 151 #[.val (.int p1), .val (.int p2), .val (.int p3), .val (.int p4), .val (.int p5), .val (.int p6), .val (.ref b7), .val (.int (3 : Int32)), .val (.int (1 : Int32)), .val (.int (3 : Int32)), .val (.int p6)] [(.int (1 : Int32))])) _
          exact retN X408 hx (t := .boolean) Bd.returns (by simp) (hb hby at_151) hr
        · show Q0 Z _ _ _ _ _ _ h0 n0 _ T408.heap _
          rw [u412]
          exact ⟨rfl, N408⟩
set_option maxRecDepth 65536 in
set_option maxHeartbeats 40000000 in
theorem comes_1 {Post : Tables → Env → Array Value → State → Outcome → State → Prop} (hpost : ∀ tb e args s v u, (limb_1_1.after args s (.returned v) u = true ∧ limb_1_2.after args s (.returned v) u = true ∧ True) → FrameEnd s (.returned v) u (Jvm.fieldLocs frame_1_writes args s ++ Jvm.arrayLocs frame_1_arrays args s ++ Jvm.staticLocs frame_1_statics s) 16 8320 → Post tb e args s (.returned v) u) :
    ArmFor flags0 classFile x code maxLocals ret World_1 tables_1 room_1 Calls_1 rest_1 Pre_1 Post := by
  intro l hfl _ _ p e ha hc hk s m args below hf hA hF happ hP
  obtain ⟨hcalls, hrest, hpre⟩ := hP
  obtain ⟨-, -, -, hnamed, -, -, -, hat⟩ := (Spec.applies_iff hf).mp happ
  obtain ⟨hg, hn⟩ := and_e (Cond.before_iff.mp (show (Jvm.Cond.and given_1 narrow_1).before args s = true from hpre))
  obtain ⟨h1, hr0⟩ := and_e hg
  obtain ⟨ha0, hr1⟩ := and_e hr0
  obtain ⟨ha1, hr2⟩ := and_e hr1
  obtain ⟨ha2, hr3⟩ := and_e hr2
  obtain ⟨ha3, hr4⟩ := and_e hr3
  obtain ⟨ha4, hr5⟩ := and_e hr4
  obtain ⟨w0, w1, w2, w3, w4, w5, rfl⟩ : ∃ w0 w1 w2 w3 w4 w5 : Value, args = #[w0, w1, w2, w3, w4, w5] := by
    have hs : args.size = 6 := by simpa [Cond.value, given_1] using h1
    obtain ⟨L⟩ := args
    match L, hs with
    | [w0, w1, w2, w3, w4, w5], _ => exact ⟨w0, w1, w2, w3, w4, w5, rfl⟩
  have hwt := fun d (hd : d ∈ tables_1) => atoms_spec (ws := Jvm.Cond.code x code maxLocals ret :: tables_1) hat d (List.mem_cons_of_mem _ hd)
  have hw : ∀ d ∈ own_ws, d.before _ s = true := hwt
  have hfit : Fit s := fun {y c} hc i hi => by
    obtain ⟨ha, rfl⟩ := Array.getElem?_eq_some_iff.mp hc
    have q := List.all_eq_true.mp ((Array.all_eq_true_iff_forall_mem.mp hF) _ (Array.getElem_mem ha)) i (List.mem_range.mpr hi)
    simpa [Array.getElem?_eq_getElem hi] using q
  obtain ⟨i0, ei0⟩ := is_v ha0
  obtain rfl : w0 = (.int i0) := Option.some.inj ei0
  obtain ⟨i1, ei1⟩ := is_v ha1
  obtain rfl : w1 = (.int i1) := Option.some.inj ei1
  obtain ⟨i2, ei2⟩ := is_v ha2
  obtain rfl : w2 = (.int i2) := Option.some.inj ei2
  obtain ⟨i3, ei3⟩ := is_v ha3
  obtain rfl : w3 = (.int i3) := Option.some.inj ei3
  obtain ⟨i4, ei4⟩ := is_v ha4
  obtain rfl : w4 = (.int i4) := Option.some.inj ei4
  obtain ⟨i5, ei5⟩ := is_v hr5
  obtain rfl : w5 = (.int i5) := Option.some.inj ei5
  obtain ⟨n, o, h1, h2, h3, _, L, rfl, ⟨rfl, N⟩, hq⟩ := rm0 l s _ hw tables_1 i0 i1 i2 i3 i4 i5 s.heap s.heap.size (Old.start s) p e ha hc hk s m _ below hf ((Spec.applies_iff_loose hf).mp happ).1 ⟨rfl, State.Warmed39.refl s, rfl⟩ trivial
  refine ⟨n, _, h1, h2, h3, hpost _ _ _ _ _ _ ⟨Cond.after_iff.mpr rfl, Cond.after_iff.mpr (eq_i res_at (Term.int_eval (1)) rfl), trivial⟩ ⟨hq.1, hq.2.1, (hq.2.2.sift fun y hy => Or.inr (N y hy)).mono (by decide) (by decide)⟩⟩
theorem main_1_1 : Claimed_1_1 := comes_1 fun _ _ _ _ _ _ h hF => ⟨h.1, hF⟩
theorem main_1_2 : Claimed_1_2 := comes_1 fun _ _ _ _ _ _ h hF => ⟨h.2.1, hF⟩
end Jvm.Pilot.@@N@@
namespace Jvm.Pilot.@@N@@
open Jvm Jvm.ClassFile Sem Op Lib Jvm.Free Jvm.Stand Jvm.Pilot.@@N@@.Jvm.D
/-! MADE BY PROGRAM (witnessworld.py) out of the Statement's table words and the real class files: 9 classes; the members and pool entries that the words name. The judged class is class 1, her method 1. -/
namespace start1
open Jvm.ClassFile
def u (s : String) : CpInfo := .utf8 (stringToUtf16 s)
/-- a pool by its gaps: so many unusable entries, then the entry; so many at the end -/
def gap : Nat → List CpInfo → List CpInfo
  | 0, r => r
  | n + 1, r => .unusable :: gap n r
def poolList (es : List (Nat × CpInfo)) (last : Nat) : List CpInfo := es.foldr (fun e r => gap e.1 (e.2 :: r)) (gap last [])
def pool (es : List (Nat × CpInfo)) (last : Nat) : Array CpInfo := ⟨poolList es last⟩
def fileOf (pool : Array CpInfo) (this : Nat) (attrs : Array Attribute := #[]) (ms : Array MethodInfo := #[]) (fl : Nat := 33) (sup : Nat := 0) (ifs : Array Nat := #[]) (fds : Array FieldInfo := #[]) : ClassFile where
  minorVersion := 0
  majorVersion := 65
  constantPool := pool
  accessFlags := fl
  thisClass := this
  superClass := sup
  interfaces := ifs
  fields := fds
  methods := ms
  attributes := attrs
def plain (name : String) (sup : Option ClassId) : Class where
  name := name
  kind := .ordinary
  loader := none
  accessFlags := 33
  super := sup
  interfaces := #[]
  cf := none
  fields := #[]
  methods := #[]
  instanceTypes := #[]
  staticTypes := #[]
  resolved := #[]
  callSites := []
  init := .initialized
  statics := none
  mirror := none

def pool0 : Array CpInfo := pool [(5, u "<init>"), (0, u "()V"), (1, .class_ 10), (1, u "java/lang/Object")] 113

def k0c0 : Code := { maxStack := 0, maxLocals := 1, code := object_method_1_code, exceptionTable := #[], attributes := #[] }
def k0m0 : Method := { name := "<init>", desc := "()V", sig := { parameters := [], returnType := none }, accessFlags := 1, code := some k0c0 }
/-- java/lang/Object -/
def k0 : Class := { plain "java/lang/Object" none with
  accessFlags := 33
  interfaces := #[]
  cf := some (fileOf pool0 8 #[] #[{ accessFlags := 1, nameIndex := 5, descriptorIndex := 6, attributes := #[] }] 33 0 #[] #[])
  fields := #[]
  methods := #[k0m0]
  instanceTypes := #[]
  staticTypes := #[]
  resolved := Array.replicate 124 none
  statics := none }

def pool1 : Array CpInfo := pool [(2, .class_ 4), (0, .nameAndType 5 6), (0, u "java/lang/Object"), (0, u "<init>"), (0, u "()V"), (0, .class_ 8), (0, u "com/example/vestry/vestry/Ints"), (0, .methodref 7 3), (0, .methodref 7 11), (0, .nameAndType 12 13), (0, u "add"), (0, u "(I)V"), (0, .methodref 7 15), (0, .nameAndType 16 17), (0, u "set"), (0, u "(II)V"), (0, .methodref 7 19), (0, .nameAndType 20 21), (0, u "get"), (0, u "(I)I"), (0, .class_ 23), (0, u "com/example/vestry/vestry/IntsGetPinLaw"), (2, u "law"), (0, u "(IIIIII)Z")] 3

def k1m0 : Method := { name := "<init>", desc := "()V", sig := { parameters := [], returnType := none }, accessFlags := 1, code := none }
def k1c1 : Code := { maxStack := 3, maxLocals := 11, code := code, exceptionTable := #[], attributes := #[] }
def k1m1 : Method := { name := "law", desc := "(IIIIII)Z", sig := { parameters := [.int, .int, .int, .int, .int, .int], returnType := some .boolean }, accessFlags := 9, code := some k1c1 }
/-- com/example/vestry/vestry/IntsGetPinLaw -/
def k1 : Class := { plain "com/example/vestry/vestry/IntsGetPinLaw" (some 0) with
  accessFlags := 49
  interfaces := #[]
  cf := some (fileOf pool1 22 #[] #[{ accessFlags := 1, nameIndex := 5, descriptorIndex := 6, attributes := #[] }, { accessFlags := 9, nameIndex := 26, descriptorIndex := 27, attributes := #[] }] 49 2 #[] #[])
  fields := #[]
  methods := #[k1m0, k1m1]
  instanceTypes := #[]
  staticTypes := #[]
  resolved := Array.replicate 31 none
  statics := none }

def pool2 : Array CpInfo := pool [(1, .class_ 2), (0, u "com/example/vestry/vestry/Ints"), (0, .methodref 4 5), (0, .class_ 6), (0, .nameAndType 7 8), (0, u "java/lang/Object"), (0, u "<init>"), (0, u "()V"), (0, .class_ 10), (0, u "[I"), (0, .fieldref 1 12), (0, .nameAndType 13 14), (0, u "blocks"), (0, u "[[I"), (0, .fieldref 1 16), (0, .nameAndType 17 18), (0, u "size"), (0, u "I"), (7, u "BLOCK_BITS"), (2, u "BLOCK_SIZE"), (1, u "IN_BLOCK"), (4, u "add"), (0, u "(I)V"), (1, u "get"), (0, u "(I)I"), (0, u "set"), (0, u "(II)V")] 2

def k2c0 : Code := { maxStack := 2, maxLocals := 1, code := prog_60_method_1_code, exceptionTable := #[], attributes := #[] }
def k2m0 : Method := { name := "<init>", desc := "()V", sig := { parameters := [], returnType := none }, accessFlags := 0, code := some k2c0 }
def k2c1 : Code := { maxStack := 4, maxLocals := 3, code := prog_60_method_3_code, exceptionTable := #[], attributes := #[] }
def k2m1 : Method := { name := "add", desc := "(I)V", sig := { parameters := [.int], returnType := none }, accessFlags := 0, code := some k2c1 }
def k2c2 : Code := { maxStack := 3, maxLocals := 2, code := prog_60_method_4_code, exceptionTable := #[], attributes := #[] }
def k2m2 : Method := { name := "get", desc := "(I)I", sig := { parameters := [.int], returnType := some .int }, accessFlags := 0, code := some k2c2 }
def k2c3 : Code := { maxStack := 3, maxLocals := 3, code := prog_60_method_5_code, exceptionTable := #[], attributes := #[] }
def k2m3 : Method := { name := "set", desc := "(II)V", sig := { parameters := [.int, .int], returnType := none }, accessFlags := 0, code := some k2c3 }
/-- com/example/vestry/vestry/Ints -/
def k2 : Class := { plain "com/example/vestry/vestry/Ints" (some 0) with
  accessFlags := 48
  interfaces := #[]
  cf := some (fileOf pool2 1 #[] #[{ accessFlags := 0, nameIndex := 7, descriptorIndex := 8, attributes := #[] }, { accessFlags := 0, nameIndex := 36, descriptorIndex := 37, attributes := #[] }, { accessFlags := 0, nameIndex := 39, descriptorIndex := 40, attributes := #[] }, { accessFlags := 0, nameIndex := 41, descriptorIndex := 42, attributes := #[] }] 48 4 #[] #[{ accessFlags := 24, nameIndex := 26, descriptorIndex := 18, attributes := #[] }, { accessFlags := 24, nameIndex := 29, descriptorIndex := 18, attributes := #[] }, { accessFlags := 26, nameIndex := 31, descriptorIndex := 18, attributes := #[] }, { accessFlags := 2, nameIndex := 13, descriptorIndex := 14, attributes := #[] }, { accessFlags := 2, nameIndex := 17, descriptorIndex := 18, attributes := #[] }])
  fields := #[{ name := "BLOCK_BITS", type := .int, accessFlags := 24, slot := 0, constantValue := 0 }, { name := "BLOCK_SIZE", type := .int, accessFlags := 24, slot := 1, constantValue := 0 }, { name := "IN_BLOCK", type := .int, accessFlags := 26, slot := 2, constantValue := 0 }, { name := "blocks", type := (.array (.array .int)), accessFlags := 2, slot := 0, constantValue := 0 }, { name := "size", type := .int, accessFlags := 2, slot := 1, constantValue := 0 }]
  methods := #[k2m0, k2m1, k2m2, k2m3]
  instanceTypes := #[(.array (.array .int)), .int]
  staticTypes := #[.int, .int, .int]
  resolved := Array.replicate 45 none
  statics := none }

def pool3 : Array CpInfo := pool [(1, u "java/lang/Cloneable"), (0, .class_ 1), (0, u "java/lang/Object"), (0, .class_ 3)] 3

/-- java/lang/Cloneable -/
def k3 : Class := { plain "java/lang/Cloneable" (some 0) with
  accessFlags := 1537
  interfaces := #[]
  cf := some (fileOf pool3 2 #[] #[] 1537 4 #[] #[])
  fields := #[]
  methods := #[]
  instanceTypes := #[]
  staticTypes := #[]
  resolved := Array.replicate 8 none
  statics := none }

def pool4 : Array CpInfo := pool [(1, u "java/io/Serializable"), (0, .class_ 1), (0, u "java/lang/Object"), (0, .class_ 3)] 3

/-- java/io/Serializable -/
def k4 : Class := { plain "java/io/Serializable" (some 0) with
  accessFlags := 1537
  interfaces := #[]
  cf := some (fileOf pool4 2 #[] #[] 1537 4 #[] #[])
  fields := #[]
  methods := #[]
  instanceTypes := #[]
  staticTypes := #[]
  resolved := Array.replicate 8 none
  statics := none }

/-- the primitive byte -/
def k5 : Class := { plain "byte" none with kind := .primitive 'B', accessFlags := 0x411 }
/-- [B -/
def k6 : Class := { plain "[B" (some 0) with kind := .array 5 .byte, interfaces := #[3, 4], accessFlags := 1041 }

/-- the primitive int -/
def k7 : Class := { plain "int" none with kind := .primitive 'I', accessFlags := 0x411 }
/-- [I -/
def k8 : Class := { plain "[I" (some 0) with kind := .array 7 .int, interfaces := #[3, 4], accessFlags := 1041 }
/-- arrays of these -/
def kII : Class := { plain "[[I" (some 0) with kind := .array 8 (.array .int), interfaces := #[3, 4], accessFlags := 1041 }

def heap : Heap := #[]
def classes : Array Class := #[k0, k1, k2, k3, k4, k5, k6, k7, k8, kII]
def interned : List (Array UInt16 × Addr) := []
def slotsUsed : Nat := 0
def theMethod : MethodId := ⟨1, 1⟩
def args0 : Array Value := #[.int 1, .int 2, .int 3, .int 4, .int 5, .int 6]
def aboutOver (below : List Frame) : State where
  vm := { classes := classes, interned := interned.toArray }
  heap := heap
  slotsUsed := slotsUsed
  threads := #[{ frames := .invoking theMethod args0 :: below }]
def below0 : List Frame := [.native { method := ⟨0, 0⟩, args := #[] }]
def about1 : State := aboutOver below0
def p0 : Program := .bare "" "" ""
def e0 : Env := launch0.env 0 0 0
theorem w_frames : about1.frames = Frame.invoking theMethod args0 :: below0 := rfl
set_option maxRecDepth 65536 in
theorem w_args : argsFit about1.vm theMethod args0 = true := by decide +kernel
set_option maxRecDepth 65536 in
theorem w_heap : heapFits about1 = true := by decide +kernel
set_option maxRecDepth 65536 in
theorem w_runnable : about1.curStatus? = some .runnable := by decide +kernel
set_option maxRecDepth 65536 in
theorem w_alone : about1.alone = true := by decide +kernel
set_option maxRecDepth 65536 in
theorem w_named : about1.methodNamed? x = some theMethod := by decide +kernel
set_option maxRecDepth 65536 in
theorem w_hears : about1.hears theMethod below0 = true := by decide +kernel
set_option maxRecDepth 65536 in
theorem w_ripe : about1.ripe theMethod args0 below0 = true := by decide +kernel
theorem w_running : about1.status = .running := rfl
set_option maxRecDepth 65536 in
theorem w_room : about1.hasRoom e0.platform room_1 = true :=
  launch0.hasRoom_least _ room_1 (by decide +kernel) (by decide +kernel) (by decide +kernel) (by decide +kernel) (by decide +kernel) (by decide +kernel)
theorem allAtoms_all (ts : List Jvm.Cond) (a : Array Jvm.Value) (st : Jvm.State) : (allAtoms ts).before a st = ts.all (fun c => c.before a st) := by
  induction ts with
  | nil => rfl
  | cons c t ih =>
    show (Jvm.Cond.and c (allAtoms t)).before a st = _
    rw [Jvm.Cond.before_and, ih, List.all_cons]
def words1 : List Jvm.Cond := Jvm.Cond.code x code maxLocals ret :: tables_1
/-- a 'code' word, met by the world's own term for the bytes: nothing is compared byte by byte -/
theorem code_word {y : MethodName} {bytes : ByteArray} {mx : Nat} {rt : Option FieldType} {a : Array Value} {s : State} {m : MethodId} {meth : Method} {c : Code} (h1 : s.methodNamed? y = some m) (h2 : s.vm.method? m = some meth) (h3 : meth.code = some c) (h4 : c.code = bytes)
    (h5 : (c.maxLocals == mx && c.exceptionTable.isEmpty && decide (c.maxStack ≤ mostOperands) && decide (meth.sig.returnType = rt) && !meth.locks && decide (parseMethodDescriptor y.desc = some meth.sig)) = true) : (Jvm.Cond.code y bytes mx rt).before a s = true := by
  simp only [Bool.and_eq_true, beq_iff_eq, Bool.not_eq_true', decide_eq_true_eq] at h5
  obtain ⟨⟨⟨⟨⟨g1, g2⟩, g3⟩, g4⟩, g5⟩, g6⟩ := h5
  simp [Cond.before, Cond.holds, Cond.value, h1, h2, h3, h4, g1, g2, g3, g4, g5, g6]
def isCode : Jvm.Cond → Bool
  | .code _ _ _ _ => true
  | _ => false
theorem all_split {L : List Jvm.Cond} {P : Jvm.Cond → Bool} (h1 : L.all (fun c => isCode c || P c) = true) (h2 : ∀ c ∈ L.filter isCode, P c = true) : L.all P = true := by
  refine List.all_eq_true.mpr fun c hc => ?_
  have h := List.all_eq_true.mp h1 c hc
  rcases Bool.eq_false_or_eq_true (isCode c) with hi | hi
  · exact h2 c (List.mem_filter.mpr ⟨hc, hi⟩)
  · simpa [hi] using h
set_option maxRecDepth 65536 in
theorem w_c0 : (Jvm.Cond.code x code maxLocals ret).before args0 about1 = true := code_word (m := ⟨1, 1⟩) (meth := k1m1) (c := k1c1) (by decide +kernel) rfl rfl rfl (by decide +kernel)
set_option maxRecDepth 65536 in
theorem w_c1 : (Jvm.Cond.code ({ cls := "com/example/vestry/vestry/Ints", name := "<init>", desc := "()V" } : Jvm.MethodName) prog_60_method_1_code (1 : Nat) (Option.none : Option Jvm.ClassFile.FieldType)).before args0 about1 = true := code_word (m := ⟨2, 0⟩) (meth := k2m0) (c := k2c0) (by decide +kernel) rfl rfl rfl (by decide +kernel)
set_option maxRecDepth 65536 in
theorem w_c2 : (Jvm.Cond.code ({ cls := "java/lang/Object", name := "<init>", desc := "()V" } : Jvm.MethodName) object_method_1_code (1 : Nat) (Option.none : Option Jvm.ClassFile.FieldType)).before args0 about1 = true := code_word (m := ⟨0, 0⟩) (meth := k0m0) (c := k0c0) (by decide +kernel) rfl rfl rfl (by decide +kernel)
set_option maxRecDepth 65536 in
theorem w_c3 : (Jvm.Cond.code ({ cls := "com/example/vestry/vestry/Ints", name := "add", desc := "(I)V" } : Jvm.MethodName) prog_60_method_3_code (3 : Nat) (Option.none : Option Jvm.ClassFile.FieldType)).before args0 about1 = true := code_word (m := ⟨2, 1⟩) (meth := k2m1) (c := k2c1) (by decide +kernel) rfl rfl rfl (by decide +kernel)
set_option maxRecDepth 65536 in
theorem w_c4 : (Jvm.Cond.code ({ cls := "com/example/vestry/vestry/Ints", name := "get", desc := "(I)I" } : Jvm.MethodName) prog_60_method_4_code (2 : Nat) (Option.some Jvm.ClassFile.FieldType.int)).before args0 about1 = true := code_word (m := ⟨2, 2⟩) (meth := k2m2) (c := k2c2) (by decide +kernel) rfl rfl rfl (by decide +kernel)
set_option maxRecDepth 65536 in
theorem w_c5 : (Jvm.Cond.code ({ cls := "com/example/vestry/vestry/Ints", name := "set", desc := "(II)V" } : Jvm.MethodName) prog_60_method_5_code (3 : Nat) (Option.none : Option Jvm.ClassFile.FieldType)).before args0 about1 = true := code_word (m := ⟨2, 3⟩) (meth := k2m3) (c := k2c3) (by decide +kernel) rfl rfl rfl (by decide +kernel)
def codes1 : List Jvm.Cond := [Jvm.Cond.code x code maxLocals ret, Jvm.Cond.code ({ cls := "com/example/vestry/vestry/Ints", name := "<init>", desc := "()V" } : Jvm.MethodName) prog_60_method_1_code (1 : Nat) (Option.none : Option Jvm.ClassFile.FieldType), Jvm.Cond.code ({ cls := "java/lang/Object", name := "<init>", desc := "()V" } : Jvm.MethodName) object_method_1_code (1 : Nat) (Option.none : Option Jvm.ClassFile.FieldType), Jvm.Cond.code ({ cls := "com/example/vestry/vestry/Ints", name := "add", desc := "(I)V" } : Jvm.MethodName) prog_60_method_3_code (3 : Nat) (Option.none : Option Jvm.ClassFile.FieldType), Jvm.Cond.code ({ cls := "com/example/vestry/vestry/Ints", name := "get", desc := "(I)I" } : Jvm.MethodName) prog_60_method_4_code (2 : Nat) (Option.some Jvm.ClassFile.FieldType.int), Jvm.Cond.code ({ cls := "com/example/vestry/vestry/Ints", name := "set", desc := "(II)V" } : Jvm.MethodName) prog_60_method_5_code (3 : Nat) (Option.none : Option Jvm.ClassFile.FieldType)]
set_option maxRecDepth 65536 in
theorem codes_eq : words1.filter isCode = codes1 := rfl
theorem w_codes : ∀ c ∈ words1.filter isCode, c.before args0 about1 = true := by
  rw [codes_eq]
  intro c hc
  simp only [codes1, List.mem_cons, List.not_mem_nil, or_false] at hc
  rcases hc with rfl | rfl | rfl | rfl | rfl | rfl
  · exact w_c0
  · exact w_c1
  · exact w_c2
  · exact w_c3
  · exact w_c4
  · exact w_c5
set_option maxRecDepth 65536 in
theorem w_t1 : (words1.take 24).all (fun c => isCode c || c.before args0 about1) = true := by decide +kernel
set_option maxRecDepth 65536 in
theorem w_t2 : (words1.drop 24).all (fun c => isCode c || c.before args0 about1) = true := by decide +kernel
theorem w_tables : (allAtoms (Jvm.Cond.code x code maxLocals ret :: tables_1)).before args0 about1 = true := by
  rw [allAtoms_all]
  show words1.all (fun c => c.before args0 about1) = true
  refine all_split ?_ w_codes
  rw [← List.take_append_drop 24 words1, List.all_append, w_t1, w_t2]
  rfl
set_option maxRecDepth 65536 in
theorem w_case : (Jvm.Cond.and given_1 narrow_1).before args0 about1 = true := by decide +kernel
theorem w_applies : (headSpec (Jvm.Cond.code x code maxLocals ret :: tables_1) room_1).applies x e0.platform about1 = true :=
  (Spec.applies_iff w_frames).mpr ⟨w_running, w_runnable, w_alone, w_named, w_hears, w_ripe, w_room, w_tables⟩
theorem atStart : AtStart classFile x code maxLocals ret World_1 tables_1 room_1 Calls_1 rest_1 Pre_1 launch0 p0 e0 about1 theMethod args0 below0 :=
  ⟨lists_1, trivial, launch0.admits_env _ _ _, launch0.least_env, fairChoices_fair.cas, fairChoices_fair.clock, w_frames, w_args, w_heap, w_applies, trivial, trivial, w_case⟩
end start1
theorem witness_1 : WitnessClaimed_1 := ⟨start1.p0, start1.e0, start1.about1, start1.theMethod, start1.args0, start1.below0, start1.atStart⟩
end Jvm.Pilot.@@N@@
