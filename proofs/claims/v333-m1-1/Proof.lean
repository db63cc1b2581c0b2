import JvmDerived
import JvmDerived.Pilot.@@N@@Statement
import JvmDerived.Pilot.@@N@@Code
set_option linter.unusedVariables false
set_option linter.unusedSimpArgs false
@@BLOCK:NumsL.lean.txt@@
namespace Jvm.RoadKit
open Sem ClassFile Op Lib Jvm.Stand Jvm.Free Jvm.LawKit
section New
variable {p : Program} {l : Launch} {e : Env} {R : Room} {s : State} {m : MethodId} {args : Array Value} {below : List Frame} {meth : Method} {c : Code} {T : State} {locs : List Loc} {cells slots : Nat}
theorem retI (X : Stand p l e R s m args below meth c T locs cells slots) (hx : p.tables.exec = Jvm.exec) {pc : Nat} {Ls : Array Slot} {z : Int32} {rest : List Value} (hret : meth.sig.returnType = some .int) (hd : decode c.code pc = .ok (.ireturn, 1)) {fs : List Frame}
    (hl : ∀ (f : JFrame) (acts : List Action), f.method = m → f.locked = none → f.entered = [] → (doReturn e (T.setTop f) acts (some (.int z))).1 = T.setFrames fs) : Steps p.tables e below (T.setTop (mkF m pc Ls (.int z :: rest))) (T.setFrames fs) := by
  have hm' : T.vm.method? m = some meth := X.method'
  have hn : narrow .int (.int z) = .int z := rfl
  show Steps p.tables e below (T.setTop { method := m, pc := pc, locals := Ls, stack := _ :: rest, locked := none }) _
  jvm_step X.here [X.here.top, hx, hd, hm', hret, hn]
  first | (intro acts; rw [hl _ acts rfl rfl rfl]) | rw [hl _ _ rfl rfl rfl]
  exact Steps.refl _
end New
end Jvm.RoadKit
namespace Jvm.Pilot.@@N@@
open Jvm Jvm.ClassFile Sem Op Lib Jvm.Free Jvm.Stand Jvm.LawKit Jvm.RoadKit Bundle Jvm.Pilot.@@N@@.Jvm.D
theorem own_eqI {args : Array Value} {s : State} {a : Term} {k : Int32} (h : (Cond.eq a (.int k)).value args s none s [] = some true) : a.eval args s none [] s = some (.int k) := by
  obtain ⟨x, y, hx, hy, k1, k2⟩ := cmp_v (Or.inl h)
  obtain rfl : Value.int k = y := Option.some.inj ((Term.int_eval k).symm.trans hy)
  obtain ⟨z, rfl⟩ : ∃ z, x = .int z := k2
  have hz : z = k := gotT (Cond.eq_ints hx hy) h
  rw [hz] at hx; exact hx
theorem own_eqR {args : Array Value} {s : State} {a b : Term} {y : Addr} (hb : b.eval args s none [] s = some (.ref y)) (h : (Cond.eq a b).value args s none s [] = some true) : a.eval args s none [] s = some (.ref y) := by
  obtain ⟨x, y', hx, hy, k1, k2⟩ := cmp_v (Or.inl h)
  obtain rfl : Value.ref y = y' := Option.some.inj (hb.symm.trans hy)
  have hr : x.isRef = true := k2.2
  have hz : x = .ref y := gotT (eq_R hx hy hr rfl) h
  rw [hz] at hx; exact hx
theorem own_z {Z : State} {n0 : Nat} {h : Heap} (O : Old Z n0 h) : n0 ≤ h.size := O.1 ▸ O.2.1
theorem own_len {args : Array Value} {s : State} {t : Term} {x : Addr} {cl : Cell} {ty : FieldType} {n : Int32} (ev : t.eval args s none [] s = some (.ref x)) (A : Arr s s.heap x cl ty) (h : (Term.length t).eval args s none [] s = some (.int n)) : cl.slots.size < 2 ^ 31 ∧ cl.slots.size.toInt32 = n := by
  have ha : s.arrayAt? x = some cl := IntBox.arrayAt_of A.1 A.2.1 A.2.2
  simpa [Term.eval, ev, ha] using h
theorem own_elem {args : Array Value} {s : State} {t : Term} {x : Addr} {cl : Cell} {ty : FieldType} {j : Int32} {v : Value} {i : Nat} (ev : t.eval args s none [] s = some (.ref x)) (A : Arr s s.heap x cl ty) (h : (Term.elem t (.int j)).eval args s none [] s = some v) (hi : j.toNatClampNeg = i) : cl.slots[i]? = some v := by
  have q := (elem_in h ev (Term.int_eval j) A.1).2
  rw [hi] at q; exact q
def own_ws : List Jvm.Cond := tables_1
theorem gw (i : Nat) {d : Jvm.Cond} (h : own_ws[i]? = some d) : d ∈ own_ws := List.mem_of_getElem? h
theorem own_mod3 {y x : Int32} (h : y = x &&& 2147483647) : y % 3 = 0 ∨ y % 3 = 1 ∨ y % 3 = 2 := by
  subst h
  have h := Jvm.Kit.i32_mask x 2147483647 (k := 31) (by decide) (by decide +kernel)
  have hn : (3 : Int32).toInt = 3 := by decide +kernel
  have h2 : ((x &&& 2147483647) % 3).toInt = (x &&& 2147483647).toInt % 3 := by rw [Jvm.Kit.i32_rem_nonneg (by omega), hn]
  have e0 : (0 : Int32).toInt = 0 := by decide +kernel
  have e1 : (1 : Int32).toInt = 1 := by decide +kernel
  have e2 : (2 : Int32).toInt = 2 := by decide +kernel
  simp only [← Int32.toInt_inj, e0, e1, e2]
  omega
theorem d1_0 : decode prog_60_method_1_code 0 = .ok (.aload_n 0, 1) := by decide +kernel
theorem d1_1 : decode prog_60_method_1_code 1 = .ok (.invokespecial 3, 3) := by decide +kernel
theorem d1_4 : decode prog_60_method_1_code 4 = .ok (.aload_n 0, 1) := by decide +kernel
theorem d1_5 : decode prog_60_method_1_code 5 = .ok (.iconst 1, 1) := by decide +kernel
theorem d1_6 : decode prog_60_method_1_code 6 = .ok (.anewarray 9, 3) := by decide +kernel
theorem d1_9 : decode prog_60_method_1_code 9 = .ok (.putfield 11, 3) := by decide +kernel
theorem d1_12 : decode prog_60_method_1_code 12 = .ok (.return_, 1) := by decide +kernel
abbrev M_0 : MethodName := ⟨"com/example/vestry/vestry/Ints", "<init>", "()V"⟩
theorem pn_0 : plainName "com/example/vestry/vestry/Ints" = true := by first | (simp [plainName, overriddenIn]; done) | decide +kernel
theorem pd_0 : parseMethodDescriptor "()V" = some ⟨[], none⟩ := by decide +kernel
theorem d3_0 : decode prog_60_method_3_code 0 = .ok (.aload_n 0, 1) := by decide +kernel
theorem d3_1 : decode prog_60_method_3_code 1 = .ok (.getfield 15, 3) := by decide +kernel
theorem d3_4 : decode prog_60_method_3_code 4 = .ok (.bipush 12, 2) := by decide +kernel
theorem d3_6 : decode prog_60_method_3_code 6 = .ok (.iushr, 1) := by decide +kernel
theorem d3_7 : decode prog_60_method_3_code 7 = .ok (.istore_n 2, 1) := by decide +kernel
theorem d3_8 : decode prog_60_method_3_code 8 = .ok (.iload_n 2, 1) := by decide +kernel
theorem d3_9 : decode prog_60_method_3_code 9 = .ok (.aload_n 0, 1) := by decide +kernel
theorem d3_10 : decode prog_60_method_3_code 10 = .ok (.getfield 11, 3) := by decide +kernel
theorem d3_13 : decode prog_60_method_3_code 13 = .ok (.arraylength, 1) := by decide +kernel
theorem d3_14 : decode prog_60_method_3_code 14 = .ok (.if_icmp .ne 24, 3) := by decide +kernel
theorem d3_38 : decode prog_60_method_3_code 38 = .ok (.aload_n 0, 1) := by decide +kernel
theorem d3_39 : decode prog_60_method_3_code 39 = .ok (.getfield 11, 3) := by decide +kernel
theorem d3_42 : decode prog_60_method_3_code 42 = .ok (.iload_n 2, 1) := by decide +kernel
theorem d3_43 : decode prog_60_method_3_code 43 = .ok (.aaload, 1) := by decide +kernel
theorem d3_44 : decode prog_60_method_3_code 44 = .ok (.ifnonnull 14, 3) := by decide +kernel
theorem d3_47 : decode prog_60_method_3_code 47 = .ok (.aload_n 0, 1) := by decide +kernel
theorem d3_48 : decode prog_60_method_3_code 48 = .ok (.getfield 11, 3) := by decide +kernel
theorem d3_51 : decode prog_60_method_3_code 51 = .ok (.iload_n 2, 1) := by decide +kernel
theorem d3_52 : decode prog_60_method_3_code 52 = .ok (.sipush 4096, 3) := by decide +kernel
theorem d3_55 : decode prog_60_method_3_code 55 = .ok (.newarray .int, 2) := by decide +kernel
theorem d3_57 : decode prog_60_method_3_code 57 = .ok (.aastore, 1) := by decide +kernel
theorem d3_58 : decode prog_60_method_3_code 58 = .ok (.aload_n 0, 1) := by decide +kernel
theorem d3_59 : decode prog_60_method_3_code 59 = .ok (.getfield 11, 3) := by decide +kernel
theorem d3_62 : decode prog_60_method_3_code 62 = .ok (.iload_n 2, 1) := by decide +kernel
theorem d3_63 : decode prog_60_method_3_code 63 = .ok (.aaload, 1) := by decide +kernel
theorem d3_64 : decode prog_60_method_3_code 64 = .ok (.aload_n 0, 1) := by decide +kernel
theorem d3_65 : decode prog_60_method_3_code 65 = .ok (.getfield 15, 3) := by decide +kernel
theorem d3_68 : decode prog_60_method_3_code 68 = .ok (.sipush 4095, 3) := by decide +kernel
theorem d3_71 : decode prog_60_method_3_code 71 = .ok (.iand, 1) := by decide +kernel
theorem d3_72 : decode prog_60_method_3_code 72 = .ok (.iload_n 1, 1) := by decide +kernel
theorem d3_73 : decode prog_60_method_3_code 73 = .ok (.iastore, 1) := by decide +kernel
theorem d3_74 : decode prog_60_method_3_code 74 = .ok (.aload_n 0, 1) := by decide +kernel
theorem d3_75 : decode prog_60_method_3_code 75 = .ok (.dup, 1) := by decide +kernel
theorem d3_76 : decode prog_60_method_3_code 76 = .ok (.getfield 15, 3) := by decide +kernel
theorem d3_79 : decode prog_60_method_3_code 79 = .ok (.iconst 1, 1) := by decide +kernel
theorem d3_80 : decode prog_60_method_3_code 80 = .ok (.iadd, 1) := by decide +kernel
theorem d3_81 : decode prog_60_method_3_code 81 = .ok (.putfield 15, 3) := by decide +kernel
theorem d3_84 : decode prog_60_method_3_code 84 = .ok (.return_, 1) := by decide +kernel
abbrev M_1 : MethodName := ⟨"com/example/vestry/vestry/Ints", "add", "(I)V"⟩
theorem pd_1 : parseMethodDescriptor "(I)V" = some ⟨[.int], none⟩ := by decide +kernel
theorem d4_0 : decode prog_60_method_5_code 0 = .ok (.aload_n 0, 1) := by decide +kernel
theorem d4_1 : decode prog_60_method_5_code 1 = .ok (.getfield 11, 3) := by decide +kernel
theorem d4_4 : decode prog_60_method_5_code 4 = .ok (.iload_n 1, 1) := by decide +kernel
theorem d4_5 : decode prog_60_method_5_code 5 = .ok (.bipush 12, 2) := by decide +kernel
theorem d4_7 : decode prog_60_method_5_code 7 = .ok (.iushr, 1) := by decide +kernel
theorem d4_8 : decode prog_60_method_5_code 8 = .ok (.aaload, 1) := by decide +kernel
theorem d4_9 : decode prog_60_method_5_code 9 = .ok (.iload_n 1, 1) := by decide +kernel
theorem d4_10 : decode prog_60_method_5_code 10 = .ok (.sipush 4095, 3) := by decide +kernel
theorem d4_13 : decode prog_60_method_5_code 13 = .ok (.iand, 1) := by decide +kernel
theorem d4_14 : decode prog_60_method_5_code 14 = .ok (.iload_n 2, 1) := by decide +kernel
theorem d4_15 : decode prog_60_method_5_code 15 = .ok (.iastore, 1) := by decide +kernel
theorem d4_16 : decode prog_60_method_5_code 16 = .ok (.return_, 1) := by decide +kernel
abbrev M_2 : MethodName := ⟨"com/example/vestry/vestry/Ints", "set", "(II)V"⟩
theorem pd_2 : parseMethodDescriptor "(II)V" = some ⟨[.int, .int], none⟩ := by decide +kernel
theorem d5_0 : decode prog_60_method_2_code 0 = .ok (.aload_n 0, 1) := by decide +kernel
theorem d5_1 : decode prog_60_method_2_code 1 = .ok (.getfield 15, 3) := by decide +kernel
theorem d5_4 : decode prog_60_method_2_code 4 = .ok (.ireturn, 1) := by decide +kernel
abbrev M_3 : MethodName := ⟨"com/example/vestry/vestry/Ints", "size", "()I"⟩
theorem pd_3 : parseMethodDescriptor "()I" = some ⟨[], some .int⟩ := by decide +kernel
theorem d6_0 : decode prog_60_method_4_code 0 = .ok (.aload_n 0, 1) := by decide +kernel
theorem d6_1 : decode prog_60_method_4_code 1 = .ok (.getfield 11, 3) := by decide +kernel
theorem d6_4 : decode prog_60_method_4_code 4 = .ok (.iload_n 1, 1) := by decide +kernel
theorem d6_5 : decode prog_60_method_4_code 5 = .ok (.bipush 12, 2) := by decide +kernel
theorem d6_7 : decode prog_60_method_4_code 7 = .ok (.iushr, 1) := by decide +kernel
theorem d6_8 : decode prog_60_method_4_code 8 = .ok (.aaload, 1) := by decide +kernel
theorem d6_9 : decode prog_60_method_4_code 9 = .ok (.iload_n 1, 1) := by decide +kernel
theorem d6_10 : decode prog_60_method_4_code 10 = .ok (.sipush 4095, 3) := by decide +kernel
theorem d6_13 : decode prog_60_method_4_code 13 = .ok (.iand, 1) := by decide +kernel
theorem d6_14 : decode prog_60_method_4_code 14 = .ok (.iaload, 1) := by decide +kernel
theorem d6_15 : decode prog_60_method_4_code 15 = .ok (.ireturn, 1) := by decide +kernel
abbrev M_4 : MethodName := ⟨"com/example/vestry/vestry/Ints", "get", "(I)I"⟩
theorem pd_4 : parseMethodDescriptor "(I)I" = some ⟨[.int], some .int⟩ := by decide +kernel
theorem pn_1 : plainName "com/example/vestry/vestry/IntsSetPinLaw" = true := by first | (simp [plainName, overriddenIn]; done) | decide +kernel
theorem ef_rm1_2 (m : MethodId) (x0 : Addr) : entryFrame m #[(.ref x0)] 1 = mkF m 0 #[.val (.ref x0)] [] := by first | (simp [entryFrame, mkF, argsToLocals, Value.category]; done) | rfl
def Q1_2 (Z : State) (a1 : Addr) (h0 : Heap) (n0 : Nat) (v : Option Value) (h : Heap) (L : List Loc) : Prop := (∃ (b3 : Addr) (k3 : ClassId), v = none ∧ Fr n0 L ∧ h0.size ≤ b3 ∧ b3 < h.size ∧ Keep h0 h [a1] ∧ Exa Z h a1 "com/example/vestry/vestry/Ints" ∧ Fld Z h a1 "com/example/vestry/vestry/Ints" "blocks" "[[I" (.ref b3) ∧ Fld Z h a1 "com/example/vestry/vestry/Ints" "size" "I" (.int (0 : Int32)) ∧ Exa Z h b3 "[[I" ∧ Arv Z h b3 k3 (.array .int) (1 : Int32) [] .null ∧ OvrA Z k3 .int "[I")
set_option maxRecDepth 65536 in
set_option maxHeartbeats 40000000 in
theorem rm1_2 (l : Launch) (Z : State) (a0 : Array Value) (hw : ∀ d ∈ own_ws, d.before a0 Z = true) (ws : List Jvm.Cond) (a1 : Addr) (h0 : Heap) (n0 : Nat) (O0 : Old Z n0 h0) (E_4 : Exa Z h0 a1 "com/example/vestry/vestry/Ints") (F5 : Fld Z h0 a1 "com/example/vestry/vestry/Ints" "blocks" "[[I" .null) (F6 : Fld Z h0 a1 "com/example/vestry/vestry/Ints" "size" "I" (.int (0 : Int32))) (g_a1 : n0 ≤ a1) (lt_a1 : a1 < h0.size) :
    MetFree l M_0 (head1 (Jvm.Cond.code M_0 prog_60_method_1_code 1 none :: ws) ({ frames := 1, cells := 1, slots := 1, locals := 12 } : Room)) (fun a U => a = #[(.ref a1)] ∧ Z.Warmed39 U.vm ∧ U.heap = h0) (fun _ _ _ _ _ => True) (fun _ U o U' => ∃ v L, o = .returned v ∧ Q1_2 Z a1 h0 n0 v U'.heap L ∧ FrameEnd U o U' L ({ frames := 1, cells := 1, slots := 1, locals := 12 } : Room).cells ({ frames := 1, cells := 1, slots := 1, locals := 12 } : Room).slots) := by
  refine MetFree.of_bodySF (plainFor_of_name pn_0) hisR ?_
  intro p e s m args below meth c s₁ Bd hml0 hP hK
  obtain ⟨rfl, hZ, hh⟩ := hP
  have hx := Bd.exec
  have hby := Bd.bytes
  have hml : c.maxLocals = 1 := hml0
  have hown : s.vm.findClass "com/example/vestry/vestry/Ints" = some m.cls := findClass_of_methodNamed Bd.named
  have hnm := (name_of_methodNamed Bd.named Bd.method).1
  have X0 : Stand p l e ({ frames := 1, cells := 1, slots := 1, locals := 12 } : Room) s m #[(.ref a1)] below meth c s₁ [] 0 0 := Stand.of_body Bd
  have e0 : s₁.heap = h0 := by rw [← hh, Bd.state]; rfl
  have N0 := Fr.nil n0
  have pre0 : ∀ t, Steps p.tables e below (s₁.setTop (mkF m 0 #[.val (.ref a1)] [])) t → Steps p.tables e below (s₁.setTop (entryFrame m #[(.ref a1)] 1)) t := fun t k => castTop (ef_rm1_2 m a1) k
  obtain ⟨T2, X2, e2, st2⟩ := initO X0 hx hZ hown (hw _ (gw 7 rfl)) (hw _ (gw 8 rfl)) (hw _ (gw 9 rfl)) e0 (g := (mkF m 1 #[.val (.ref a1)] [(.ref a1)])) rfl (by rw [hml]; rfl) rfl (hb hby d1_1) (by decide) (W := 0) (by show 2 * 0 + _ ≤ _; exact Nat.le_of_eq rfl) (by decide)
  obtain ⟨T3, h3, k3, X3, e3, E3, A3, Ex3, Ov3, st3⟩ := newRA X2 hx hZ hown (ty := .int) (C := "[I") (by decide +kernel) (hw _ (gw 10 rfl)) (hw _ (gw 11 rfl)) e2 (g := (mkF m 6 #[.val (.ref a1)] [(.int (1 : Int32)), (.ref a1)])) rfl (hb hby d1_6) rfl (by decide +kernel) (cap := 1) (by decide +kernel) (by decide) (by decide) (by decide) (ad := "[[I") (by decide +kernel)
  obtain ⟨b3, g3⟩ : ∃ z, z = h0.size := ⟨_, rfl⟩
  rw [← g3] at A3 Ex3 st3
  have O3 : Old Z n0 h3 := O0.ext E3
  have bd_b3 : h0.size ≤ b3 := Nat.le_of_eq g3.symm
  have g_b3 : n0 ≤ b3 := Nat.le_trans (own_z O0) bd_b3
  have sz_b3 : h0.size ≤ b3 := Nat.le_trans (Nat.le_refl _) bd_b3
  have lt_b3 : b3 < h3.size := A3.lt
  have V3 : Arv Z h3 b3 k3 (.array .int) (1 : Int32) [] .null := Arv.new A3 (by decide +kernel)
  have f7 : Fld Z h3 a1 "com/example/vestry/vestry/Ints" "blocks" "[[I" .null := (Fld.ext E3 F5)
  have f8 : Exa Z h3 a1 "com/example/vestry/vestry/Ints" := (Exa.ext E3 E_4)
  obtain ⟨T9, h9, X9, e9, W9, st9⟩ := putF X3 hx hZ hown (host := "") (Or.inl (hw _ (gw 12 rfl))) Via.refl e3 f7 f8 (Or.inl (hw _ (gw 13 rfl))) (hw _ (gw 2 rfl)) (ty := (.array (.array .int))) (by decide) rfl rfl (g := (mkF m 9 #[.val (.ref a1)] [(.ref b3), (.ref a1)])) rfl rfl (hb hby d1_9)
  have O9 : Old Z n0 h9 := O3.wr W9 g_a1
  have Fw9 : Fld Z h9 a1 "com/example/vestry/vestry/Ints" "blocks" "[[I" (.ref b3) := Fld.same W9 f7
  have N9 := Fr.snoc X9 N0 g_a1
  obtain ⟨fs, hr, hrun, hended, hW, hsame⟩ := X9.leave (v := none) (fun _ => rfl)
  have f10 : Exa Z h9 a1 "com/example/vestry/vestry/Ints" := (Exa.wr W9 f8)
  have f11 : Fld Z h9 a1 "com/example/vestry/vestry/Ints" "size" "I" (.int (0 : Int32)) := (Fld.other W9 (Fld.ext E3 F6) (Or.inr (slot_ne (Or.inl (hw _ (gw 20 rfl))) (Or.inl (hw _ (gw 13 rfl))) (by decide) (t := .int) (t' := (.array (.array .int))) (by decide) (by decide))))
  have f12 : Exa Z h9 b3 "[[I" := (Exa.wr W9 Ex3)
  have f13 : Arv Z h9 b3 k3 (.array .int) (1 : Int32) [] .null := (V3.other W9 (Ne.symm (Nat.ne_of_lt (Nat.lt_of_lt_of_le lt_a1 bd_b3))))
  refine ⟨_, _, pre0 _ ?_, hrun, hended, _, _, rfl, ?_, ⟨_, rfl⟩, hW, hsame.mono (by decide) (by decide)⟩
  · show Steps p.tables e below (s₁.setTop (mkF m 0 #[.val (.ref a1)] [])) _
    refine XS.aloadN X0.here hx rfl (hb hby d1_0) rfl rfl ?_
    show Steps p.tables e below (s₁.setTop (mkF m 1 #[.val (.ref a1)] [(.ref a1)])) _
    refine st2 _ ?_
    show Steps p.tables e below (T2.setTop (mkF m 4 #[.val (.ref a1)] [])) _
    refine XS.aloadN X2.here hx rfl (hb hby d1_4) rfl rfl ?_
    show Steps p.tables e below (T2.setTop (mkF m 5 #[.val (.ref a1)] [(.ref a1)])) _
    refine XS.iconst X2.here hx rfl (hb hby d1_5) ?_
    show Steps p.tables e below (T2.setTop (mkF m 6 #[.val (.ref a1)] [(.int (1 : Int32)), (.ref a1)])) _
    refine st3 _ ?_
    show Steps p.tables e below (T3.setTop (mkF m 9 #[.val (.ref a1)] [(.ref b3), (.ref a1)])) _
    refine st9 _ ?_
    show Steps p.tables e below (T9.setTop (mkF m 12 #[.val (.ref a1)] [])) _
    exact X9.returnOut hx Bd.returns (hb hby d1_12) hr
  · show Q1_2 Z _ h0 n0 _ T9.heap _
    rw [e9]
    exact ⟨b3, k3, rfl, N9, sz_b3, (Nat.lt_of_lt_of_le lt_b3 (Keep.of_wr W9).1), (((Keep.refl h0 [a1]).ext E3).wr W9 (Or.inl (List.mem_of_getElem? (i := 0) rfl))), f10, Fw9, f11, f12, f13, Ov3⟩
theorem ef_rm3_3 (m : MethodId) (x0 : Addr) (x1 : Int32) : entryFrame m #[(.ref x0), (.int x1)] 3 = mkF m 0 #[.val (.ref x0), .val (.int x1), .unset] [] := by first | (simp [entryFrame, mkF, argsToLocals, Value.category]; done) | rfl
def Q3_3 (Z : State) (a1 : Addr) (p2 : Int32) (a5 : Addr) (k8 : ClassId) (h0 : Heap) (n0 : Nat) (v : Option Value) (h : Heap) (L : List Loc) : Prop := (∃ (b14 : Addr) (k14 : ClassId), v = none ∧ Fr n0 L ∧ h0.size ≤ b14 ∧ b14 < h.size ∧ Keep h0 h [a5, a1] ∧ Exa Z h a5 "[[I" ∧ Arv Z h a5 k8 (.array .int) (1 : Int32) [(.ref b14)] .null ∧ OvrA Z k8 .int "[I" ∧ Exa Z h a1 "com/example/vestry/vestry/Ints" ∧ Fld Z h a1 "com/example/vestry/vestry/Ints" "blocks" "[[I" (.ref a5) ∧ Fld Z h a1 "com/example/vestry/vestry/Ints" "size" "I" (.int (1 : Int32)) ∧ Exa Z h b14 "[I" ∧ Arv Z h b14 k14 .int (4096 : Int32) [(.int p2)] (.int (0 : Int32)))
set_option maxRecDepth 65536 in
set_option maxHeartbeats 40000000 in
theorem rm3_3 (l : Launch) (Z : State) (a0 : Array Value) (hw : ∀ d ∈ own_ws, d.before a0 Z = true) (ws : List Jvm.Cond) (a1 : Addr) (p2 : Int32) (a5 : Addr) (k8 : ClassId) (h0 : Heap) (n0 : Nat) (O0 : Old Z n0 h0) (F3 : Fld Z h0 a1 "com/example/vestry/vestry/Ints" "size" "I" (.int (0 : Int32))) (F6 : Fld Z h0 a1 "com/example/vestry/vestry/Ints" "blocks" "[[I" (.ref a5)) (V9 : Arv Z h0 a5 k8 (.array .int) (1 : Int32) [] .null) (Ov18 : OvrA Z k8 .int "[I") (g_a5 : n0 ≤ a5) (E_20 : Exa Z h0 a5 "[[I") (hne21 : a1 ≠ a5) (lt_a5 : a5 < h0.size) (lt_a1 : a1 < h0.size) (E_33 : Exa Z h0 a1 "com/example/vestry/vestry/Ints") (g_a1 : n0 ≤ a1) :
    MetFree l M_1 (head1 (Jvm.Cond.code M_1 prog_60_method_3_code 3 none :: ws) ({ frames := 0, cells := 1, slots := 4096, locals := 0 } : Room)) (fun a U => a = #[(.ref a1), (.int p2)] ∧ Z.Warmed39 U.vm ∧ U.heap = h0) (fun _ _ _ _ _ => True) (fun _ U o U' => ∃ v L, o = .returned v ∧ Q3_3 Z a1 p2 a5 k8 h0 n0 v U'.heap L ∧ FrameEnd U o U' L ({ frames := 0, cells := 1, slots := 4096, locals := 0 } : Room).cells ({ frames := 0, cells := 1, slots := 4096, locals := 0 } : Room).slots) := by
  refine MetFree.of_bodySF (plainFor_of_name pn_0) hisR ?_
  intro p e s m args below meth c s₁ Bd hml0 hP hK
  obtain ⟨rfl, hZ, hh⟩ := hP
  have hx := Bd.exec
  have hby := Bd.bytes
  have hml : c.maxLocals = 3 := hml0
  have hown : s.vm.findClass "com/example/vestry/vestry/Ints" = some m.cls := findClass_of_methodNamed Bd.named
  have hnm := (name_of_methodNamed Bd.named Bd.method).1
  have X0 : Stand p l e ({ frames := 0, cells := 1, slots := 4096, locals := 0 } : Room) s m #[(.ref a1), (.int p2)] below meth c s₁ [] 0 0 := Stand.of_body Bd
  have e0 : s₁.heap = h0 := by rw [← hh, Bd.state]; rfl
  have N0 := Fr.nil n0
  have pre0 : ∀ t, Steps p.tables e below (s₁.setTop (mkF m 0 #[.val (.ref a1), .val (.int p2), .unset] [])) t → Steps p.tables e below (s₁.setTop (entryFrame m #[(.ref a1), (.int p2)] 3)) t := fun t k => castTop (ef_rm3_3 m a1 p2) k
  obtain ⟨T4, X4, e4, st4⟩ := getF X0 hx hZ hown (host := "") (Or.inl (hw _ (gw 19 rfl))) Via.refl e0 F3 (g := (mkF m 1 #[.val (.ref a1), .val (.int p2), .unset] [(.ref a1)])) rfl rfl (hb hby d3_1)
  obtain ⟨T7, X7, e7, st7⟩ := getF X4 hx hZ hown (host := "") (Or.inl (hw _ (gw 12 rfl))) Via.refl e4 F6 (g := (mkF m 10 #[.val (.ref a1), .val (.int p2), .val (.int (0 : Int32))] [(.ref a1), (.int (0 : Int32))])) rfl rfl (hb hby d3_10)
  obtain ⟨cl10, Ar10, -, Sz10, Nn10, -, -⟩ := id V9
  obtain ⟨T11, X11, e11, st11⟩ := getF X7 hx hZ hown (host := "") (Or.inl (hw _ (gw 12 rfl))) Via.refl e7 F6 (g := (mkF m 39 #[.val (.ref a1), .val (.int p2), .val (.int (0 : Int32))] [(.ref a1)])) rfl rfl (hb hby d3_39)
  obtain ⟨cl12, Ar12, -, Sz12, -, Hh12, -⟩ := id V9
  have hin12 : ¬ ((0 : Int32) < 0 ∨ cl12.slots.size ≤ ((0 : Int32)).toNatClampNeg) := inb_of Sz12 ⟨by decide +kernel, by decide +kernel⟩
  have hat12 : cl12.slots[((0 : Int32)).toNatClampNeg]? = some .null := Has.at Hh12 hin12 rfl
  obtain ⟨T13, X13, e13, st13⟩ := getF X11 hx hZ hown (host := "") (Or.inl (hw _ (gw 12 rfl))) Via.refl e11 F6 (g := (mkF m 48 #[.val (.ref a1), .val (.int p2), .val (.int (0 : Int32))] [(.ref a1)])) rfl rfl (hb hby d3_48)
  obtain ⟨T14, h14, k14, X14, e14, E14, A14, Ex14, st14⟩ := newPE X13 hx hZ (hw _ (gw 21 rfl)) e13 (g := (mkF m 55 #[.val (.ref a1), .val (.int p2), .val (.int (0 : Int32))] [(.int (4096 : Int32)), (.int (0 : Int32)), (.ref a5)])) rfl (hb hby d3_55) rfl (by decide +kernel) (cap := 4096) (by decide +kernel) (by decide) (by decide) (by decide) (ad := "[I") (by decide +kernel)
  obtain ⟨b14, g14⟩ : ∃ z, z = h0.size := ⟨_, rfl⟩
  rw [← g14] at A14 Ex14 st14
  have O14 : Old Z n0 h14 := O0.ext E14
  have bd_b14 : h0.size ≤ b14 := Nat.le_of_eq g14.symm
  have g_b14 : n0 ≤ b14 := Nat.le_trans (own_z O0) bd_b14
  have sz_b14 : h0.size ≤ b14 := Nat.le_trans (Nat.le_refl _) bd_b14
  have lt_b14 : b14 < h14.size := A14.lt
  have V14 : Arv Z h14 b14 k14 .int (4096 : Int32) [] (.int (0 : Int32)) := Arv.new A14 (by decide +kernel)
  have f15 : Arv Z h14 a5 k8 (.array .int) (1 : Int32) [] .null := (V9.ext E14)
  have Vp16 : Arv Z h14 a5 k8 (.array .int) (1 : Int32) [.null] .null := f15.pad (pad_rep [] .null 1)
  obtain ⟨cl17, Ar17, qk17, Sz17, Nn17, Hh17, Gg17⟩ := id Vp16
  have hin17 : ¬ ((0 : Int32) < 0 ∨ cl17.slots.size ≤ ((0 : Int32)).toNatClampNeg) := inb_of Sz17 ⟨by decide +kernel, by decide +kernel⟩
  obtain ⟨T19, h19, X19, e19, W19, st19⟩ := stR X14 hx hZ e14 Ar17 (j := (0 : Int32)) hin17 rfl (Sto.ofVA Ar17 qk17 Ov18 (Ins.self Ex14)) (g := (mkF m 57 #[.val (.ref a1), .val (.int p2), .val (.int (0 : Int32))] [(.ref b14), (.int (0 : Int32)), (.ref a5)])) rfl rfl (hb hby d3_57)
  have O19 : Old Z n0 h19 := O14.wr W19 g_a5
  have V19 : Arv Z h19 a5 k8 (.array .int) (1 : Int32) [(.ref b14)] .null := Arv.set Ar17 qk17 Sz17 Nn17 Hh17 Gg17 rfl W19 0 rfl (Nat.le_of_ble_eq_true rfl)
  have N19 := Fr.snoc X19 N0 g_a5
  have f22 : Fld Z h19 a1 "com/example/vestry/vestry/Ints" "blocks" "[[I" (.ref a5) := (Fld.other W19 (Fld.ext E14 F6) (Or.inl hne21))
  obtain ⟨T23, X23, e23, st23⟩ := getF X19 hx hZ hown (host := "") (Or.inl (hw _ (gw 12 rfl))) Via.refl e19 f22 (g := (mkF m 59 #[.val (.ref a1), .val (.int p2), .val (.int (0 : Int32))] [(.ref a1)])) rfl rfl (hb hby d3_59)
  obtain ⟨cl24, Ar24, -, Sz24, -, Hh24, -⟩ := id V19
  have hin24 : ¬ ((0 : Int32) < 0 ∨ cl24.slots.size ≤ ((0 : Int32)).toNatClampNeg) := inb_of Sz24 ⟨by decide +kernel, by decide +kernel⟩
  have hat24 : cl24.slots[((0 : Int32)).toNatClampNeg]? = some (.ref b14) := Has.at Hh24 hin24 rfl
  have f25 : Fld Z h19 a1 "com/example/vestry/vestry/Ints" "size" "I" (.int (0 : Int32)) := (Fld.other W19 (Fld.ext E14 F3) (Or.inl hne21))
  obtain ⟨T26, X26, e26, st26⟩ := getF X23 hx hZ hown (host := "") (Or.inl (hw _ (gw 19 rfl))) Via.refl e23 f25 (g := (mkF m 65 #[.val (.ref a1), .val (.int p2), .val (.int (0 : Int32))] [(.ref a1), (.ref b14)])) rfl rfl (hb hby d3_65)
  have f27 : Arv Z h19 b14 k14 .int (4096 : Int32) [] (.int (0 : Int32)) := (V14.other W19 (Ne.symm (Nat.ne_of_lt (Nat.lt_of_lt_of_le lt_a5 bd_b14))))
  have Vp28 : Arv Z h19 b14 k14 .int (4096 : Int32) [(.int (0 : Int32))] (.int (0 : Int32)) := f27.pad (pad_rep [] (.int (0 : Int32)) 1)
  obtain ⟨cl29, Ar29, qk29, Sz29, Nn29, Hh29, Gg29⟩ := id Vp28
  have hin29 : ¬ ((0 : Int32) < 0 ∨ cl29.slots.size ≤ ((0 : Int32)).toNatClampNeg) := inb_of Sz29 ⟨by decide +kernel, by decide +kernel⟩
  obtain ⟨T30, h30, X30, e30, W30, st30⟩ := stI X26 hx hZ e26 Ar29 (j := (0 : Int32)) hin29 (g := (mkF m 73 #[.val (.ref a1), .val (.int p2), .val (.int (0 : Int32))] [(.int p2), (.int (0 : Int32)), (.ref b14)])) rfl rfl (hb hby d3_73)
  have O30 : Old Z n0 h30 := O19.wr W30 g_b14
  have V30 : Arv Z h30 b14 k14 .int (4096 : Int32) [(.int p2)] (.int (0 : Int32)) := Arv.set Ar29 qk29 Sz29 Nn29 Hh29 Gg29 rfl W30 0 rfl (Nat.le_of_ble_eq_true rfl)
  have N30 := Fr.snoc X30 N19 g_b14
  have f31 : Fld Z h30 a1 "com/example/vestry/vestry/Ints" "size" "I" (.int (0 : Int32)) := (Fld.other W30 f25 (Or.inl (Nat.ne_of_lt (Nat.lt_of_lt_of_le lt_a1 bd_b14))))
  obtain ⟨T32, X32, e32, st32⟩ := getF X30 hx hZ hown (host := "") (Or.inl (hw _ (gw 19 rfl))) Via.refl e30 f31 (g := (mkF m 76 #[.val (.ref a1), .val (.int p2), .val (.int (0 : Int32))] [(.ref a1), (.ref a1)])) rfl rfl (hb hby d3_76)
  have f34 : Exa Z h30 a1 "com/example/vestry/vestry/Ints" := (Exa.wr W30 (Exa.wr W19 (Exa.ext E14 E_33)))
  obtain ⟨T35, h35, X35, e35, W35, st35⟩ := putF X32 hx hZ hown (host := "") (Or.inl (hw _ (gw 19 rfl))) Via.refl e32 f31 f34 (Or.inl (hw _ (gw 20 rfl))) (hw _ (gw 2 rfl)) (ty := .int) (by decide) rfl rfl (g := (mkF m 81 #[.val (.ref a1), .val (.int p2), .val (.int (0 : Int32))] [(.int (1 : Int32)), (.ref a1)])) rfl rfl (hb hby d3_81)
  have O35 : Old Z n0 h35 := O30.wr W35 g_a1
  have Fw35 : Fld Z h35 a1 "com/example/vestry/vestry/Ints" "size" "I" (.int (1 : Int32)) := Fld.same W35 f31
  have N35 := Fr.snoc X35 N30 g_a1
  obtain ⟨fs, hr, hrun, hended, hW, hsame⟩ := X35.leave (v := none) (fun _ => rfl)
  have f36 : Exa Z h35 a5 "[[I" := (Exa.wr W35 (Exa.wr W30 (Exa.wr W19 (Exa.ext E14 E_20))))
  have f37 : Arv Z h35 a5 k8 (.array .int) (1 : Int32) [(.ref b14)] .null := ((V19.other W30 (Nat.ne_of_lt (Nat.lt_of_lt_of_le lt_a5 bd_b14))).other W35 (Ne.symm hne21))
  have f38 : Exa Z h35 a1 "com/example/vestry/vestry/Ints" := (Exa.wr W35 f34)
  have f39 : Fld Z h35 a1 "com/example/vestry/vestry/Ints" "blocks" "[[I" (.ref a5) := (Fld.other W35 (Fld.other W30 f22 (Or.inl (Nat.ne_of_lt (Nat.lt_of_lt_of_le lt_a1 bd_b14)))) (Or.inr (slot_ne (Or.inl (hw _ (gw 13 rfl))) (Or.inl (hw _ (gw 20 rfl))) (by decide) (t := (.array (.array .int))) (t' := .int) (by decide) (by decide))))
  have f40 : Exa Z h35 b14 "[I" := (Exa.wr W35 (Exa.wr W30 (Exa.wr W19 Ex14)))
  have f41 : Arv Z h35 b14 k14 .int (4096 : Int32) [(.int p2)] (.int (0 : Int32)) := (V30.other W35 (Ne.symm (Nat.ne_of_lt (Nat.lt_of_lt_of_le lt_a1 bd_b14))))
  refine ⟨_, _, pre0 _ ?_, hrun, hended, _, _, rfl, ?_, ⟨_, rfl⟩, hW, hsame.mono (by decide) (by decide)⟩
  · show Steps p.tables e below (s₁.setTop (mkF m 0 #[.val (.ref a1), .val (.int p2), .unset] [])) _
    refine XS.aloadN X0.here hx rfl (hb hby d3_0) rfl rfl ?_
    show Steps p.tables e below (s₁.setTop (mkF m 1 #[.val (.ref a1), .val (.int p2), .unset] [(.ref a1)])) _
    refine st4 _ ?_
    show Steps p.tables e below (T4.setTop (mkF m 4 #[.val (.ref a1), .val (.int p2), .unset] [(.int (0 : Int32))])) _
    refine XS.bipush X4.here hx rfl (hb hby d3_4) ?_
    show Steps p.tables e below (T4.setTop (mkF m 6 #[.val (.ref a1), .val (.int p2), .unset] [(.int (12 : Int32)), (.int (0 : Int32))])) _
    refine XS.iushr X4.here hx rfl (hb hby d3_6) rfl ?_
    show Steps p.tables e below (T4.setTop (mkF m 7 #[.val (.ref a1), .val (.int p2), .unset] [(.int (((0 : Int32).toUInt32 >>> ((12 : Int32) &&& 31).toUInt32).toInt32))])) _
    rw [(by decide +kernel : (((0 : Int32).toUInt32 >>> ((12 : Int32) &&& 31).toUInt32).toInt32) = (0 : Int32))]
    show Steps p.tables e below (T4.setTop (mkF m 7 #[.val (.ref a1), .val (.int p2), .unset] [(.int (0 : Int32))])) _
    refine XS.istoreN X4.here hx rfl (hb hby d3_7) rfl (l' := #[.val (.ref a1), .val (.int p2), .val (.int (0 : Int32))]) rfl ?_
    show Steps p.tables e below (T4.setTop (mkF m 8 #[.val (.ref a1), .val (.int p2), .val (.int (0 : Int32))] [])) _
    refine XS.iloadN X4.here hx rfl (hb hby d3_8) rfl ?_
    show Steps p.tables e below (T4.setTop (mkF m 9 #[.val (.ref a1), .val (.int p2), .val (.int (0 : Int32))] [(.int (0 : Int32))])) _
    refine XS.aloadN X4.here hx rfl (hb hby d3_9) rfl rfl ?_
    show Steps p.tables e below (T4.setTop (mkF m 10 #[.val (.ref a1), .val (.int p2), .val (.int (0 : Int32))] [(.ref a1), (.int (0 : Int32))])) _
    refine st7 _ ?_
    show Steps p.tables e below (T7.setTop (mkF m 13 #[.val (.ref a1), .val (.int p2), .val (.int (0 : Int32))] [(.ref a5), (.int (0 : Int32))])) _
    refine X7.arraylength hx (by rw [e7]; exact Ar10.1) (State.isArrayOf_alike hZ.alike Ar10.2.1) (g := (mkF m 13 #[.val (.ref a1), .val (.int p2), .val (.int (0 : Int32))] [(.ref a5), (.int (0 : Int32))])) rfl rfl (hb hby d3_13) _ ?_
    rw [len_of Sz10 Nn10]
    show Steps p.tables e below (T7.setTop (mkF m 14 #[.val (.ref a1), .val (.int p2), .val (.int (0 : Int32))] [(.int (1 : Int32)), (.int (0 : Int32))])) _
    refine XS.icmpYes X7.here hx rfl (pc0 := 14) (pc' := 38) rfl (hb hby d3_14) rfl (feq (by decide +kernel : ¬ ((0 : Int32) = (1 : Int32)))).2 (by decide) (by decide) ?_
    show Steps p.tables e below (T7.setTop (mkF m 38 #[.val (.ref a1), .val (.int p2), .val (.int (0 : Int32))] [])) _
    refine XS.aloadN X7.here hx rfl (hb hby d3_38) rfl rfl ?_
    show Steps p.tables e below (T7.setTop (mkF m 39 #[.val (.ref a1), .val (.int p2), .val (.int (0 : Int32))] [(.ref a1)])) _
    refine st11 _ ?_
    show Steps p.tables e below (T11.setTop (mkF m 42 #[.val (.ref a1), .val (.int p2), .val (.int (0 : Int32))] [(.ref a5)])) _
    refine XS.iloadN X11.here hx rfl (hb hby d3_42) rfl ?_
    show Steps p.tables e below (T11.setTop (mkF m 43 #[.val (.ref a1), .val (.int p2), .val (.int (0 : Int32))] [(.int (0 : Int32)), (.ref a5)])) _
    refine X11.aaload hx (j := (0 : Int32)) (v := .null) (by rw [e11]; exact Ar12.1) (State.isArrayOf_alike hZ.alike Ar12.2.1) rfl Ar12.2.2 hin12 hat12 (g := (mkF m 43 #[.val (.ref a1), .val (.int p2), .val (.int (0 : Int32))] [(.int (0 : Int32)), (.ref a5)])) rfl rfl (hb hby d3_43) _ ?_
    show Steps p.tables e below (T11.setTop (mkF m 44 #[.val (.ref a1), .val (.int p2), .val (.int (0 : Int32))] [.null])) _
    refine XS.ifnonnullNo X11.here hx rfl (hb hby d3_44) rfl ?_
    show Steps p.tables e below (T11.setTop (mkF m 47 #[.val (.ref a1), .val (.int p2), .val (.int (0 : Int32))] [])) _
    refine XS.aloadN X11.here hx rfl (hb hby d3_47) rfl rfl ?_
    show Steps p.tables e below (T11.setTop (mkF m 48 #[.val (.ref a1), .val (.int p2), .val (.int (0 : Int32))] [(.ref a1)])) _
    refine st13 _ ?_
    show Steps p.tables e below (T13.setTop (mkF m 51 #[.val (.ref a1), .val (.int p2), .val (.int (0 : Int32))] [(.ref a5)])) _
    refine XS.iloadN X13.here hx rfl (hb hby d3_51) rfl ?_
    show Steps p.tables e below (T13.setTop (mkF m 52 #[.val (.ref a1), .val (.int p2), .val (.int (0 : Int32))] [(.int (0 : Int32)), (.ref a5)])) _
    refine XS.sipush X13.here hx rfl (hb hby d3_52) ?_
    show Steps p.tables e below (T13.setTop (mkF m 55 #[.val (.ref a1), .val (.int p2), .val (.int (0 : Int32))] [(.int (4096 : Int32)), (.int (0 : Int32)), (.ref a5)])) _
    refine st14 _ ?_
    show Steps p.tables e below (T14.setTop (mkF m 57 #[.val (.ref a1), .val (.int p2), .val (.int (0 : Int32))] [(.ref b14), (.int (0 : Int32)), (.ref a5)])) _
    refine st19 _ ?_
    show Steps p.tables e below (T19.setTop (mkF m 58 #[.val (.ref a1), .val (.int p2), .val (.int (0 : Int32))] [])) _
    refine XS.aloadN X19.here hx rfl (hb hby d3_58) rfl rfl ?_
    show Steps p.tables e below (T19.setTop (mkF m 59 #[.val (.ref a1), .val (.int p2), .val (.int (0 : Int32))] [(.ref a1)])) _
    refine st23 _ ?_
    show Steps p.tables e below (T23.setTop (mkF m 62 #[.val (.ref a1), .val (.int p2), .val (.int (0 : Int32))] [(.ref a5)])) _
    refine XS.iloadN X23.here hx rfl (hb hby d3_62) rfl ?_
    show Steps p.tables e below (T23.setTop (mkF m 63 #[.val (.ref a1), .val (.int p2), .val (.int (0 : Int32))] [(.int (0 : Int32)), (.ref a5)])) _
    refine X23.aaload hx (j := (0 : Int32)) (v := (.ref b14)) (by rw [e23]; exact Ar24.1) (State.isArrayOf_alike hZ.alike Ar24.2.1) rfl Ar24.2.2 hin24 hat24 (g := (mkF m 63 #[.val (.ref a1), .val (.int p2), .val (.int (0 : Int32))] [(.int (0 : Int32)), (.ref a5)])) rfl rfl (hb hby d3_63) _ ?_
    show Steps p.tables e below (T23.setTop (mkF m 64 #[.val (.ref a1), .val (.int p2), .val (.int (0 : Int32))] [(.ref b14)])) _
    refine XS.aloadN X23.here hx rfl (hb hby d3_64) rfl rfl ?_
    show Steps p.tables e below (T23.setTop (mkF m 65 #[.val (.ref a1), .val (.int p2), .val (.int (0 : Int32))] [(.ref a1), (.ref b14)])) _
    refine st26 _ ?_
    show Steps p.tables e below (T26.setTop (mkF m 68 #[.val (.ref a1), .val (.int p2), .val (.int (0 : Int32))] [(.int (0 : Int32)), (.ref b14)])) _
    refine XS.sipush X26.here hx rfl (hb hby d3_68) ?_
    show Steps p.tables e below (T26.setTop (mkF m 71 #[.val (.ref a1), .val (.int p2), .val (.int (0 : Int32))] [(.int (4095 : Int32)), (.int (0 : Int32)), (.ref b14)])) _
    refine XS.iand X26.here hx rfl (hb hby d3_71) rfl ?_
    show Steps p.tables e below (T26.setTop (mkF m 72 #[.val (.ref a1), .val (.int p2), .val (.int (0 : Int32))] [(.int ((0 : Int32) &&& (4095 : Int32))), (.ref b14)])) _
    rw [(by decide +kernel : ((0 : Int32) &&& (4095 : Int32)) = (0 : Int32))]
    show Steps p.tables e below (T26.setTop (mkF m 72 #[.val (.ref a1), .val (.int p2), .val (.int (0 : Int32))] [(.int (0 : Int32)), (.ref b14)])) _
    refine XS.iloadN X26.here hx rfl (hb hby d3_72) rfl ?_
    show Steps p.tables e below (T26.setTop (mkF m 73 #[.val (.ref a1), .val (.int p2), .val (.int (0 : Int32))] [(.int p2), (.int (0 : Int32)), (.ref b14)])) _
    refine st30 _ ?_
    show Steps p.tables e below (T30.setTop (mkF m 74 #[.val (.ref a1), .val (.int p2), .val (.int (0 : Int32))] [])) _
    refine XS.aloadN X30.here hx rfl (hb hby d3_74) rfl rfl ?_
    show Steps p.tables e below (T30.setTop (mkF m 75 #[.val (.ref a1), .val (.int p2), .val (.int (0 : Int32))] [(.ref a1)])) _
    refine XS.dup X30.here hx rfl (hb hby d3_75) rfl rfl ?_
    show Steps p.tables e below (T30.setTop (mkF m 76 #[.val (.ref a1), .val (.int p2), .val (.int (0 : Int32))] [(.ref a1), (.ref a1)])) _
    refine st32 _ ?_
    show Steps p.tables e below (T32.setTop (mkF m 79 #[.val (.ref a1), .val (.int p2), .val (.int (0 : Int32))] [(.int (0 : Int32)), (.ref a1)])) _
    refine XS.iconst X32.here hx rfl (hb hby d3_79) ?_
    show Steps p.tables e below (T32.setTop (mkF m 80 #[.val (.ref a1), .val (.int p2), .val (.int (0 : Int32))] [(.int (1 : Int32)), (.int (0 : Int32)), (.ref a1)])) _
    refine XS.iadd X32.here hx rfl (hb hby d3_80) rfl ?_
    show Steps p.tables e below (T32.setTop (mkF m 81 #[.val (.ref a1), .val (.int p2), .val (.int (0 : Int32))] [(.int ((0 : Int32) + (1 : Int32))), (.ref a1)])) _
    rw [(by decide +kernel : ((0 : Int32) + (1 : Int32)) = (1 : Int32))]
    show Steps p.tables e below (T32.setTop (mkF m 81 #[.val (.ref a1), .val (.int p2), .val (.int (0 : Int32))] [(.int (1 : Int32)), (.ref a1)])) _
    refine st35 _ ?_
    show Steps p.tables e below (T35.setTop (mkF m 84 #[.val (.ref a1), .val (.int p2), .val (.int (0 : Int32))] [])) _
    exact X35.returnOut hx Bd.returns (hb hby d3_84) hr
  · show Q3_3 Z _ _ _ _ h0 n0 _ T35.heap _
    rw [e35]
    exact ⟨b14, k14, rfl, N35, sz_b14, (Nat.lt_of_lt_of_le (Nat.lt_of_lt_of_le (Nat.lt_of_lt_of_le lt_b14 (Keep.of_wr W19).1) (Keep.of_wr W30).1) (Keep.of_wr W35).1), (((((Keep.refl h0 [a5, a1]).ext E14).wr W19 (Or.inl (List.mem_of_getElem? (i := 0) rfl))).wr W30 (Or.inr sz_b14)).wr W35 (Or.inl (List.mem_of_getElem? (i := 1) rfl))), f36, f37, Ov18, f38, f39, Fw35, f40, f41⟩
theorem ef_rm3_4 (m : MethodId) (x0 : Addr) (x1 : Int32) : entryFrame m #[(.ref x0), (.int x1)] 3 = mkF m 0 #[.val (.ref x0), .val (.int x1), .unset] [] := by first | (simp [entryFrame, mkF, argsToLocals, Value.category]; done) | rfl
def Q3_4 (Z : State) (a1 : Addr) (p2 : Int32) (a5 : Addr) (a8 : Addr) (k9 : ClassId) (p17 : Int32) (k18 : ClassId) (h0 : Heap) (n0 : Nat) (v : Option Value) (h : Heap) (L : List Loc) : Prop := (v = none ∧ Fr n0 L ∧ Keep h0 h [a8, a1] ∧ Exa Z h a8 "[I" ∧ Arv Z h a8 k18 .int (4096 : Int32) [(.int p17), (.int p2)] (.int (0 : Int32)) ∧ Exa Z h a1 "com/example/vestry/vestry/Ints" ∧ Fld Z h a1 "com/example/vestry/vestry/Ints" "blocks" "[[I" (.ref a5) ∧ Fld Z h a1 "com/example/vestry/vestry/Ints" "size" "I" (.int (2 : Int32)))
set_option maxRecDepth 65536 in
set_option maxHeartbeats 40000000 in
theorem rm3_4 (l : Launch) (Z : State) (a0 : Array Value) (hw : ∀ d ∈ own_ws, d.before a0 Z = true) (ws : List Jvm.Cond) (a1 : Addr) (p2 : Int32) (a5 : Addr) (a8 : Addr) (k9 : ClassId) (p17 : Int32) (k18 : ClassId) (h0 : Heap) (n0 : Nat) (O0 : Old Z n0 h0) (F3 : Fld Z h0 a1 "com/example/vestry/vestry/Ints" "size" "I" (.int (1 : Int32))) (F6 : Fld Z h0 a1 "com/example/vestry/vestry/Ints" "blocks" "[[I" (.ref a5)) (V10 : Arv Z h0 a5 k9 (.array .int) (1 : Int32) [(.ref a8)] .null) (V19 : Arv Z h0 a8 k18 .int (4096 : Int32) [(.int p17)] (.int (0 : Int32))) (g_a8 : n0 ≤ a8) (E_23 : Exa Z h0 a8 "[I") (hne24 : a1 ≠ a8) (E_27 : Exa Z h0 a1 "com/example/vestry/vestry/Ints") (g_a1 : n0 ≤ a1) :
    MetFree l M_1 (head1 (Jvm.Cond.code M_1 prog_60_method_3_code 3 none :: ws) ({ frames := 0, cells := 0, slots := 0, locals := 0 } : Room)) (fun a U => a = #[(.ref a1), (.int p2)] ∧ Z.Warmed39 U.vm ∧ U.heap = h0) (fun _ _ _ _ _ => True) (fun _ U o U' => ∃ v L, o = .returned v ∧ Q3_4 Z a1 p2 a5 a8 k9 p17 k18 h0 n0 v U'.heap L ∧ FrameEnd U o U' L ({ frames := 0, cells := 0, slots := 0, locals := 0 } : Room).cells ({ frames := 0, cells := 0, slots := 0, locals := 0 } : Room).slots) := by
  refine MetFree.of_bodySF (plainFor_of_name pn_0) hisR ?_
  intro p e s m args below meth c s₁ Bd hml0 hP hK
  obtain ⟨rfl, hZ, hh⟩ := hP
  have hx := Bd.exec
  have hby := Bd.bytes
  have hml : c.maxLocals = 3 := hml0
  have hown : s.vm.findClass "com/example/vestry/vestry/Ints" = some m.cls := findClass_of_methodNamed Bd.named
  have hnm := (name_of_methodNamed Bd.named Bd.method).1
  have X0 : Stand p l e ({ frames := 0, cells := 0, slots := 0, locals := 0 } : Room) s m #[(.ref a1), (.int p2)] below meth c s₁ [] 0 0 := Stand.of_body Bd
  have e0 : s₁.heap = h0 := by rw [← hh, Bd.state]; rfl
  have N0 := Fr.nil n0
  have pre0 : ∀ t, Steps p.tables e below (s₁.setTop (mkF m 0 #[.val (.ref a1), .val (.int p2), .unset] [])) t → Steps p.tables e below (s₁.setTop (entryFrame m #[(.ref a1), (.int p2)] 3)) t := fun t k => castTop (ef_rm3_4 m a1 p2) k
  obtain ⟨T4, X4, e4, st4⟩ := getF X0 hx hZ hown (host := "") (Or.inl (hw _ (gw 19 rfl))) Via.refl e0 F3 (g := (mkF m 1 #[.val (.ref a1), .val (.int p2), .unset] [(.ref a1)])) rfl rfl (hb hby d3_1)
  obtain ⟨T7, X7, e7, st7⟩ := getF X4 hx hZ hown (host := "") (Or.inl (hw _ (gw 12 rfl))) Via.refl e4 F6 (g := (mkF m 10 #[.val (.ref a1), .val (.int p2), .val (.int (0 : Int32))] [(.ref a1), (.int (0 : Int32))])) rfl rfl (hb hby d3_10)
  obtain ⟨cl11, Ar11, -, Sz11, Nn11, -, -⟩ := id V10
  obtain ⟨T12, X12, e12, st12⟩ := getF X7 hx hZ hown (host := "") (Or.inl (hw _ (gw 12 rfl))) Via.refl e7 F6 (g := (mkF m 39 #[.val (.ref a1), .val (.int p2), .val (.int (0 : Int32))] [(.ref a1)])) rfl rfl (hb hby d3_39)
  obtain ⟨cl13, Ar13, -, Sz13, -, Hh13, -⟩ := id V10
  have hin13 : ¬ ((0 : Int32) < 0 ∨ cl13.slots.size ≤ ((0 : Int32)).toNatClampNeg) := inb_of Sz13 ⟨by decide +kernel, by decide +kernel⟩
  have hat13 : cl13.slots[((0 : Int32)).toNatClampNeg]? = some (.ref a8) := Has.at Hh13 hin13 rfl
  obtain ⟨T14, X14, e14, st14⟩ := getF X12 hx hZ hown (host := "") (Or.inl (hw _ (gw 12 rfl))) Via.refl e12 F6 (g := (mkF m 59 #[.val (.ref a1), .val (.int p2), .val (.int (0 : Int32))] [(.ref a1)])) rfl rfl (hb hby d3_59)
  obtain ⟨cl15, Ar15, -, Sz15, -, Hh15, -⟩ := id V10
  have hin15 : ¬ ((0 : Int32) < 0 ∨ cl15.slots.size ≤ ((0 : Int32)).toNatClampNeg) := inb_of Sz15 ⟨by decide +kernel, by decide +kernel⟩
  have hat15 : cl15.slots[((0 : Int32)).toNatClampNeg]? = some (.ref a8) := Has.at Hh15 hin15 rfl
  obtain ⟨T16, X16, e16, st16⟩ := getF X14 hx hZ hown (host := "") (Or.inl (hw _ (gw 19 rfl))) Via.refl e14 F3 (g := (mkF m 65 #[.val (.ref a1), .val (.int p2), .val (.int (0 : Int32))] [(.ref a1), (.ref a8)])) rfl rfl (hb hby d3_65)
  have Vp20 : Arv Z h0 a8 k18 .int (4096 : Int32) [(.int p17), (.int (0 : Int32))] (.int (0 : Int32)) := V19.pad (pad_rep [(.int p17)] (.int (0 : Int32)) 1)
  obtain ⟨cl21, Ar21, qk21, Sz21, Nn21, Hh21, Gg21⟩ := id Vp20
  have hin21 : ¬ ((1 : Int32) < 0 ∨ cl21.slots.size ≤ ((1 : Int32)).toNatClampNeg) := inb_of Sz21 ⟨by decide +kernel, by decide +kernel⟩
  obtain ⟨T22, h22, X22, e22, W22, st22⟩ := stI X16 hx hZ e16 Ar21 (j := (1 : Int32)) hin21 (g := (mkF m 73 #[.val (.ref a1), .val (.int p2), .val (.int (0 : Int32))] [(.int p2), (.int (1 : Int32)), (.ref a8)])) rfl rfl (hb hby d3_73)
  have O22 : Old Z n0 h22 := O0.wr W22 g_a8
  have V22 : Arv Z h22 a8 k18 .int (4096 : Int32) [(.int p17), (.int p2)] (.int (0 : Int32)) := Arv.set Ar21 qk21 Sz21 Nn21 Hh21 Gg21 rfl W22 1 rfl (Nat.le_of_ble_eq_true rfl)
  have N22 := Fr.snoc X22 N0 g_a8
  have f25 : Fld Z h22 a1 "com/example/vestry/vestry/Ints" "size" "I" (.int (1 : Int32)) := (Fld.other W22 F3 (Or.inl hne24))
  obtain ⟨T26, X26, e26, st26⟩ := getF X22 hx hZ hown (host := "") (Or.inl (hw _ (gw 19 rfl))) Via.refl e22 f25 (g := (mkF m 76 #[.val (.ref a1), .val (.int p2), .val (.int (0 : Int32))] [(.ref a1), (.ref a1)])) rfl rfl (hb hby d3_76)
  have f28 : Exa Z h22 a1 "com/example/vestry/vestry/Ints" := (Exa.wr W22 E_27)
  obtain ⟨T29, h29, X29, e29, W29, st29⟩ := putF X26 hx hZ hown (host := "") (Or.inl (hw _ (gw 19 rfl))) Via.refl e26 f25 f28 (Or.inl (hw _ (gw 20 rfl))) (hw _ (gw 2 rfl)) (ty := .int) (by decide) rfl rfl (g := (mkF m 81 #[.val (.ref a1), .val (.int p2), .val (.int (0 : Int32))] [(.int (2 : Int32)), (.ref a1)])) rfl rfl (hb hby d3_81)
  have O29 : Old Z n0 h29 := O22.wr W29 g_a1
  have Fw29 : Fld Z h29 a1 "com/example/vestry/vestry/Ints" "size" "I" (.int (2 : Int32)) := Fld.same W29 f25
  have N29 := Fr.snoc X29 N22 g_a1
  obtain ⟨fs, hr, hrun, hended, hW, hsame⟩ := X29.leave (v := none) (fun _ => rfl)
  have f30 : Exa Z h29 a8 "[I" := (Exa.wr W29 (Exa.wr W22 E_23))
  have f31 : Arv Z h29 a8 k18 .int (4096 : Int32) [(.int p17), (.int p2)] (.int (0 : Int32)) := (V22.other W29 (Ne.symm hne24))
  have f32 : Exa Z h29 a1 "com/example/vestry/vestry/Ints" := (Exa.wr W29 f28)
  have f33 : Fld Z h29 a1 "com/example/vestry/vestry/Ints" "blocks" "[[I" (.ref a5) := (Fld.other W29 (Fld.other W22 F6 (Or.inl hne24)) (Or.inr (slot_ne (Or.inl (hw _ (gw 13 rfl))) (Or.inl (hw _ (gw 20 rfl))) (by decide) (t := (.array (.array .int))) (t' := .int) (by decide) (by decide))))
  refine ⟨_, _, pre0 _ ?_, hrun, hended, _, _, rfl, ?_, ⟨_, rfl⟩, hW, hsame.mono (by decide) (by decide)⟩
  · show Steps p.tables e below (s₁.setTop (mkF m 0 #[.val (.ref a1), .val (.int p2), .unset] [])) _
    refine XS.aloadN X0.here hx rfl (hb hby d3_0) rfl rfl ?_
    show Steps p.tables e below (s₁.setTop (mkF m 1 #[.val (.ref a1), .val (.int p2), .unset] [(.ref a1)])) _
    refine st4 _ ?_
    show Steps p.tables e below (T4.setTop (mkF m 4 #[.val (.ref a1), .val (.int p2), .unset] [(.int (1 : Int32))])) _
    refine XS.bipush X4.here hx rfl (hb hby d3_4) ?_
    show Steps p.tables e below (T4.setTop (mkF m 6 #[.val (.ref a1), .val (.int p2), .unset] [(.int (12 : Int32)), (.int (1 : Int32))])) _
    refine XS.iushr X4.here hx rfl (hb hby d3_6) rfl ?_
    show Steps p.tables e below (T4.setTop (mkF m 7 #[.val (.ref a1), .val (.int p2), .unset] [(.int (((1 : Int32).toUInt32 >>> ((12 : Int32) &&& 31).toUInt32).toInt32))])) _
    rw [(by decide +kernel : (((1 : Int32).toUInt32 >>> ((12 : Int32) &&& 31).toUInt32).toInt32) = (0 : Int32))]
    show Steps p.tables e below (T4.setTop (mkF m 7 #[.val (.ref a1), .val (.int p2), .unset] [(.int (0 : Int32))])) _
    refine XS.istoreN X4.here hx rfl (hb hby d3_7) rfl (l' := #[.val (.ref a1), .val (.int p2), .val (.int (0 : Int32))]) rfl ?_
    show Steps p.tables e below (T4.setTop (mkF m 8 #[.val (.ref a1), .val (.int p2), .val (.int (0 : Int32))] [])) _
    refine XS.iloadN X4.here hx rfl (hb hby d3_8) rfl ?_
    show Steps p.tables e below (T4.setTop (mkF m 9 #[.val (.ref a1), .val (.int p2), .val (.int (0 : Int32))] [(.int (0 : Int32))])) _
    refine XS.aloadN X4.here hx rfl (hb hby d3_9) rfl rfl ?_
    show Steps p.tables e below (T4.setTop (mkF m 10 #[.val (.ref a1), .val (.int p2), .val (.int (0 : Int32))] [(.ref a1), (.int (0 : Int32))])) _
    refine st7 _ ?_
    show Steps p.tables e below (T7.setTop (mkF m 13 #[.val (.ref a1), .val (.int p2), .val (.int (0 : Int32))] [(.ref a5), (.int (0 : Int32))])) _
    refine X7.arraylength hx (by rw [e7]; exact Ar11.1) (State.isArrayOf_alike hZ.alike Ar11.2.1) (g := (mkF m 13 #[.val (.ref a1), .val (.int p2), .val (.int (0 : Int32))] [(.ref a5), (.int (0 : Int32))])) rfl rfl (hb hby d3_13) _ ?_
    rw [len_of Sz11 Nn11]
    show Steps p.tables e below (T7.setTop (mkF m 14 #[.val (.ref a1), .val (.int p2), .val (.int (0 : Int32))] [(.int (1 : Int32)), (.int (0 : Int32))])) _
    refine XS.icmpYes X7.here hx rfl (pc0 := 14) (pc' := 38) rfl (hb hby d3_14) rfl (feq (by decide +kernel : ¬ ((0 : Int32) = (1 : Int32)))).2 (by decide) (by decide) ?_
    show Steps p.tables e below (T7.setTop (mkF m 38 #[.val (.ref a1), .val (.int p2), .val (.int (0 : Int32))] [])) _
    refine XS.aloadN X7.here hx rfl (hb hby d3_38) rfl rfl ?_
    show Steps p.tables e below (T7.setTop (mkF m 39 #[.val (.ref a1), .val (.int p2), .val (.int (0 : Int32))] [(.ref a1)])) _
    refine st12 _ ?_
    show Steps p.tables e below (T12.setTop (mkF m 42 #[.val (.ref a1), .val (.int p2), .val (.int (0 : Int32))] [(.ref a5)])) _
    refine XS.iloadN X12.here hx rfl (hb hby d3_42) rfl ?_
    show Steps p.tables e below (T12.setTop (mkF m 43 #[.val (.ref a1), .val (.int p2), .val (.int (0 : Int32))] [(.int (0 : Int32)), (.ref a5)])) _
    refine X12.aaload hx (j := (0 : Int32)) (v := (.ref a8)) (by rw [e12]; exact Ar13.1) (State.isArrayOf_alike hZ.alike Ar13.2.1) rfl Ar13.2.2 hin13 hat13 (g := (mkF m 43 #[.val (.ref a1), .val (.int p2), .val (.int (0 : Int32))] [(.int (0 : Int32)), (.ref a5)])) rfl rfl (hb hby d3_43) _ ?_
    show Steps p.tables e below (T12.setTop (mkF m 44 #[.val (.ref a1), .val (.int p2), .val (.int (0 : Int32))] [(.ref a8)])) _
    refine XS.ifnonnullYes X12.here hx rfl (pc0 := 44) (pc' := 58) rfl (hb hby d3_44) rfl (by decide) (by decide) ?_
    show Steps p.tables e below (T12.setTop (mkF m 58 #[.val (.ref a1), .val (.int p2), .val (.int (0 : Int32))] [])) _
    refine XS.aloadN X12.here hx rfl (hb hby d3_58) rfl rfl ?_
    show Steps p.tables e below (T12.setTop (mkF m 59 #[.val (.ref a1), .val (.int p2), .val (.int (0 : Int32))] [(.ref a1)])) _
    refine st14 _ ?_
    show Steps p.tables e below (T14.setTop (mkF m 62 #[.val (.ref a1), .val (.int p2), .val (.int (0 : Int32))] [(.ref a5)])) _
    refine XS.iloadN X14.here hx rfl (hb hby d3_62) rfl ?_
    show Steps p.tables e below (T14.setTop (mkF m 63 #[.val (.ref a1), .val (.int p2), .val (.int (0 : Int32))] [(.int (0 : Int32)), (.ref a5)])) _
    refine X14.aaload hx (j := (0 : Int32)) (v := (.ref a8)) (by rw [e14]; exact Ar15.1) (State.isArrayOf_alike hZ.alike Ar15.2.1) rfl Ar15.2.2 hin15 hat15 (g := (mkF m 63 #[.val (.ref a1), .val (.int p2), .val (.int (0 : Int32))] [(.int (0 : Int32)), (.ref a5)])) rfl rfl (hb hby d3_63) _ ?_
    show Steps p.tables e below (T14.setTop (mkF m 64 #[.val (.ref a1), .val (.int p2), .val (.int (0 : Int32))] [(.ref a8)])) _
    refine XS.aloadN X14.here hx rfl (hb hby d3_64) rfl rfl ?_
    show Steps p.tables e below (T14.setTop (mkF m 65 #[.val (.ref a1), .val (.int p2), .val (.int (0 : Int32))] [(.ref a1), (.ref a8)])) _
    refine st16 _ ?_
    show Steps p.tables e below (T16.setTop (mkF m 68 #[.val (.ref a1), .val (.int p2), .val (.int (0 : Int32))] [(.int (1 : Int32)), (.ref a8)])) _
    refine XS.sipush X16.here hx rfl (hb hby d3_68) ?_
    show Steps p.tables e below (T16.setTop (mkF m 71 #[.val (.ref a1), .val (.int p2), .val (.int (0 : Int32))] [(.int (4095 : Int32)), (.int (1 : Int32)), (.ref a8)])) _
    refine XS.iand X16.here hx rfl (hb hby d3_71) rfl ?_
    show Steps p.tables e below (T16.setTop (mkF m 72 #[.val (.ref a1), .val (.int p2), .val (.int (0 : Int32))] [(.int ((1 : Int32) &&& (4095 : Int32))), (.ref a8)])) _
    rw [(by decide +kernel : ((1 : Int32) &&& (4095 : Int32)) = (1 : Int32))]
    show Steps p.tables e below (T16.setTop (mkF m 72 #[.val (.ref a1), .val (.int p2), .val (.int (0 : Int32))] [(.int (1 : Int32)), (.ref a8)])) _
    refine XS.iloadN X16.here hx rfl (hb hby d3_72) rfl ?_
    show Steps p.tables e below (T16.setTop (mkF m 73 #[.val (.ref a1), .val (.int p2), .val (.int (0 : Int32))] [(.int p2), (.int (1 : Int32)), (.ref a8)])) _
    refine st22 _ ?_
    show Steps p.tables e below (T22.setTop (mkF m 74 #[.val (.ref a1), .val (.int p2), .val (.int (0 : Int32))] [])) _
    refine XS.aloadN X22.here hx rfl (hb hby d3_74) rfl rfl ?_
    show Steps p.tables e below (T22.setTop (mkF m 75 #[.val (.ref a1), .val (.int p2), .val (.int (0 : Int32))] [(.ref a1)])) _
    refine XS.dup X22.here hx rfl (hb hby d3_75) rfl rfl ?_
    show Steps p.tables e below (T22.setTop (mkF m 76 #[.val (.ref a1), .val (.int p2), .val (.int (0 : Int32))] [(.ref a1), (.ref a1)])) _
    refine st26 _ ?_
    show Steps p.tables e below (T26.setTop (mkF m 79 #[.val (.ref a1), .val (.int p2), .val (.int (0 : Int32))] [(.int (1 : Int32)), (.ref a1)])) _
    refine XS.iconst X26.here hx rfl (hb hby d3_79) ?_
    show Steps p.tables e below (T26.setTop (mkF m 80 #[.val (.ref a1), .val (.int p2), .val (.int (0 : Int32))] [(.int (1 : Int32)), (.int (1 : Int32)), (.ref a1)])) _
    refine XS.iadd X26.here hx rfl (hb hby d3_80) rfl ?_
    show Steps p.tables e below (T26.setTop (mkF m 81 #[.val (.ref a1), .val (.int p2), .val (.int (0 : Int32))] [(.int ((1 : Int32) + (1 : Int32))), (.ref a1)])) _
    rw [(by decide +kernel : ((1 : Int32) + (1 : Int32)) = (2 : Int32))]
    show Steps p.tables e below (T26.setTop (mkF m 81 #[.val (.ref a1), .val (.int p2), .val (.int (0 : Int32))] [(.int (2 : Int32)), (.ref a1)])) _
    refine st29 _ ?_
    show Steps p.tables e below (T29.setTop (mkF m 84 #[.val (.ref a1), .val (.int p2), .val (.int (0 : Int32))] [])) _
    exact X29.returnOut hx Bd.returns (hb hby d3_84) hr
  · show Q3_4 Z _ _ _ _ _ _ _ h0 n0 _ T29.heap _
    rw [e29]
    exact ⟨rfl, N29, (((Keep.refl h0 [a8, a1]).wr W22 (Or.inl (List.mem_of_getElem? (i := 0) rfl))).wr W29 (Or.inl (List.mem_of_getElem? (i := 1) rfl))), f30, f31, f32, f33, Fw29⟩
theorem ef_rm3_5 (m : MethodId) (x0 : Addr) (x1 : Int32) : entryFrame m #[(.ref x0), (.int x1)] 3 = mkF m 0 #[.val (.ref x0), .val (.int x1), .unset] [] := by first | (simp [entryFrame, mkF, argsToLocals, Value.category]; done) | rfl
def Q3_5 (Z : State) (a1 : Addr) (p2 : Int32) (a5 : Addr) (a8 : Addr) (k9 : ClassId) (p17 : Int32) (p18 : Int32) (k19 : ClassId) (h0 : Heap) (n0 : Nat) (v : Option Value) (h : Heap) (L : List Loc) : Prop := (v = none ∧ Fr n0 L ∧ Keep h0 h [a8, a1] ∧ Exa Z h a8 "[I" ∧ Arv Z h a8 k19 .int (4096 : Int32) [(.int p17), (.int p18), (.int p2)] (.int (0 : Int32)) ∧ Exa Z h a1 "com/example/vestry/vestry/Ints" ∧ Fld Z h a1 "com/example/vestry/vestry/Ints" "blocks" "[[I" (.ref a5) ∧ Fld Z h a1 "com/example/vestry/vestry/Ints" "size" "I" (.int (3 : Int32)))
set_option maxRecDepth 65536 in
set_option maxHeartbeats 40000000 in
theorem rm3_5 (l : Launch) (Z : State) (a0 : Array Value) (hw : ∀ d ∈ own_ws, d.before a0 Z = true) (ws : List Jvm.Cond) (a1 : Addr) (p2 : Int32) (a5 : Addr) (a8 : Addr) (k9 : ClassId) (p17 : Int32) (p18 : Int32) (k19 : ClassId) (h0 : Heap) (n0 : Nat) (O0 : Old Z n0 h0) (F3 : Fld Z h0 a1 "com/example/vestry/vestry/Ints" "size" "I" (.int (2 : Int32))) (F6 : Fld Z h0 a1 "com/example/vestry/vestry/Ints" "blocks" "[[I" (.ref a5)) (V10 : Arv Z h0 a5 k9 (.array .int) (1 : Int32) [(.ref a8)] .null) (V20 : Arv Z h0 a8 k19 .int (4096 : Int32) [(.int p17), (.int p18)] (.int (0 : Int32))) (g_a8 : n0 ≤ a8) (E_24 : Exa Z h0 a8 "[I") (hne25 : a1 ≠ a8) (E_28 : Exa Z h0 a1 "com/example/vestry/vestry/Ints") (g_a1 : n0 ≤ a1) :
    MetFree l M_1 (head1 (Jvm.Cond.code M_1 prog_60_method_3_code 3 none :: ws) ({ frames := 0, cells := 0, slots := 0, locals := 0 } : Room)) (fun a U => a = #[(.ref a1), (.int p2)] ∧ Z.Warmed39 U.vm ∧ U.heap = h0) (fun _ _ _ _ _ => True) (fun _ U o U' => ∃ v L, o = .returned v ∧ Q3_5 Z a1 p2 a5 a8 k9 p17 p18 k19 h0 n0 v U'.heap L ∧ FrameEnd U o U' L ({ frames := 0, cells := 0, slots := 0, locals := 0 } : Room).cells ({ frames := 0, cells := 0, slots := 0, locals := 0 } : Room).slots) := by
  refine MetFree.of_bodySF (plainFor_of_name pn_0) hisR ?_
  intro p e s m args below meth c s₁ Bd hml0 hP hK
  obtain ⟨rfl, hZ, hh⟩ := hP
  have hx := Bd.exec
  have hby := Bd.bytes
  have hml : c.maxLocals = 3 := hml0
  have hown : s.vm.findClass "com/example/vestry/vestry/Ints" = some m.cls := findClass_of_methodNamed Bd.named
  have hnm := (name_of_methodNamed Bd.named Bd.method).1
  have X0 : Stand p l e ({ frames := 0, cells := 0, slots := 0, locals := 0 } : Room) s m #[(.ref a1), (.int p2)] below meth c s₁ [] 0 0 := Stand.of_body Bd
  have e0 : s₁.heap = h0 := by rw [← hh, Bd.state]; rfl
  have N0 := Fr.nil n0
  have pre0 : ∀ t, Steps p.tables e below (s₁.setTop (mkF m 0 #[.val (.ref a1), .val (.int p2), .unset] [])) t → Steps p.tables e below (s₁.setTop (entryFrame m #[(.ref a1), (.int p2)] 3)) t := fun t k => castTop (ef_rm3_5 m a1 p2) k
  obtain ⟨T4, X4, e4, st4⟩ := getF X0 hx hZ hown (host := "") (Or.inl (hw _ (gw 19 rfl))) Via.refl e0 F3 (g := (mkF m 1 #[.val (.ref a1), .val (.int p2), .unset] [(.ref a1)])) rfl rfl (hb hby d3_1)
  obtain ⟨T7, X7, e7, st7⟩ := getF X4 hx hZ hown (host := "") (Or.inl (hw _ (gw 12 rfl))) Via.refl e4 F6 (g := (mkF m 10 #[.val (.ref a1), .val (.int p2), .val (.int (0 : Int32))] [(.ref a1), (.int (0 : Int32))])) rfl rfl (hb hby d3_10)
  obtain ⟨cl11, Ar11, -, Sz11, Nn11, -, -⟩ := id V10
  obtain ⟨T12, X12, e12, st12⟩ := getF X7 hx hZ hown (host := "") (Or.inl (hw _ (gw 12 rfl))) Via.refl e7 F6 (g := (mkF m 39 #[.val (.ref a1), .val (.int p2), .val (.int (0 : Int32))] [(.ref a1)])) rfl rfl (hb hby d3_39)
  obtain ⟨cl13, Ar13, -, Sz13, -, Hh13, -⟩ := id V10
  have hin13 : ¬ ((0 : Int32) < 0 ∨ cl13.slots.size ≤ ((0 : Int32)).toNatClampNeg) := inb_of Sz13 ⟨by decide +kernel, by decide +kernel⟩
  have hat13 : cl13.slots[((0 : Int32)).toNatClampNeg]? = some (.ref a8) := Has.at Hh13 hin13 rfl
  obtain ⟨T14, X14, e14, st14⟩ := getF X12 hx hZ hown (host := "") (Or.inl (hw _ (gw 12 rfl))) Via.refl e12 F6 (g := (mkF m 59 #[.val (.ref a1), .val (.int p2), .val (.int (0 : Int32))] [(.ref a1)])) rfl rfl (hb hby d3_59)
  obtain ⟨cl15, Ar15, -, Sz15, -, Hh15, -⟩ := id V10
  have hin15 : ¬ ((0 : Int32) < 0 ∨ cl15.slots.size ≤ ((0 : Int32)).toNatClampNeg) := inb_of Sz15 ⟨by decide +kernel, by decide +kernel⟩
  have hat15 : cl15.slots[((0 : Int32)).toNatClampNeg]? = some (.ref a8) := Has.at Hh15 hin15 rfl
  obtain ⟨T16, X16, e16, st16⟩ := getF X14 hx hZ hown (host := "") (Or.inl (hw _ (gw 19 rfl))) Via.refl e14 F3 (g := (mkF m 65 #[.val (.ref a1), .val (.int p2), .val (.int (0 : Int32))] [(.ref a1), (.ref a8)])) rfl rfl (hb hby d3_65)
  have Vp21 : Arv Z h0 a8 k19 .int (4096 : Int32) [(.int p17), (.int p18), (.int (0 : Int32))] (.int (0 : Int32)) := V20.pad (pad_rep [(.int p17), (.int p18)] (.int (0 : Int32)) 1)
  obtain ⟨cl22, Ar22, qk22, Sz22, Nn22, Hh22, Gg22⟩ := id Vp21
  have hin22 : ¬ ((2 : Int32) < 0 ∨ cl22.slots.size ≤ ((2 : Int32)).toNatClampNeg) := inb_of Sz22 ⟨by decide +kernel, by decide +kernel⟩
  obtain ⟨T23, h23, X23, e23, W23, st23⟩ := stI X16 hx hZ e16 Ar22 (j := (2 : Int32)) hin22 (g := (mkF m 73 #[.val (.ref a1), .val (.int p2), .val (.int (0 : Int32))] [(.int p2), (.int (2 : Int32)), (.ref a8)])) rfl rfl (hb hby d3_73)
  have O23 : Old Z n0 h23 := O0.wr W23 g_a8
  have V23 : Arv Z h23 a8 k19 .int (4096 : Int32) [(.int p17), (.int p18), (.int p2)] (.int (0 : Int32)) := Arv.set Ar22 qk22 Sz22 Nn22 Hh22 Gg22 rfl W23 2 rfl (Nat.le_of_ble_eq_true rfl)
  have N23 := Fr.snoc X23 N0 g_a8
  have f26 : Fld Z h23 a1 "com/example/vestry/vestry/Ints" "size" "I" (.int (2 : Int32)) := (Fld.other W23 F3 (Or.inl hne25))
  obtain ⟨T27, X27, e27, st27⟩ := getF X23 hx hZ hown (host := "") (Or.inl (hw _ (gw 19 rfl))) Via.refl e23 f26 (g := (mkF m 76 #[.val (.ref a1), .val (.int p2), .val (.int (0 : Int32))] [(.ref a1), (.ref a1)])) rfl rfl (hb hby d3_76)
  have f29 : Exa Z h23 a1 "com/example/vestry/vestry/Ints" := (Exa.wr W23 E_28)
  obtain ⟨T30, h30, X30, e30, W30, st30⟩ := putF X27 hx hZ hown (host := "") (Or.inl (hw _ (gw 19 rfl))) Via.refl e27 f26 f29 (Or.inl (hw _ (gw 20 rfl))) (hw _ (gw 2 rfl)) (ty := .int) (by decide) rfl rfl (g := (mkF m 81 #[.val (.ref a1), .val (.int p2), .val (.int (0 : Int32))] [(.int (3 : Int32)), (.ref a1)])) rfl rfl (hb hby d3_81)
  have O30 : Old Z n0 h30 := O23.wr W30 g_a1
  have Fw30 : Fld Z h30 a1 "com/example/vestry/vestry/Ints" "size" "I" (.int (3 : Int32)) := Fld.same W30 f26
  have N30 := Fr.snoc X30 N23 g_a1
  obtain ⟨fs, hr, hrun, hended, hW, hsame⟩ := X30.leave (v := none) (fun _ => rfl)
  have f31 : Exa Z h30 a8 "[I" := (Exa.wr W30 (Exa.wr W23 E_24))
  have f32 : Arv Z h30 a8 k19 .int (4096 : Int32) [(.int p17), (.int p18), (.int p2)] (.int (0 : Int32)) := (V23.other W30 (Ne.symm hne25))
  have f33 : Exa Z h30 a1 "com/example/vestry/vestry/Ints" := (Exa.wr W30 f29)
  have f34 : Fld Z h30 a1 "com/example/vestry/vestry/Ints" "blocks" "[[I" (.ref a5) := (Fld.other W30 (Fld.other W23 F6 (Or.inl hne25)) (Or.inr (slot_ne (Or.inl (hw _ (gw 13 rfl))) (Or.inl (hw _ (gw 20 rfl))) (by decide) (t := (.array (.array .int))) (t' := .int) (by decide) (by decide))))
  refine ⟨_, _, pre0 _ ?_, hrun, hended, _, _, rfl, ?_, ⟨_, rfl⟩, hW, hsame.mono (by decide) (by decide)⟩
  · show Steps p.tables e below (s₁.setTop (mkF m 0 #[.val (.ref a1), .val (.int p2), .unset] [])) _
    refine XS.aloadN X0.here hx rfl (hb hby d3_0) rfl rfl ?_
    show Steps p.tables e below (s₁.setTop (mkF m 1 #[.val (.ref a1), .val (.int p2), .unset] [(.ref a1)])) _
    refine st4 _ ?_
    show Steps p.tables e below (T4.setTop (mkF m 4 #[.val (.ref a1), .val (.int p2), .unset] [(.int (2 : Int32))])) _
    refine XS.bipush X4.here hx rfl (hb hby d3_4) ?_
    show Steps p.tables e below (T4.setTop (mkF m 6 #[.val (.ref a1), .val (.int p2), .unset] [(.int (12 : Int32)), (.int (2 : Int32))])) _
    refine XS.iushr X4.here hx rfl (hb hby d3_6) rfl ?_
    show Steps p.tables e below (T4.setTop (mkF m 7 #[.val (.ref a1), .val (.int p2), .unset] [(.int (((2 : Int32).toUInt32 >>> ((12 : Int32) &&& 31).toUInt32).toInt32))])) _
    rw [(by decide +kernel : (((2 : Int32).toUInt32 >>> ((12 : Int32) &&& 31).toUInt32).toInt32) = (0 : Int32))]
    show Steps p.tables e below (T4.setTop (mkF m 7 #[.val (.ref a1), .val (.int p2), .unset] [(.int (0 : Int32))])) _
    refine XS.istoreN X4.here hx rfl (hb hby d3_7) rfl (l' := #[.val (.ref a1), .val (.int p2), .val (.int (0 : Int32))]) rfl ?_
    show Steps p.tables e below (T4.setTop (mkF m 8 #[.val (.ref a1), .val (.int p2), .val (.int (0 : Int32))] [])) _
    refine XS.iloadN X4.here hx rfl (hb hby d3_8) rfl ?_
    show Steps p.tables e below (T4.setTop (mkF m 9 #[.val (.ref a1), .val (.int p2), .val (.int (0 : Int32))] [(.int (0 : Int32))])) _
    refine XS.aloadN X4.here hx rfl (hb hby d3_9) rfl rfl ?_
    show Steps p.tables e below (T4.setTop (mkF m 10 #[.val (.ref a1), .val (.int p2), .val (.int (0 : Int32))] [(.ref a1), (.int (0 : Int32))])) _
    refine st7 _ ?_
    show Steps p.tables e below (T7.setTop (mkF m 13 #[.val (.ref a1), .val (.int p2), .val (.int (0 : Int32))] [(.ref a5), (.int (0 : Int32))])) _
    refine X7.arraylength hx (by rw [e7]; exact Ar11.1) (State.isArrayOf_alike hZ.alike Ar11.2.1) (g := (mkF m 13 #[.val (.ref a1), .val (.int p2), .val (.int (0 : Int32))] [(.ref a5), (.int (0 : Int32))])) rfl rfl (hb hby d3_13) _ ?_
    rw [len_of Sz11 Nn11]
    show Steps p.tables e below (T7.setTop (mkF m 14 #[.val (.ref a1), .val (.int p2), .val (.int (0 : Int32))] [(.int (1 : Int32)), (.int (0 : Int32))])) _
    refine XS.icmpYes X7.here hx rfl (pc0 := 14) (pc' := 38) rfl (hb hby d3_14) rfl (feq (by decide +kernel : ¬ ((0 : Int32) = (1 : Int32)))).2 (by decide) (by decide) ?_
    show Steps p.tables e below (T7.setTop (mkF m 38 #[.val (.ref a1), .val (.int p2), .val (.int (0 : Int32))] [])) _
    refine XS.aloadN X7.here hx rfl (hb hby d3_38) rfl rfl ?_
    show Steps p.tables e below (T7.setTop (mkF m 39 #[.val (.ref a1), .val (.int p2), .val (.int (0 : Int32))] [(.ref a1)])) _
    refine st12 _ ?_
    show Steps p.tables e below (T12.setTop (mkF m 42 #[.val (.ref a1), .val (.int p2), .val (.int (0 : Int32))] [(.ref a5)])) _
    refine XS.iloadN X12.here hx rfl (hb hby d3_42) rfl ?_
    show Steps p.tables e below (T12.setTop (mkF m 43 #[.val (.ref a1), .val (.int p2), .val (.int (0 : Int32))] [(.int (0 : Int32)), (.ref a5)])) _
    refine X12.aaload hx (j := (0 : Int32)) (v := (.ref a8)) (by rw [e12]; exact Ar13.1) (State.isArrayOf_alike hZ.alike Ar13.2.1) rfl Ar13.2.2 hin13 hat13 (g := (mkF m 43 #[.val (.ref a1), .val (.int p2), .val (.int (0 : Int32))] [(.int (0 : Int32)), (.ref a5)])) rfl rfl (hb hby d3_43) _ ?_
    show Steps p.tables e below (T12.setTop (mkF m 44 #[.val (.ref a1), .val (.int p2), .val (.int (0 : Int32))] [(.ref a8)])) _
    refine XS.ifnonnullYes X12.here hx rfl (pc0 := 44) (pc' := 58) rfl (hb hby d3_44) rfl (by decide) (by decide) ?_
    show Steps p.tables e below (T12.setTop (mkF m 58 #[.val (.ref a1), .val (.int p2), .val (.int (0 : Int32))] [])) _
    refine XS.aloadN X12.here hx rfl (hb hby d3_58) rfl rfl ?_
    show Steps p.tables e below (T12.setTop (mkF m 59 #[.val (.ref a1), .val (.int p2), .val (.int (0 : Int32))] [(.ref a1)])) _
    refine st14 _ ?_
    show Steps p.tables e below (T14.setTop (mkF m 62 #[.val (.ref a1), .val (.int p2), .val (.int (0 : Int32))] [(.ref a5)])) _
    refine XS.iloadN X14.here hx rfl (hb hby d3_62) rfl ?_
    show Steps p.tables e below (T14.setTop (mkF m 63 #[.val (.ref a1), .val (.int p2), .val (.int (0 : Int32))] [(.int (0 : Int32)), (.ref a5)])) _
    refine X14.aaload hx (j := (0 : Int32)) (v := (.ref a8)) (by rw [e14]; exact Ar15.1) (State.isArrayOf_alike hZ.alike Ar15.2.1) rfl Ar15.2.2 hin15 hat15 (g := (mkF m 63 #[.val (.ref a1), .val (.int p2), .val (.int (0 : Int32))] [(.int (0 : Int32)), (.ref a5)])) rfl rfl (hb hby d3_63) _ ?_
    show Steps p.tables e below (T14.setTop (mkF m 64 #[.val (.ref a1), .val (.int p2), .val (.int (0 : Int32))] [(.ref a8)])) _
    refine XS.aloadN X14.here hx rfl (hb hby d3_64) rfl rfl ?_
    show Steps p.tables e below (T14.setTop (mkF m 65 #[.val (.ref a1), .val (.int p2), .val (.int (0 : Int32))] [(.ref a1), (.ref a8)])) _
    refine st16 _ ?_
    show Steps p.tables e below (T16.setTop (mkF m 68 #[.val (.ref a1), .val (.int p2), .val (.int (0 : Int32))] [(.int (2 : Int32)), (.ref a8)])) _
    refine XS.sipush X16.here hx rfl (hb hby d3_68) ?_
    show Steps p.tables e below (T16.setTop (mkF m 71 #[.val (.ref a1), .val (.int p2), .val (.int (0 : Int32))] [(.int (4095 : Int32)), (.int (2 : Int32)), (.ref a8)])) _
    refine XS.iand X16.here hx rfl (hb hby d3_71) rfl ?_
    show Steps p.tables e below (T16.setTop (mkF m 72 #[.val (.ref a1), .val (.int p2), .val (.int (0 : Int32))] [(.int ((2 : Int32) &&& (4095 : Int32))), (.ref a8)])) _
    rw [(by decide +kernel : ((2 : Int32) &&& (4095 : Int32)) = (2 : Int32))]
    show Steps p.tables e below (T16.setTop (mkF m 72 #[.val (.ref a1), .val (.int p2), .val (.int (0 : Int32))] [(.int (2 : Int32)), (.ref a8)])) _
    refine XS.iloadN X16.here hx rfl (hb hby d3_72) rfl ?_
    show Steps p.tables e below (T16.setTop (mkF m 73 #[.val (.ref a1), .val (.int p2), .val (.int (0 : Int32))] [(.int p2), (.int (2 : Int32)), (.ref a8)])) _
    refine st23 _ ?_
    show Steps p.tables e below (T23.setTop (mkF m 74 #[.val (.ref a1), .val (.int p2), .val (.int (0 : Int32))] [])) _
    refine XS.aloadN X23.here hx rfl (hb hby d3_74) rfl rfl ?_
    show Steps p.tables e below (T23.setTop (mkF m 75 #[.val (.ref a1), .val (.int p2), .val (.int (0 : Int32))] [(.ref a1)])) _
    refine XS.dup X23.here hx rfl (hb hby d3_75) rfl rfl ?_
    show Steps p.tables e below (T23.setTop (mkF m 76 #[.val (.ref a1), .val (.int p2), .val (.int (0 : Int32))] [(.ref a1), (.ref a1)])) _
    refine st27 _ ?_
    show Steps p.tables e below (T27.setTop (mkF m 79 #[.val (.ref a1), .val (.int p2), .val (.int (0 : Int32))] [(.int (2 : Int32)), (.ref a1)])) _
    refine XS.iconst X27.here hx rfl (hb hby d3_79) ?_
    show Steps p.tables e below (T27.setTop (mkF m 80 #[.val (.ref a1), .val (.int p2), .val (.int (0 : Int32))] [(.int (1 : Int32)), (.int (2 : Int32)), (.ref a1)])) _
    refine XS.iadd X27.here hx rfl (hb hby d3_80) rfl ?_
    show Steps p.tables e below (T27.setTop (mkF m 81 #[.val (.ref a1), .val (.int p2), .val (.int (0 : Int32))] [(.int ((2 : Int32) + (1 : Int32))), (.ref a1)])) _
    rw [(by decide +kernel : ((2 : Int32) + (1 : Int32)) = (3 : Int32))]
    show Steps p.tables e below (T27.setTop (mkF m 81 #[.val (.ref a1), .val (.int p2), .val (.int (0 : Int32))] [(.int (3 : Int32)), (.ref a1)])) _
    refine st30 _ ?_
    show Steps p.tables e below (T30.setTop (mkF m 84 #[.val (.ref a1), .val (.int p2), .val (.int (0 : Int32))] [])) _
    exact X30.returnOut hx Bd.returns (hb hby d3_84) hr
  · show Q3_5 Z _ _ _ _ _ _ _ _ h0 n0 _ T30.heap _
    rw [e30]
    exact ⟨rfl, N30, (((Keep.refl h0 [a8, a1]).wr W23 (Or.inl (List.mem_of_getElem? (i := 0) rfl))).wr W30 (Or.inl (List.mem_of_getElem? (i := 1) rfl))), f31, f32, f33, f34, Fw30⟩
theorem ef_rm4_6 (m : MethodId) (x0 : Addr) (x2 : Int32) : entryFrame m #[(.ref x0), (.int (0 : Int32)), (.int x2)] 3 = mkF m 0 #[.val (.ref x0), .val (.int (0 : Int32)), .val (.int x2)] [] := by first | (simp [entryFrame, mkF, argsToLocals, Value.category]; done) | rfl
def Q4_6 (Z : State) (a1 : Addr) (p2 : Int32) (a3 : Addr) (a6 : Addr) (k7 : ClassId) (p10 : Int32) (p11 : Int32) (p12 : Int32) (k13 : ClassId) (h0 : Heap) (n0 : Nat) (v : Option Value) (h : Heap) (L : List Loc) : Prop := (v = none ∧ Fr n0 L ∧ Keep h0 h [a6] ∧ Exa Z h a6 "[I" ∧ Arv Z h a6 k13 .int (4096 : Int32) [(.int p2), (.int p11), (.int p12)] (.int (0 : Int32)))
set_option maxRecDepth 65536 in
set_option maxHeartbeats 40000000 in
theorem rm4_6 (l : Launch) (Z : State) (a0 : Array Value) (hw : ∀ d ∈ own_ws, d.before a0 Z = true) (ws : List Jvm.Cond) (a1 : Addr) (p2 : Int32) (a3 : Addr) (a6 : Addr) (k7 : ClassId) (p10 : Int32) (p11 : Int32) (p12 : Int32) (k13 : ClassId) (h0 : Heap) (n0 : Nat) (O0 : Old Z n0 h0) (F4 : Fld Z h0 a1 "com/example/vestry/vestry/Ints" "blocks" "[[I" (.ref a3)) (V8 : Arv Z h0 a3 k7 (.array .int) (1 : Int32) [(.ref a6)] .null) (V14 : Arv Z h0 a6 k13 .int (4096 : Int32) [(.int p10), (.int p11), (.int p12)] (.int (0 : Int32))) (g_a6 : n0 ≤ a6) (E_17 : Exa Z h0 a6 "[I") :
    MetFree l M_2 (head1 (Jvm.Cond.code M_2 prog_60_method_5_code 3 none :: ws) ({ frames := 0, cells := 0, slots := 0, locals := 0 } : Room)) (fun a U => a = #[(.ref a1), (.int (0 : Int32)), (.int p2)] ∧ Z.Warmed39 U.vm ∧ U.heap = h0) (fun _ _ _ _ _ => True) (fun _ U o U' => ∃ v L, o = .returned v ∧ Q4_6 Z a1 p2 a3 a6 k7 p10 p11 p12 k13 h0 n0 v U'.heap L ∧ FrameEnd U o U' L ({ frames := 0, cells := 0, slots := 0, locals := 0 } : Room).cells ({ frames := 0, cells := 0, slots := 0, locals := 0 } : Room).slots) := by
  refine MetFree.of_bodySF (plainFor_of_name pn_0) hisR ?_
  intro p e s m args below meth c s₁ Bd hml0 hP hK
  obtain ⟨rfl, hZ, hh⟩ := hP
  have hx := Bd.exec
  have hby := Bd.bytes
  have hml : c.maxLocals = 3 := hml0
  have hown : s.vm.findClass "com/example/vestry/vestry/Ints" = some m.cls := findClass_of_methodNamed Bd.named
  have hnm := (name_of_methodNamed Bd.named Bd.method).1
  have X0 : Stand p l e ({ frames := 0, cells := 0, slots := 0, locals := 0 } : Room) s m #[(.ref a1), (.int (0 : Int32)), (.int p2)] below meth c s₁ [] 0 0 := Stand.of_body Bd
  have e0 : s₁.heap = h0 := by rw [← hh, Bd.state]; rfl
  have N0 := Fr.nil n0
  have pre0 : ∀ t, Steps p.tables e below (s₁.setTop (mkF m 0 #[.val (.ref a1), .val (.int (0 : Int32)), .val (.int p2)] [])) t → Steps p.tables e below (s₁.setTop (entryFrame m #[(.ref a1), (.int (0 : Int32)), (.int p2)] 3)) t := fun t k => castTop (ef_rm4_6 m a1 p2) k
  obtain ⟨T5, X5, e5, st5⟩ := getF X0 hx hZ hown (host := "") (Or.inl (hw _ (gw 12 rfl))) Via.refl e0 F4 (g := (mkF m 1 #[.val (.ref a1), .val (.int (0 : Int32)), .val (.int p2)] [(.ref a1)])) rfl rfl (hb hby d4_1)
  obtain ⟨cl9, Ar9, -, Sz9, -, Hh9, -⟩ := id V8
  have hin9 : ¬ ((0 : Int32) < 0 ∨ cl9.slots.size ≤ ((0 : Int32)).toNatClampNeg) := inb_of Sz9 ⟨by decide +kernel, by decide +kernel⟩
  have hat9 : cl9.slots[((0 : Int32)).toNatClampNeg]? = some (.ref a6) := Has.at Hh9 hin9 rfl
  obtain ⟨cl15, Ar15, qk15, Sz15, Nn15, Hh15, Gg15⟩ := id V14
  have hin15 : ¬ ((0 : Int32) < 0 ∨ cl15.slots.size ≤ ((0 : Int32)).toNatClampNeg) := inb_of Sz15 ⟨by decide +kernel, by decide +kernel⟩
  obtain ⟨T16, h16, X16, e16, W16, st16⟩ := stI X5 hx hZ e5 Ar15 (j := (0 : Int32)) hin15 (g := (mkF m 15 #[.val (.ref a1), .val (.int (0 : Int32)), .val (.int p2)] [(.int p2), (.int (0 : Int32)), (.ref a6)])) rfl rfl (hb hby d4_15)
  have O16 : Old Z n0 h16 := O0.wr W16 g_a6
  have V16 : Arv Z h16 a6 k13 .int (4096 : Int32) [(.int p2), (.int p11), (.int p12)] (.int (0 : Int32)) := Arv.set Ar15 qk15 Sz15 Nn15 Hh15 Gg15 rfl W16 0 rfl (Nat.le_of_ble_eq_true rfl)
  have N16 := Fr.snoc X16 N0 g_a6
  obtain ⟨fs, hr, hrun, hended, hW, hsame⟩ := X16.leave (v := none) (fun _ => rfl)
  have f18 : Exa Z h16 a6 "[I" := (Exa.wr W16 E_17)
  refine ⟨_, _, pre0 _ ?_, hrun, hended, _, _, rfl, ?_, ⟨_, rfl⟩, hW, hsame.mono (by decide) (by decide)⟩
  · show Steps p.tables e below (s₁.setTop (mkF m 0 #[.val (.ref a1), .val (.int (0 : Int32)), .val (.int p2)] [])) _
    refine XS.aloadN X0.here hx rfl (hb hby d4_0) rfl rfl ?_
    show Steps p.tables e below (s₁.setTop (mkF m 1 #[.val (.ref a1), .val (.int (0 : Int32)), .val (.int p2)] [(.ref a1)])) _
    refine st5 _ ?_
    show Steps p.tables e below (T5.setTop (mkF m 4 #[.val (.ref a1), .val (.int (0 : Int32)), .val (.int p2)] [(.ref a3)])) _
    refine XS.iloadN X5.here hx rfl (hb hby d4_4) rfl ?_
    show Steps p.tables e below (T5.setTop (mkF m 5 #[.val (.ref a1), .val (.int (0 : Int32)), .val (.int p2)] [(.int (0 : Int32)), (.ref a3)])) _
    refine XS.bipush X5.here hx rfl (hb hby d4_5) ?_
    show Steps p.tables e below (T5.setTop (mkF m 7 #[.val (.ref a1), .val (.int (0 : Int32)), .val (.int p2)] [(.int (12 : Int32)), (.int (0 : Int32)), (.ref a3)])) _
    refine XS.iushr X5.here hx rfl (hb hby d4_7) rfl ?_
    show Steps p.tables e below (T5.setTop (mkF m 8 #[.val (.ref a1), .val (.int (0 : Int32)), .val (.int p2)] [(.int (((0 : Int32).toUInt32 >>> ((12 : Int32) &&& 31).toUInt32).toInt32)), (.ref a3)])) _
    rw [(by decide +kernel : (((0 : Int32).toUInt32 >>> ((12 : Int32) &&& 31).toUInt32).toInt32) = (0 : Int32))]
    show Steps p.tables e below (T5.setTop (mkF m 8 #[.val (.ref a1), .val (.int (0 : Int32)), .val (.int p2)] [(.int (0 : Int32)), (.ref a3)])) _
    refine X5.aaload hx (j := (0 : Int32)) (v := (.ref a6)) (by rw [e5]; exact Ar9.1) (State.isArrayOf_alike hZ.alike Ar9.2.1) rfl Ar9.2.2 hin9 hat9 (g := (mkF m 8 #[.val (.ref a1), .val (.int (0 : Int32)), .val (.int p2)] [(.int (0 : Int32)), (.ref a3)])) rfl rfl (hb hby d4_8) _ ?_
    show Steps p.tables e below (T5.setTop (mkF m 9 #[.val (.ref a1), .val (.int (0 : Int32)), .val (.int p2)] [(.ref a6)])) _
    refine XS.iloadN X5.here hx rfl (hb hby d4_9) rfl ?_
    show Steps p.tables e below (T5.setTop (mkF m 10 #[.val (.ref a1), .val (.int (0 : Int32)), .val (.int p2)] [(.int (0 : Int32)), (.ref a6)])) _
    refine XS.sipush X5.here hx rfl (hb hby d4_10) ?_
    show Steps p.tables e below (T5.setTop (mkF m 13 #[.val (.ref a1), .val (.int (0 : Int32)), .val (.int p2)] [(.int (4095 : Int32)), (.int (0 : Int32)), (.ref a6)])) _
    refine XS.iand X5.here hx rfl (hb hby d4_13) rfl ?_
    show Steps p.tables e below (T5.setTop (mkF m 14 #[.val (.ref a1), .val (.int (0 : Int32)), .val (.int p2)] [(.int ((0 : Int32) &&& (4095 : Int32))), (.ref a6)])) _
    rw [(by decide +kernel : ((0 : Int32) &&& (4095 : Int32)) = (0 : Int32))]
    show Steps p.tables e below (T5.setTop (mkF m 14 #[.val (.ref a1), .val (.int (0 : Int32)), .val (.int p2)] [(.int (0 : Int32)), (.ref a6)])) _
    refine XS.iloadN X5.here hx rfl (hb hby d4_14) rfl ?_
    show Steps p.tables e below (T5.setTop (mkF m 15 #[.val (.ref a1), .val (.int (0 : Int32)), .val (.int p2)] [(.int p2), (.int (0 : Int32)), (.ref a6)])) _
    refine st16 _ ?_
    show Steps p.tables e below (T16.setTop (mkF m 16 #[.val (.ref a1), .val (.int (0 : Int32)), .val (.int p2)] [])) _
    exact X16.returnOut hx Bd.returns (hb hby d4_16) hr
  · show Q4_6 Z _ _ _ _ _ _ _ _ _ h0 n0 _ T16.heap _
    rw [e16]
    exact ⟨rfl, N16, ((Keep.refl h0 [a6]).wr W16 (Or.inl (List.mem_of_getElem? (i := 0) rfl))), f18, V16⟩
theorem ef_rm5_7 (m : MethodId) (x0 : Addr) : entryFrame m #[(.ref x0)] 1 = mkF m 0 #[.val (.ref x0)] [] := by first | (simp [entryFrame, mkF, argsToLocals, Value.category]; done) | rfl
def Q5_7 (Z : State) (a1 : Addr) (h0 : Heap) (n0 : Nat) (v : Option Value) (h : Heap) (L : List Loc) : Prop := (v = some (.int (3 : Int32)) ∧ Fr n0 L ∧ h = h0)
set_option maxRecDepth 65536 in
set_option maxHeartbeats 40000000 in
theorem rm5_7 (l : Launch) (Z : State) (a0 : Array Value) (hw : ∀ d ∈ own_ws, d.before a0 Z = true) (ws : List Jvm.Cond) (a1 : Addr) (h0 : Heap) (n0 : Nat) (O0 : Old Z n0 h0) (F2 : Fld Z h0 a1 "com/example/vestry/vestry/Ints" "size" "I" (.int (3 : Int32))) :
    MetFree l M_3 (head1 (Jvm.Cond.code M_3 prog_60_method_2_code 1 (some .int) :: ws) ({ frames := 0, cells := 0, slots := 0, locals := 0 } : Room)) (fun a U => a = #[(.ref a1)] ∧ Z.Warmed39 U.vm ∧ U.heap = h0) (fun _ _ _ _ _ => True) (fun _ U o U' => ∃ v L, o = .returned v ∧ Q5_7 Z a1 h0 n0 v U'.heap L ∧ FrameEnd U o U' L ({ frames := 0, cells := 0, slots := 0, locals := 0 } : Room).cells ({ frames := 0, cells := 0, slots := 0, locals := 0 } : Room).slots) := by
  refine MetFree.of_bodySF (plainFor_of_name pn_0) hisR ?_
  intro p e s m args below meth c s₁ Bd hml0 hP hK
  obtain ⟨rfl, hZ, hh⟩ := hP
  have hx := Bd.exec
  have hby := Bd.bytes
  have hml : c.maxLocals = 1 := hml0
  have hown : s.vm.findClass "com/example/vestry/vestry/Ints" = some m.cls := findClass_of_methodNamed Bd.named
  have hnm := (name_of_methodNamed Bd.named Bd.method).1
  have X0 : Stand p l e ({ frames := 0, cells := 0, slots := 0, locals := 0 } : Room) s m #[(.ref a1)] below meth c s₁ [] 0 0 := Stand.of_body Bd
  have e0 : s₁.heap = h0 := by rw [← hh, Bd.state]; rfl
  have N0 := Fr.nil n0
  have pre0 : ∀ t, Steps p.tables e below (s₁.setTop (mkF m 0 #[.val (.ref a1)] [])) t → Steps p.tables e below (s₁.setTop (entryFrame m #[(.ref a1)] 1)) t := fun t k => castTop (ef_rm5_7 m a1) k
  obtain ⟨T3, X3, e3, st3⟩ := getF X0 hx hZ hown (host := "") (Or.inl (hw _ (gw 19 rfl))) Via.refl e0 F2 (g := (mkF m 1 #[.val (.ref a1)] [(.ref a1)])) rfl rfl (hb hby d5_1)
  obtain ⟨fs, hr, hrun, hended, hW, hsame⟩ := X3.leave (v := some (.int (3 : Int32))) (fun h => by rw [Bd.returns] at h; cases h)
  refine ⟨_, _, pre0 _ ?_, hrun, hended, _, _, rfl, ?_, ⟨_, rfl⟩, hW, hsame.mono (by decide) (by decide)⟩
  · show Steps p.tables e below (s₁.setTop (mkF m 0 #[.val (.ref a1)] [])) _
    refine XS.aloadN X0.here hx rfl (hb hby d5_0) rfl rfl ?_
    show Steps p.tables e below (s₁.setTop (mkF m 1 #[.val (.ref a1)] [(.ref a1)])) _
    refine st3 _ ?_
    show Steps p.tables e below (T3.setTop (mkF m 4 #[.val (.ref a1)] [(.int (3 : Int32))])) _
    exact retI X3 hx Bd.returns (hb hby d5_4) hr
  · show Q5_7 Z _ h0 n0 _ T3.heap _
    rw [e3]
    exact ⟨rfl, N0, rfl⟩
theorem ef_rm6_8 (m : MethodId) (x0 : Addr) : entryFrame m #[(.ref x0), (.int (0 : Int32))] 2 = mkF m 0 #[.val (.ref x0), .val (.int (0 : Int32))] [] := by first | (simp [entryFrame, mkF, argsToLocals, Value.category]; done) | rfl
def Q6_8 (Z : State) (a1 : Addr) (a2 : Addr) (a5 : Addr) (k6 : ClassId) (p9 : Int32) (p10 : Int32) (p11 : Int32) (k12 : ClassId) (h0 : Heap) (n0 : Nat) (v : Option Value) (h : Heap) (L : List Loc) : Prop := (v = some (.int p9) ∧ Fr n0 L ∧ h = h0)
set_option maxRecDepth 65536 in
set_option maxHeartbeats 40000000 in
theorem rm6_8 (l : Launch) (Z : State) (a0 : Array Value) (hw : ∀ d ∈ own_ws, d.before a0 Z = true) (ws : List Jvm.Cond) (a1 : Addr) (a2 : Addr) (a5 : Addr) (k6 : ClassId) (p9 : Int32) (p10 : Int32) (p11 : Int32) (k12 : ClassId) (h0 : Heap) (n0 : Nat) (O0 : Old Z n0 h0) (F3 : Fld Z h0 a1 "com/example/vestry/vestry/Ints" "blocks" "[[I" (.ref a2)) (V7 : Arv Z h0 a2 k6 (.array .int) (1 : Int32) [(.ref a5)] .null) (V13 : Arv Z h0 a5 k12 .int (4096 : Int32) [(.int p9), (.int p10), (.int p11)] (.int (0 : Int32))) :
    MetFree l M_4 (head1 (Jvm.Cond.code M_4 prog_60_method_4_code 2 (some .int) :: ws) ({ frames := 0, cells := 0, slots := 0, locals := 0 } : Room)) (fun a U => a = #[(.ref a1), (.int (0 : Int32))] ∧ Z.Warmed39 U.vm ∧ U.heap = h0) (fun _ _ _ _ _ => True) (fun _ U o U' => ∃ v L, o = .returned v ∧ Q6_8 Z a1 a2 a5 k6 p9 p10 p11 k12 h0 n0 v U'.heap L ∧ FrameEnd U o U' L ({ frames := 0, cells := 0, slots := 0, locals := 0 } : Room).cells ({ frames := 0, cells := 0, slots := 0, locals := 0 } : Room).slots) := by
  refine MetFree.of_bodySF (plainFor_of_name pn_0) hisR ?_
  intro p e s m args below meth c s₁ Bd hml0 hP hK
  obtain ⟨rfl, hZ, hh⟩ := hP
  have hx := Bd.exec
  have hby := Bd.bytes
  have hml : c.maxLocals = 2 := hml0
  have hown : s.vm.findClass "com/example/vestry/vestry/Ints" = some m.cls := findClass_of_methodNamed Bd.named
  have hnm := (name_of_methodNamed Bd.named Bd.method).1
  have X0 : Stand p l e ({ frames := 0, cells := 0, slots := 0, locals := 0 } : Room) s m #[(.ref a1), (.int (0 : Int32))] below meth c s₁ [] 0 0 := Stand.of_body Bd
  have e0 : s₁.heap = h0 := by rw [← hh, Bd.state]; rfl
  have N0 := Fr.nil n0
  have pre0 : ∀ t, Steps p.tables e below (s₁.setTop (mkF m 0 #[.val (.ref a1), .val (.int (0 : Int32))] [])) t → Steps p.tables e below (s₁.setTop (entryFrame m #[(.ref a1), (.int (0 : Int32))] 2)) t := fun t k => castTop (ef_rm6_8 m a1) k
  obtain ⟨T4, X4, e4, st4⟩ := getF X0 hx hZ hown (host := "") (Or.inl (hw _ (gw 12 rfl))) Via.refl e0 F3 (g := (mkF m 1 #[.val (.ref a1), .val (.int (0 : Int32))] [(.ref a1)])) rfl rfl (hb hby d6_1)
  obtain ⟨cl8, Ar8, -, Sz8, -, Hh8, -⟩ := id V7
  have hin8 : ¬ ((0 : Int32) < 0 ∨ cl8.slots.size ≤ ((0 : Int32)).toNatClampNeg) := inb_of Sz8 ⟨by decide +kernel, by decide +kernel⟩
  have hat8 : cl8.slots[((0 : Int32)).toNatClampNeg]? = some (.ref a5) := Has.at Hh8 hin8 rfl
  obtain ⟨cl14, Ar14, -, Sz14, -, Hh14, -⟩ := id V13
  have hin14 : ¬ ((0 : Int32) < 0 ∨ cl14.slots.size ≤ ((0 : Int32)).toNatClampNeg) := inb_of Sz14 ⟨by decide +kernel, by decide +kernel⟩
  have hat14 : cl14.slots[((0 : Int32)).toNatClampNeg]? = some (.int p9) := Has.at Hh14 hin14 rfl
  obtain ⟨fs, hr, hrun, hended, hW, hsame⟩ := X4.leave (v := some (.int p9)) (fun h => by rw [Bd.returns] at h; cases h)
  refine ⟨_, _, pre0 _ ?_, hrun, hended, _, _, rfl, ?_, ⟨_, rfl⟩, hW, hsame.mono (by decide) (by decide)⟩
  · show Steps p.tables e below (s₁.setTop (mkF m 0 #[.val (.ref a1), .val (.int (0 : Int32))] [])) _
    refine XS.aloadN X0.here hx rfl (hb hby d6_0) rfl rfl ?_
    show Steps p.tables e below (s₁.setTop (mkF m 1 #[.val (.ref a1), .val (.int (0 : Int32))] [(.ref a1)])) _
    refine st4 _ ?_
    show Steps p.tables e below (T4.setTop (mkF m 4 #[.val (.ref a1), .val (.int (0 : Int32))] [(.ref a2)])) _
    refine XS.iloadN X4.here hx rfl (hb hby d6_4) rfl ?_
    show Steps p.tables e below (T4.setTop (mkF m 5 #[.val (.ref a1), .val (.int (0 : Int32))] [(.int (0 : Int32)), (.ref a2)])) _
    refine XS.bipush X4.here hx rfl (hb hby d6_5) ?_
    show Steps p.tables e below (T4.setTop (mkF m 7 #[.val (.ref a1), .val (.int (0 : Int32))] [(.int (12 : Int32)), (.int (0 : Int32)), (.ref a2)])) _
    refine XS.iushr X4.here hx rfl (hb hby d6_7) rfl ?_
    show Steps p.tables e below (T4.setTop (mkF m 8 #[.val (.ref a1), .val (.int (0 : Int32))] [(.int (((0 : Int32).toUInt32 >>> ((12 : Int32) &&& 31).toUInt32).toInt32)), (.ref a2)])) _
    rw [(by decide +kernel : (((0 : Int32).toUInt32 >>> ((12 : Int32) &&& 31).toUInt32).toInt32) = (0 : Int32))]
    show Steps p.tables e below (T4.setTop (mkF m 8 #[.val (.ref a1), .val (.int (0 : Int32))] [(.int (0 : Int32)), (.ref a2)])) _
    refine X4.aaload hx (j := (0 : Int32)) (v := (.ref a5)) (by rw [e4]; exact Ar8.1) (State.isArrayOf_alike hZ.alike Ar8.2.1) rfl Ar8.2.2 hin8 hat8 (g := (mkF m 8 #[.val (.ref a1), .val (.int (0 : Int32))] [(.int (0 : Int32)), (.ref a2)])) rfl rfl (hb hby d6_8) _ ?_
    show Steps p.tables e below (T4.setTop (mkF m 9 #[.val (.ref a1), .val (.int (0 : Int32))] [(.ref a5)])) _
    refine XS.iloadN X4.here hx rfl (hb hby d6_9) rfl ?_
    show Steps p.tables e below (T4.setTop (mkF m 10 #[.val (.ref a1), .val (.int (0 : Int32))] [(.int (0 : Int32)), (.ref a5)])) _
    refine XS.sipush X4.here hx rfl (hb hby d6_10) ?_
    show Steps p.tables e below (T4.setTop (mkF m 13 #[.val (.ref a1), .val (.int (0 : Int32))] [(.int (4095 : Int32)), (.int (0 : Int32)), (.ref a5)])) _
    refine XS.iand X4.here hx rfl (hb hby d6_13) rfl ?_
    show Steps p.tables e below (T4.setTop (mkF m 14 #[.val (.ref a1), .val (.int (0 : Int32))] [(.int ((0 : Int32) &&& (4095 : Int32))), (.ref a5)])) _
    rw [(by decide +kernel : ((0 : Int32) &&& (4095 : Int32)) = (0 : Int32))]
    show Steps p.tables e below (T4.setTop (mkF m 14 #[.val (.ref a1), .val (.int (0 : Int32))] [(.int (0 : Int32)), (.ref a5)])) _
    refine X4.iaload hx (j := (0 : Int32)) (v := (.int p9)) (by rw [e4]; exact Ar14.1) (State.isArrayOf_alike hZ.alike Ar14.2.1) Ar14.2.2 hin14 hat14 (g := (mkF m 14 #[.val (.ref a1), .val (.int (0 : Int32))] [(.int (0 : Int32)), (.ref a5)])) rfl rfl (hb hby d6_14) _ ?_
    show Steps p.tables e below (T4.setTop (mkF m 15 #[.val (.ref a1), .val (.int (0 : Int32))] [(.int p9)])) _
    exact retI X4 hx Bd.returns (hb hby d6_15) hr
  · show Q6_8 Z _ _ _ _ _ _ _ _ h0 n0 _ T4.heap _
    rw [e4]
    exact ⟨rfl, N0, rfl⟩
theorem ef_rm6_9 (m : MethodId) (x0 : Addr) : entryFrame m #[(.ref x0), (.int (1 : Int32))] 2 = mkF m 0 #[.val (.ref x0), .val (.int (1 : Int32))] [] := by first | (simp [entryFrame, mkF, argsToLocals, Value.category]; done) | rfl
def Q6_9 (Z : State) (a1 : Addr) (a2 : Addr) (a5 : Addr) (k6 : ClassId) (p9 : Int32) (p10 : Int32) (p11 : Int32) (k12 : ClassId) (h0 : Heap) (n0 : Nat) (v : Option Value) (h : Heap) (L : List Loc) : Prop := (v = some (.int p10) ∧ Fr n0 L ∧ h = h0)
set_option maxRecDepth 65536 in
set_option maxHeartbeats 40000000 in
theorem rm6_9 (l : Launch) (Z : State) (a0 : Array Value) (hw : ∀ d ∈ own_ws, d.before a0 Z = true) (ws : List Jvm.Cond) (a1 : Addr) (a2 : Addr) (a5 : Addr) (k6 : ClassId) (p9 : Int32) (p10 : Int32) (p11 : Int32) (k12 : ClassId) (h0 : Heap) (n0 : Nat) (O0 : Old Z n0 h0) (F3 : Fld Z h0 a1 "com/example/vestry/vestry/Ints" "blocks" "[[I" (.ref a2)) (V7 : Arv Z h0 a2 k6 (.array .int) (1 : Int32) [(.ref a5)] .null) (V13 : Arv Z h0 a5 k12 .int (4096 : Int32) [(.int p9), (.int p10), (.int p11)] (.int (0 : Int32))) :
    MetFree l M_4 (head1 (Jvm.Cond.code M_4 prog_60_method_4_code 2 (some .int) :: ws) ({ frames := 0, cells := 0, slots := 0, locals := 0 } : Room)) (fun a U => a = #[(.ref a1), (.int (1 : Int32))] ∧ Z.Warmed39 U.vm ∧ U.heap = h0) (fun _ _ _ _ _ => True) (fun _ U o U' => ∃ v L, o = .returned v ∧ Q6_9 Z a1 a2 a5 k6 p9 p10 p11 k12 h0 n0 v U'.heap L ∧ FrameEnd U o U' L ({ frames := 0, cells := 0, slots := 0, locals := 0 } : Room).cells ({ frames := 0, cells := 0, slots := 0, locals := 0 } : Room).slots) := by
  refine MetFree.of_bodySF (plainFor_of_name pn_0) hisR ?_
  intro p e s m args below meth c s₁ Bd hml0 hP hK
  obtain ⟨rfl, hZ, hh⟩ := hP
  have hx := Bd.exec
  have hby := Bd.bytes
  have hml : c.maxLocals = 2 := hml0
  have hown : s.vm.findClass "com/example/vestry/vestry/Ints" = some m.cls := findClass_of_methodNamed Bd.named
  have hnm := (name_of_methodNamed Bd.named Bd.method).1
  have X0 : Stand p l e ({ frames := 0, cells := 0, slots := 0, locals := 0 } : Room) s m #[(.ref a1), (.int (1 : Int32))] below meth c s₁ [] 0 0 := Stand.of_body Bd
  have e0 : s₁.heap = h0 := by rw [← hh, Bd.state]; rfl
  have N0 := Fr.nil n0
  have pre0 : ∀ t, Steps p.tables e below (s₁.setTop (mkF m 0 #[.val (.ref a1), .val (.int (1 : Int32))] [])) t → Steps p.tables e below (s₁.setTop (entryFrame m #[(.ref a1), (.int (1 : Int32))] 2)) t := fun t k => castTop (ef_rm6_9 m a1) k
  obtain ⟨T4, X4, e4, st4⟩ := getF X0 hx hZ hown (host := "") (Or.inl (hw _ (gw 12 rfl))) Via.refl e0 F3 (g := (mkF m 1 #[.val (.ref a1), .val (.int (1 : Int32))] [(.ref a1)])) rfl rfl (hb hby d6_1)
  obtain ⟨cl8, Ar8, -, Sz8, -, Hh8, -⟩ := id V7
  have hin8 : ¬ ((0 : Int32) < 0 ∨ cl8.slots.size ≤ ((0 : Int32)).toNatClampNeg) := inb_of Sz8 ⟨by decide +kernel, by decide +kernel⟩
  have hat8 : cl8.slots[((0 : Int32)).toNatClampNeg]? = some (.ref a5) := Has.at Hh8 hin8 rfl
  obtain ⟨cl14, Ar14, -, Sz14, -, Hh14, -⟩ := id V13
  have hin14 : ¬ ((1 : Int32) < 0 ∨ cl14.slots.size ≤ ((1 : Int32)).toNatClampNeg) := inb_of Sz14 ⟨by decide +kernel, by decide +kernel⟩
  have hat14 : cl14.slots[((1 : Int32)).toNatClampNeg]? = some (.int p10) := Has.at Hh14 hin14 rfl
  obtain ⟨fs, hr, hrun, hended, hW, hsame⟩ := X4.leave (v := some (.int p10)) (fun h => by rw [Bd.returns] at h; cases h)
  refine ⟨_, _, pre0 _ ?_, hrun, hended, _, _, rfl, ?_, ⟨_, rfl⟩, hW, hsame.mono (by decide) (by decide)⟩
  · show Steps p.tables e below (s₁.setTop (mkF m 0 #[.val (.ref a1), .val (.int (1 : Int32))] [])) _
    refine XS.aloadN X0.here hx rfl (hb hby d6_0) rfl rfl ?_
    show Steps p.tables e below (s₁.setTop (mkF m 1 #[.val (.ref a1), .val (.int (1 : Int32))] [(.ref a1)])) _
    refine st4 _ ?_
    show Steps p.tables e below (T4.setTop (mkF m 4 #[.val (.ref a1), .val (.int (1 : Int32))] [(.ref a2)])) _
    refine XS.iloadN X4.here hx rfl (hb hby d6_4) rfl ?_
    show Steps p.tables e below (T4.setTop (mkF m 5 #[.val (.ref a1), .val (.int (1 : Int32))] [(.int (1 : Int32)), (.ref a2)])) _
    refine XS.bipush X4.here hx rfl (hb hby d6_5) ?_
    show Steps p.tables e below (T4.setTop (mkF m 7 #[.val (.ref a1), .val (.int (1 : Int32))] [(.int (12 : Int32)), (.int (1 : Int32)), (.ref a2)])) _
    refine XS.iushr X4.here hx rfl (hb hby d6_7) rfl ?_
    show Steps p.tables e below (T4.setTop (mkF m 8 #[.val (.ref a1), .val (.int (1 : Int32))] [(.int (((1 : Int32).toUInt32 >>> ((12 : Int32) &&& 31).toUInt32).toInt32)), (.ref a2)])) _
    rw [(by decide +kernel : (((1 : Int32).toUInt32 >>> ((12 : Int32) &&& 31).toUInt32).toInt32) = (0 : Int32))]
    show Steps p.tables e below (T4.setTop (mkF m 8 #[.val (.ref a1), .val (.int (1 : Int32))] [(.int (0 : Int32)), (.ref a2)])) _
    refine X4.aaload hx (j := (0 : Int32)) (v := (.ref a5)) (by rw [e4]; exact Ar8.1) (State.isArrayOf_alike hZ.alike Ar8.2.1) rfl Ar8.2.2 hin8 hat8 (g := (mkF m 8 #[.val (.ref a1), .val (.int (1 : Int32))] [(.int (0 : Int32)), (.ref a2)])) rfl rfl (hb hby d6_8) _ ?_
    show Steps p.tables e below (T4.setTop (mkF m 9 #[.val (.ref a1), .val (.int (1 : Int32))] [(.ref a5)])) _
    refine XS.iloadN X4.here hx rfl (hb hby d6_9) rfl ?_
    show Steps p.tables e below (T4.setTop (mkF m 10 #[.val (.ref a1), .val (.int (1 : Int32))] [(.int (1 : Int32)), (.ref a5)])) _
    refine XS.sipush X4.here hx rfl (hb hby d6_10) ?_
    show Steps p.tables e below (T4.setTop (mkF m 13 #[.val (.ref a1), .val (.int (1 : Int32))] [(.int (4095 : Int32)), (.int (1 : Int32)), (.ref a5)])) _
    refine XS.iand X4.here hx rfl (hb hby d6_13) rfl ?_
    show Steps p.tables e below (T4.setTop (mkF m 14 #[.val (.ref a1), .val (.int (1 : Int32))] [(.int ((1 : Int32) &&& (4095 : Int32))), (.ref a5)])) _
    rw [(by decide +kernel : ((1 : Int32) &&& (4095 : Int32)) = (1 : Int32))]
    show Steps p.tables e below (T4.setTop (mkF m 14 #[.val (.ref a1), .val (.int (1 : Int32))] [(.int (1 : Int32)), (.ref a5)])) _
    refine X4.iaload hx (j := (1 : Int32)) (v := (.int p10)) (by rw [e4]; exact Ar14.1) (State.isArrayOf_alike hZ.alike Ar14.2.1) Ar14.2.2 hin14 hat14 (g := (mkF m 14 #[.val (.ref a1), .val (.int (1 : Int32))] [(.int (1 : Int32)), (.ref a5)])) rfl rfl (hb hby d6_14) _ ?_
    show Steps p.tables e below (T4.setTop (mkF m 15 #[.val (.ref a1), .val (.int (1 : Int32))] [(.int p10)])) _
    exact retI X4 hx Bd.returns (hb hby d6_15) hr
  · show Q6_9 Z _ _ _ _ _ _ _ _ h0 n0 _ T4.heap _
    rw [e4]
    exact ⟨rfl, N0, rfl⟩
theorem ef_rm6_10 (m : MethodId) (x0 : Addr) : entryFrame m #[(.ref x0), (.int (2 : Int32))] 2 = mkF m 0 #[.val (.ref x0), .val (.int (2 : Int32))] [] := by first | (simp [entryFrame, mkF, argsToLocals, Value.category]; done) | rfl
def Q6_10 (Z : State) (a1 : Addr) (a2 : Addr) (a5 : Addr) (k6 : ClassId) (p9 : Int32) (p10 : Int32) (p11 : Int32) (k12 : ClassId) (h0 : Heap) (n0 : Nat) (v : Option Value) (h : Heap) (L : List Loc) : Prop := (v = some (.int p11) ∧ Fr n0 L ∧ h = h0)
set_option maxRecDepth 65536 in
set_option maxHeartbeats 40000000 in
theorem rm6_10 (l : Launch) (Z : State) (a0 : Array Value) (hw : ∀ d ∈ own_ws, d.before a0 Z = true) (ws : List Jvm.Cond) (a1 : Addr) (a2 : Addr) (a5 : Addr) (k6 : ClassId) (p9 : Int32) (p10 : Int32) (p11 : Int32) (k12 : ClassId) (h0 : Heap) (n0 : Nat) (O0 : Old Z n0 h0) (F3 : Fld Z h0 a1 "com/example/vestry/vestry/Ints" "blocks" "[[I" (.ref a2)) (V7 : Arv Z h0 a2 k6 (.array .int) (1 : Int32) [(.ref a5)] .null) (V13 : Arv Z h0 a5 k12 .int (4096 : Int32) [(.int p9), (.int p10), (.int p11)] (.int (0 : Int32))) :
    MetFree l M_4 (head1 (Jvm.Cond.code M_4 prog_60_method_4_code 2 (some .int) :: ws) ({ frames := 0, cells := 0, slots := 0, locals := 0 } : Room)) (fun a U => a = #[(.ref a1), (.int (2 : Int32))] ∧ Z.Warmed39 U.vm ∧ U.heap = h0) (fun _ _ _ _ _ => True) (fun _ U o U' => ∃ v L, o = .returned v ∧ Q6_10 Z a1 a2 a5 k6 p9 p10 p11 k12 h0 n0 v U'.heap L ∧ FrameEnd U o U' L ({ frames := 0, cells := 0, slots := 0, locals := 0 } : Room).cells ({ frames := 0, cells := 0, slots := 0, locals := 0 } : Room).slots) := by
  refine MetFree.of_bodySF (plainFor_of_name pn_0) hisR ?_
  intro p e s m args below meth c s₁ Bd hml0 hP hK
  obtain ⟨rfl, hZ, hh⟩ := hP
  have hx := Bd.exec
  have hby := Bd.bytes
  have hml : c.maxLocals = 2 := hml0
  have hown : s.vm.findClass "com/example/vestry/vestry/Ints" = some m.cls := findClass_of_methodNamed Bd.named
  have hnm := (name_of_methodNamed Bd.named Bd.method).1
  have X0 : Stand p l e ({ frames := 0, cells := 0, slots := 0, locals := 0 } : Room) s m #[(.ref a1), (.int (2 : Int32))] below meth c s₁ [] 0 0 := Stand.of_body Bd
  have e0 : s₁.heap = h0 := by rw [← hh, Bd.state]; rfl
  have N0 := Fr.nil n0
  have pre0 : ∀ t, Steps p.tables e below (s₁.setTop (mkF m 0 #[.val (.ref a1), .val (.int (2 : Int32))] [])) t → Steps p.tables e below (s₁.setTop (entryFrame m #[(.ref a1), (.int (2 : Int32))] 2)) t := fun t k => castTop (ef_rm6_10 m a1) k
  obtain ⟨T4, X4, e4, st4⟩ := getF X0 hx hZ hown (host := "") (Or.inl (hw _ (gw 12 rfl))) Via.refl e0 F3 (g := (mkF m 1 #[.val (.ref a1), .val (.int (2 : Int32))] [(.ref a1)])) rfl rfl (hb hby d6_1)
  obtain ⟨cl8, Ar8, -, Sz8, -, Hh8, -⟩ := id V7
  have hin8 : ¬ ((0 : Int32) < 0 ∨ cl8.slots.size ≤ ((0 : Int32)).toNatClampNeg) := inb_of Sz8 ⟨by decide +kernel, by decide +kernel⟩
  have hat8 : cl8.slots[((0 : Int32)).toNatClampNeg]? = some (.ref a5) := Has.at Hh8 hin8 rfl
  obtain ⟨cl14, Ar14, -, Sz14, -, Hh14, -⟩ := id V13
  have hin14 : ¬ ((2 : Int32) < 0 ∨ cl14.slots.size ≤ ((2 : Int32)).toNatClampNeg) := inb_of Sz14 ⟨by decide +kernel, by decide +kernel⟩
  have hat14 : cl14.slots[((2 : Int32)).toNatClampNeg]? = some (.int p11) := Has.at Hh14 hin14 rfl
  obtain ⟨fs, hr, hrun, hended, hW, hsame⟩ := X4.leave (v := some (.int p11)) (fun h => by rw [Bd.returns] at h; cases h)
  refine ⟨_, _, pre0 _ ?_, hrun, hended, _, _, rfl, ?_, ⟨_, rfl⟩, hW, hsame.mono (by decide) (by decide)⟩
  · show Steps p.tables e below (s₁.setTop (mkF m 0 #[.val (.ref a1), .val (.int (2 : Int32))] [])) _
    refine XS.aloadN X0.here hx rfl (hb hby d6_0) rfl rfl ?_
    show Steps p.tables e below (s₁.setTop (mkF m 1 #[.val (.ref a1), .val (.int (2 : Int32))] [(.ref a1)])) _
    refine st4 _ ?_
    show Steps p.tables e below (T4.setTop (mkF m 4 #[.val (.ref a1), .val (.int (2 : Int32))] [(.ref a2)])) _
    refine XS.iloadN X4.here hx rfl (hb hby d6_4) rfl ?_
    show Steps p.tables e below (T4.setTop (mkF m 5 #[.val (.ref a1), .val (.int (2 : Int32))] [(.int (2 : Int32)), (.ref a2)])) _
    refine XS.bipush X4.here hx rfl (hb hby d6_5) ?_
    show Steps p.tables e below (T4.setTop (mkF m 7 #[.val (.ref a1), .val (.int (2 : Int32))] [(.int (12 : Int32)), (.int (2 : Int32)), (.ref a2)])) _
    refine XS.iushr X4.here hx rfl (hb hby d6_7) rfl ?_
    show Steps p.tables e below (T4.setTop (mkF m 8 #[.val (.ref a1), .val (.int (2 : Int32))] [(.int (((2 : Int32).toUInt32 >>> ((12 : Int32) &&& 31).toUInt32).toInt32)), (.ref a2)])) _
    rw [(by decide +kernel : (((2 : Int32).toUInt32 >>> ((12 : Int32) &&& 31).toUInt32).toInt32) = (0 : Int32))]
    show Steps p.tables e below (T4.setTop (mkF m 8 #[.val (.ref a1), .val (.int (2 : Int32))] [(.int (0 : Int32)), (.ref a2)])) _
    refine X4.aaload hx (j := (0 : Int32)) (v := (.ref a5)) (by rw [e4]; exact Ar8.1) (State.isArrayOf_alike hZ.alike Ar8.2.1) rfl Ar8.2.2 hin8 hat8 (g := (mkF m 8 #[.val (.ref a1), .val (.int (2 : Int32))] [(.int (0 : Int32)), (.ref a2)])) rfl rfl (hb hby d6_8) _ ?_
    show Steps p.tables e below (T4.setTop (mkF m 9 #[.val (.ref a1), .val (.int (2 : Int32))] [(.ref a5)])) _
    refine XS.iloadN X4.here hx rfl (hb hby d6_9) rfl ?_
    show Steps p.tables e below (T4.setTop (mkF m 10 #[.val (.ref a1), .val (.int (2 : Int32))] [(.int (2 : Int32)), (.ref a5)])) _
    refine XS.sipush X4.here hx rfl (hb hby d6_10) ?_
    show Steps p.tables e below (T4.setTop (mkF m 13 #[.val (.ref a1), .val (.int (2 : Int32))] [(.int (4095 : Int32)), (.int (2 : Int32)), (.ref a5)])) _
    refine XS.iand X4.here hx rfl (hb hby d6_13) rfl ?_
    show Steps p.tables e below (T4.setTop (mkF m 14 #[.val (.ref a1), .val (.int (2 : Int32))] [(.int ((2 : Int32) &&& (4095 : Int32))), (.ref a5)])) _
    rw [(by decide +kernel : ((2 : Int32) &&& (4095 : Int32)) = (2 : Int32))]
    show Steps p.tables e below (T4.setTop (mkF m 14 #[.val (.ref a1), .val (.int (2 : Int32))] [(.int (2 : Int32)), (.ref a5)])) _
    refine X4.iaload hx (j := (2 : Int32)) (v := (.int p11)) (by rw [e4]; exact Ar14.1) (State.isArrayOf_alike hZ.alike Ar14.2.1) Ar14.2.2 hin14 hat14 (g := (mkF m 14 #[.val (.ref a1), .val (.int (2 : Int32))] [(.int (2 : Int32)), (.ref a5)])) rfl rfl (hb hby d6_14) _ ?_
    show Steps p.tables e below (T4.setTop (mkF m 15 #[.val (.ref a1), .val (.int (2 : Int32))] [(.int p11)])) _
    exact retI X4 hx Bd.returns (hb hby d6_15) hr
  · show Q6_10 Z _ _ _ _ _ _ _ _ h0 n0 _ T4.heap _
    rw [e4]
    exact ⟨rfl, N0, rfl⟩
theorem ef_rm4_11 (m : MethodId) (x0 : Addr) (x2 : Int32) : entryFrame m #[(.ref x0), (.int (1 : Int32)), (.int x2)] 3 = mkF m 0 #[.val (.ref x0), .val (.int (1 : Int32)), .val (.int x2)] [] := by first | (simp [entryFrame, mkF, argsToLocals, Value.category]; done) | rfl
def Q4_11 (Z : State) (a1 : Addr) (p2 : Int32) (a3 : Addr) (a6 : Addr) (k7 : ClassId) (p10 : Int32) (p11 : Int32) (p12 : Int32) (k13 : ClassId) (h0 : Heap) (n0 : Nat) (v : Option Value) (h : Heap) (L : List Loc) : Prop := (v = none ∧ Fr n0 L ∧ Keep h0 h [a6] ∧ Exa Z h a6 "[I" ∧ Arv Z h a6 k13 .int (4096 : Int32) [(.int p10), (.int p2), (.int p12)] (.int (0 : Int32)))
set_option maxRecDepth 65536 in
set_option maxHeartbeats 40000000 in
theorem rm4_11 (l : Launch) (Z : State) (a0 : Array Value) (hw : ∀ d ∈ own_ws, d.before a0 Z = true) (ws : List Jvm.Cond) (a1 : Addr) (p2 : Int32) (a3 : Addr) (a6 : Addr) (k7 : ClassId) (p10 : Int32) (p11 : Int32) (p12 : Int32) (k13 : ClassId) (h0 : Heap) (n0 : Nat) (O0 : Old Z n0 h0) (F4 : Fld Z h0 a1 "com/example/vestry/vestry/Ints" "blocks" "[[I" (.ref a3)) (V8 : Arv Z h0 a3 k7 (.array .int) (1 : Int32) [(.ref a6)] .null) (V14 : Arv Z h0 a6 k13 .int (4096 : Int32) [(.int p10), (.int p11), (.int p12)] (.int (0 : Int32))) (g_a6 : n0 ≤ a6) (E_17 : Exa Z h0 a6 "[I") :
    MetFree l M_2 (head1 (Jvm.Cond.code M_2 prog_60_method_5_code 3 none :: ws) ({ frames := 0, cells := 0, slots := 0, locals := 0 } : Room)) (fun a U => a = #[(.ref a1), (.int (1 : Int32)), (.int p2)] ∧ Z.Warmed39 U.vm ∧ U.heap = h0) (fun _ _ _ _ _ => True) (fun _ U o U' => ∃ v L, o = .returned v ∧ Q4_11 Z a1 p2 a3 a6 k7 p10 p11 p12 k13 h0 n0 v U'.heap L ∧ FrameEnd U o U' L ({ frames := 0, cells := 0, slots := 0, locals := 0 } : Room).cells ({ frames := 0, cells := 0, slots := 0, locals := 0 } : Room).slots) := by
  refine MetFree.of_bodySF (plainFor_of_name pn_0) hisR ?_
  intro p e s m args below meth c s₁ Bd hml0 hP hK
  obtain ⟨rfl, hZ, hh⟩ := hP
  have hx := Bd.exec
  have hby := Bd.bytes
  have hml : c.maxLocals = 3 := hml0
  have hown : s.vm.findClass "com/example/vestry/vestry/Ints" = some m.cls := findClass_of_methodNamed Bd.named
  have hnm := (name_of_methodNamed Bd.named Bd.method).1
  have X0 : Stand p l e ({ frames := 0, cells := 0, slots := 0, locals := 0 } : Room) s m #[(.ref a1), (.int (1 : Int32)), (.int p2)] below meth c s₁ [] 0 0 := Stand.of_body Bd
  have e0 : s₁.heap = h0 := by rw [← hh, Bd.state]; rfl
  have N0 := Fr.nil n0
  have pre0 : ∀ t, Steps p.tables e below (s₁.setTop (mkF m 0 #[.val (.ref a1), .val (.int (1 : Int32)), .val (.int p2)] [])) t → Steps p.tables e below (s₁.setTop (entryFrame m #[(.ref a1), (.int (1 : Int32)), (.int p2)] 3)) t := fun t k => castTop (ef_rm4_11 m a1 p2) k
  obtain ⟨T5, X5, e5, st5⟩ := getF X0 hx hZ hown (host := "") (Or.inl (hw _ (gw 12 rfl))) Via.refl e0 F4 (g := (mkF m 1 #[.val (.ref a1), .val (.int (1 : Int32)), .val (.int p2)] [(.ref a1)])) rfl rfl (hb hby d4_1)
  obtain ⟨cl9, Ar9, -, Sz9, -, Hh9, -⟩ := id V8
  have hin9 : ¬ ((0 : Int32) < 0 ∨ cl9.slots.size ≤ ((0 : Int32)).toNatClampNeg) := inb_of Sz9 ⟨by decide +kernel, by decide +kernel⟩
  have hat9 : cl9.slots[((0 : Int32)).toNatClampNeg]? = some (.ref a6) := Has.at Hh9 hin9 rfl
  obtain ⟨cl15, Ar15, qk15, Sz15, Nn15, Hh15, Gg15⟩ := id V14
  have hin15 : ¬ ((1 : Int32) < 0 ∨ cl15.slots.size ≤ ((1 : Int32)).toNatClampNeg) := inb_of Sz15 ⟨by decide +kernel, by decide +kernel⟩
  obtain ⟨T16, h16, X16, e16, W16, st16⟩ := stI X5 hx hZ e5 Ar15 (j := (1 : Int32)) hin15 (g := (mkF m 15 #[.val (.ref a1), .val (.int (1 : Int32)), .val (.int p2)] [(.int p2), (.int (1 : Int32)), (.ref a6)])) rfl rfl (hb hby d4_15)
  have O16 : Old Z n0 h16 := O0.wr W16 g_a6
  have V16 : Arv Z h16 a6 k13 .int (4096 : Int32) [(.int p10), (.int p2), (.int p12)] (.int (0 : Int32)) := Arv.set Ar15 qk15 Sz15 Nn15 Hh15 Gg15 rfl W16 1 rfl (Nat.le_of_ble_eq_true rfl)
  have N16 := Fr.snoc X16 N0 g_a6
  obtain ⟨fs, hr, hrun, hended, hW, hsame⟩ := X16.leave (v := none) (fun _ => rfl)
  have f18 : Exa Z h16 a6 "[I" := (Exa.wr W16 E_17)
  refine ⟨_, _, pre0 _ ?_, hrun, hended, _, _, rfl, ?_, ⟨_, rfl⟩, hW, hsame.mono (by decide) (by decide)⟩
  · show Steps p.tables e below (s₁.setTop (mkF m 0 #[.val (.ref a1), .val (.int (1 : Int32)), .val (.int p2)] [])) _
    refine XS.aloadN X0.here hx rfl (hb hby d4_0) rfl rfl ?_
    show Steps p.tables e below (s₁.setTop (mkF m 1 #[.val (.ref a1), .val (.int (1 : Int32)), .val (.int p2)] [(.ref a1)])) _
    refine st5 _ ?_
    show Steps p.tables e below (T5.setTop (mkF m 4 #[.val (.ref a1), .val (.int (1 : Int32)), .val (.int p2)] [(.ref a3)])) _
    refine XS.iloadN X5.here hx rfl (hb hby d4_4) rfl ?_
    show Steps p.tables e below (T5.setTop (mkF m 5 #[.val (.ref a1), .val (.int (1 : Int32)), .val (.int p2)] [(.int (1 : Int32)), (.ref a3)])) _
    refine XS.bipush X5.here hx rfl (hb hby d4_5) ?_
    show Steps p.tables e below (T5.setTop (mkF m 7 #[.val (.ref a1), .val (.int (1 : Int32)), .val (.int p2)] [(.int (12 : Int32)), (.int (1 : Int32)), (.ref a3)])) _
    refine XS.iushr X5.here hx rfl (hb hby d4_7) rfl ?_
    show Steps p.tables e below (T5.setTop (mkF m 8 #[.val (.ref a1), .val (.int (1 : Int32)), .val (.int p2)] [(.int (((1 : Int32).toUInt32 >>> ((12 : Int32) &&& 31).toUInt32).toInt32)), (.ref a3)])) _
    rw [(by decide +kernel : (((1 : Int32).toUInt32 >>> ((12 : Int32) &&& 31).toUInt32).toInt32) = (0 : Int32))]
    show Steps p.tables e below (T5.setTop (mkF m 8 #[.val (.ref a1), .val (.int (1 : Int32)), .val (.int p2)] [(.int (0 : Int32)), (.ref a3)])) _
    refine X5.aaload hx (j := (0 : Int32)) (v := (.ref a6)) (by rw [e5]; exact Ar9.1) (State.isArrayOf_alike hZ.alike Ar9.2.1) rfl Ar9.2.2 hin9 hat9 (g := (mkF m 8 #[.val (.ref a1), .val (.int (1 : Int32)), .val (.int p2)] [(.int (0 : Int32)), (.ref a3)])) rfl rfl (hb hby d4_8) _ ?_
    show Steps p.tables e below (T5.setTop (mkF m 9 #[.val (.ref a1), .val (.int (1 : Int32)), .val (.int p2)] [(.ref a6)])) _
    refine XS.iloadN X5.here hx rfl (hb hby d4_9) rfl ?_
    show Steps p.tables e below (T5.setTop (mkF m 10 #[.val (.ref a1), .val (.int (1 : Int32)), .val (.int p2)] [(.int (1 : Int32)), (.ref a6)])) _
    refine XS.sipush X5.here hx rfl (hb hby d4_10) ?_
    show Steps p.tables e below (T5.setTop (mkF m 13 #[.val (.ref a1), .val (.int (1 : Int32)), .val (.int p2)] [(.int (4095 : Int32)), (.int (1 : Int32)), (.ref a6)])) _
    refine XS.iand X5.here hx rfl (hb hby d4_13) rfl ?_
    show Steps p.tables e below (T5.setTop (mkF m 14 #[.val (.ref a1), .val (.int (1 : Int32)), .val (.int p2)] [(.int ((1 : Int32) &&& (4095 : Int32))), (.ref a6)])) _
    rw [(by decide +kernel : ((1 : Int32) &&& (4095 : Int32)) = (1 : Int32))]
    show Steps p.tables e below (T5.setTop (mkF m 14 #[.val (.ref a1), .val (.int (1 : Int32)), .val (.int p2)] [(.int (1 : Int32)), (.ref a6)])) _
    refine XS.iloadN X5.here hx rfl (hb hby d4_14) rfl ?_
    show Steps p.tables e below (T5.setTop (mkF m 15 #[.val (.ref a1), .val (.int (1 : Int32)), .val (.int p2)] [(.int p2), (.int (1 : Int32)), (.ref a6)])) _
    refine st16 _ ?_
    show Steps p.tables e below (T16.setTop (mkF m 16 #[.val (.ref a1), .val (.int (1 : Int32)), .val (.int p2)] [])) _
    exact X16.returnOut hx Bd.returns (hb hby d4_16) hr
  · show Q4_11 Z _ _ _ _ _ _ _ _ _ h0 n0 _ T16.heap _
    rw [e16]
    exact ⟨rfl, N16, ((Keep.refl h0 [a6]).wr W16 (Or.inl (List.mem_of_getElem? (i := 0) rfl))), f18, V16⟩
theorem ef_rm4_12 (m : MethodId) (x0 : Addr) (x2 : Int32) : entryFrame m #[(.ref x0), (.int (2 : Int32)), (.int x2)] 3 = mkF m 0 #[.val (.ref x0), .val (.int (2 : Int32)), .val (.int x2)] [] := by first | (simp [entryFrame, mkF, argsToLocals, Value.category]; done) | rfl
def Q4_12 (Z : State) (a1 : Addr) (p2 : Int32) (a3 : Addr) (a6 : Addr) (k7 : ClassId) (p10 : Int32) (p11 : Int32) (p12 : Int32) (k13 : ClassId) (h0 : Heap) (n0 : Nat) (v : Option Value) (h : Heap) (L : List Loc) : Prop := (v = none ∧ Fr n0 L ∧ Keep h0 h [a6] ∧ Exa Z h a6 "[I" ∧ Arv Z h a6 k13 .int (4096 : Int32) [(.int p10), (.int p11), (.int p2)] (.int (0 : Int32)))
set_option maxRecDepth 65536 in
set_option maxHeartbeats 40000000 in
theorem rm4_12 (l : Launch) (Z : State) (a0 : Array Value) (hw : ∀ d ∈ own_ws, d.before a0 Z = true) (ws : List Jvm.Cond) (a1 : Addr) (p2 : Int32) (a3 : Addr) (a6 : Addr) (k7 : ClassId) (p10 : Int32) (p11 : Int32) (p12 : Int32) (k13 : ClassId) (h0 : Heap) (n0 : Nat) (O0 : Old Z n0 h0) (F4 : Fld Z h0 a1 "com/example/vestry/vestry/Ints" "blocks" "[[I" (.ref a3)) (V8 : Arv Z h0 a3 k7 (.array .int) (1 : Int32) [(.ref a6)] .null) (V14 : Arv Z h0 a6 k13 .int (4096 : Int32) [(.int p10), (.int p11), (.int p12)] (.int (0 : Int32))) (g_a6 : n0 ≤ a6) (E_17 : Exa Z h0 a6 "[I") :
    MetFree l M_2 (head1 (Jvm.Cond.code M_2 prog_60_method_5_code 3 none :: ws) ({ frames := 0, cells := 0, slots := 0, locals := 0 } : Room)) (fun a U => a = #[(.ref a1), (.int (2 : Int32)), (.int p2)] ∧ Z.Warmed39 U.vm ∧ U.heap = h0) (fun _ _ _ _ _ => True) (fun _ U o U' => ∃ v L, o = .returned v ∧ Q4_12 Z a1 p2 a3 a6 k7 p10 p11 p12 k13 h0 n0 v U'.heap L ∧ FrameEnd U o U' L ({ frames := 0, cells := 0, slots := 0, locals := 0 } : Room).cells ({ frames := 0, cells := 0, slots := 0, locals := 0 } : Room).slots) := by
  refine MetFree.of_bodySF (plainFor_of_name pn_0) hisR ?_
  intro p e s m args below meth c s₁ Bd hml0 hP hK
  obtain ⟨rfl, hZ, hh⟩ := hP
  have hx := Bd.exec
  have hby := Bd.bytes
  have hml : c.maxLocals = 3 := hml0
  have hown : s.vm.findClass "com/example/vestry/vestry/Ints" = some m.cls := findClass_of_methodNamed Bd.named
  have hnm := (name_of_methodNamed Bd.named Bd.method).1
  have X0 : Stand p l e ({ frames := 0, cells := 0, slots := 0, locals := 0 } : Room) s m #[(.ref a1), (.int (2 : Int32)), (.int p2)] below meth c s₁ [] 0 0 := Stand.of_body Bd
  have e0 : s₁.heap = h0 := by rw [← hh, Bd.state]; rfl
  have N0 := Fr.nil n0
  have pre0 : ∀ t, Steps p.tables e below (s₁.setTop (mkF m 0 #[.val (.ref a1), .val (.int (2 : Int32)), .val (.int p2)] [])) t → Steps p.tables e below (s₁.setTop (entryFrame m #[(.ref a1), (.int (2 : Int32)), (.int p2)] 3)) t := fun t k => castTop (ef_rm4_12 m a1 p2) k
  obtain ⟨T5, X5, e5, st5⟩ := getF X0 hx hZ hown (host := "") (Or.inl (hw _ (gw 12 rfl))) Via.refl e0 F4 (g := (mkF m 1 #[.val (.ref a1), .val (.int (2 : Int32)), .val (.int p2)] [(.ref a1)])) rfl rfl (hb hby d4_1)
  obtain ⟨cl9, Ar9, -, Sz9, -, Hh9, -⟩ := id V8
  have hin9 : ¬ ((0 : Int32) < 0 ∨ cl9.slots.size ≤ ((0 : Int32)).toNatClampNeg) := inb_of Sz9 ⟨by decide +kernel, by decide +kernel⟩
  have hat9 : cl9.slots[((0 : Int32)).toNatClampNeg]? = some (.ref a6) := Has.at Hh9 hin9 rfl
  obtain ⟨cl15, Ar15, qk15, Sz15, Nn15, Hh15, Gg15⟩ := id V14
  have hin15 : ¬ ((2 : Int32) < 0 ∨ cl15.slots.size ≤ ((2 : Int32)).toNatClampNeg) := inb_of Sz15 ⟨by decide +kernel, by decide +kernel⟩
  obtain ⟨T16, h16, X16, e16, W16, st16⟩ := stI X5 hx hZ e5 Ar15 (j := (2 : Int32)) hin15 (g := (mkF m 15 #[.val (.ref a1), .val (.int (2 : Int32)), .val (.int p2)] [(.int p2), (.int (2 : Int32)), (.ref a6)])) rfl rfl (hb hby d4_15)
  have O16 : Old Z n0 h16 := O0.wr W16 g_a6
  have V16 : Arv Z h16 a6 k13 .int (4096 : Int32) [(.int p10), (.int p11), (.int p2)] (.int (0 : Int32)) := Arv.set Ar15 qk15 Sz15 Nn15 Hh15 Gg15 rfl W16 2 rfl (Nat.le_of_ble_eq_true rfl)
  have N16 := Fr.snoc X16 N0 g_a6
  obtain ⟨fs, hr, hrun, hended, hW, hsame⟩ := X16.leave (v := none) (fun _ => rfl)
  have f18 : Exa Z h16 a6 "[I" := (Exa.wr W16 E_17)
  refine ⟨_, _, pre0 _ ?_, hrun, hended, _, _, rfl, ?_, ⟨_, rfl⟩, hW, hsame.mono (by decide) (by decide)⟩
  · show Steps p.tables e below (s₁.setTop (mkF m 0 #[.val (.ref a1), .val (.int (2 : Int32)), .val (.int p2)] [])) _
    refine XS.aloadN X0.here hx rfl (hb hby d4_0) rfl rfl ?_
    show Steps p.tables e below (s₁.setTop (mkF m 1 #[.val (.ref a1), .val (.int (2 : Int32)), .val (.int p2)] [(.ref a1)])) _
    refine st5 _ ?_
    show Steps p.tables e below (T5.setTop (mkF m 4 #[.val (.ref a1), .val (.int (2 : Int32)), .val (.int p2)] [(.ref a3)])) _
    refine XS.iloadN X5.here hx rfl (hb hby d4_4) rfl ?_
    show Steps p.tables e below (T5.setTop (mkF m 5 #[.val (.ref a1), .val (.int (2 : Int32)), .val (.int p2)] [(.int (2 : Int32)), (.ref a3)])) _
    refine XS.bipush X5.here hx rfl (hb hby d4_5) ?_
    show Steps p.tables e below (T5.setTop (mkF m 7 #[.val (.ref a1), .val (.int (2 : Int32)), .val (.int p2)] [(.int (12 : Int32)), (.int (2 : Int32)), (.ref a3)])) _
    refine XS.iushr X5.here hx rfl (hb hby d4_7) rfl ?_
    show Steps p.tables e below (T5.setTop (mkF m 8 #[.val (.ref a1), .val (.int (2 : Int32)), .val (.int p2)] [(.int (((2 : Int32).toUInt32 >>> ((12 : Int32) &&& 31).toUInt32).toInt32)), (.ref a3)])) _
    rw [(by decide +kernel : (((2 : Int32).toUInt32 >>> ((12 : Int32) &&& 31).toUInt32).toInt32) = (0 : Int32))]
    show Steps p.tables e below (T5.setTop (mkF m 8 #[.val (.ref a1), .val (.int (2 : Int32)), .val (.int p2)] [(.int (0 : Int32)), (.ref a3)])) _
    refine X5.aaload hx (j := (0 : Int32)) (v := (.ref a6)) (by rw [e5]; exact Ar9.1) (State.isArrayOf_alike hZ.alike Ar9.2.1) rfl Ar9.2.2 hin9 hat9 (g := (mkF m 8 #[.val (.ref a1), .val (.int (2 : Int32)), .val (.int p2)] [(.int (0 : Int32)), (.ref a3)])) rfl rfl (hb hby d4_8) _ ?_
    show Steps p.tables e below (T5.setTop (mkF m 9 #[.val (.ref a1), .val (.int (2 : Int32)), .val (.int p2)] [(.ref a6)])) _
    refine XS.iloadN X5.here hx rfl (hb hby d4_9) rfl ?_
    show Steps p.tables e below (T5.setTop (mkF m 10 #[.val (.ref a1), .val (.int (2 : Int32)), .val (.int p2)] [(.int (2 : Int32)), (.ref a6)])) _
    refine XS.sipush X5.here hx rfl (hb hby d4_10) ?_
    show Steps p.tables e below (T5.setTop (mkF m 13 #[.val (.ref a1), .val (.int (2 : Int32)), .val (.int p2)] [(.int (4095 : Int32)), (.int (2 : Int32)), (.ref a6)])) _
    refine XS.iand X5.here hx rfl (hb hby d4_13) rfl ?_
    show Steps p.tables e below (T5.setTop (mkF m 14 #[.val (.ref a1), .val (.int (2 : Int32)), .val (.int p2)] [(.int ((2 : Int32) &&& (4095 : Int32))), (.ref a6)])) _
    rw [(by decide +kernel : ((2 : Int32) &&& (4095 : Int32)) = (2 : Int32))]
    show Steps p.tables e below (T5.setTop (mkF m 14 #[.val (.ref a1), .val (.int (2 : Int32)), .val (.int p2)] [(.int (2 : Int32)), (.ref a6)])) _
    refine XS.iloadN X5.here hx rfl (hb hby d4_14) rfl ?_
    show Steps p.tables e below (T5.setTop (mkF m 15 #[.val (.ref a1), .val (.int (2 : Int32)), .val (.int p2)] [(.int p2), (.int (2 : Int32)), (.ref a6)])) _
    refine st16 _ ?_
    show Steps p.tables e below (T16.setTop (mkF m 16 #[.val (.ref a1), .val (.int (2 : Int32)), .val (.int p2)] [])) _
    exact X16.returnOut hx Bd.returns (hb hby d4_16) hr
  · show Q4_12 Z _ _ _ _ _ _ _ _ _ h0 n0 _ T16.heap _
    rw [e16]
    exact ⟨rfl, N16, ((Keep.refl h0 [a6]).wr W16 (Or.inl (List.mem_of_getElem? (i := 0) rfl))), f18, V16⟩
theorem ef_rm0 (m : MethodId) (x0 : Int32) (x1 : Int32) (x2 : Int32) (x3 : Int32) (x4 : Int32) : entryFrame m #[(.int x0), (.int x1), (.int x2), (.int x3), (.int x4)] maxLocals = mkF m 0 #[.val (.int x0), .val (.int x1), .val (.int x2), .val (.int x3), .val (.int x4), .unset, .unset, .unset, .unset, .unset] [] := by first | (simp [entryFrame, mkF, argsToLocals, Value.category, maxLocals]; done) | rfl
def Q0 (Z : State) (p1 : Int32) (p2 : Int32) (p3 : Int32) (p4 : Int32) (p5 : Int32) (h0 : Heap) (n0 : Nat) (v : Option Value) (h : Heap) (L : List Loc) : Prop := v = some (.int 1) ∧ Fr n0 L
set_option maxRecDepth 65536 in
set_option maxHeartbeats 40000000 in
theorem rm0 (l : Launch) (Z : State) (a0 : Array Value) (hw : ∀ d ∈ own_ws, d.before a0 Z = true) (ws : List Jvm.Cond) (p1 : Int32) (p2 : Int32) (p3 : Int32) (p4 : Int32) (p5 : Int32) (h0 : Heap) (n0 : Nat) (O0 : Old Z n0 h0) :
    MetFree l x (head1 (Jvm.Cond.code x code maxLocals ret :: ws) room_1) (fun a U => a = #[(.int p1), (.int p2), (.int p3), (.int p4), (.int p5)] ∧ Z.Warmed39 U.vm ∧ U.heap = h0) (fun _ _ _ _ _ => True) (fun _ U o U' => ∃ v L, o = .returned v ∧ Q0 Z p1 p2 p3 p4 p5 h0 n0 v U'.heap L ∧ FrameEnd U o U' L room_1.cells room_1.slots) := by
  refine MetFree.of_bodySF (plainFor_of_name pn_1) hisR ?_
  intro p e s m args below meth c s₁ Bd hml0 hP hK
  obtain ⟨rfl, hZ, hh⟩ := hP
  have hx := Bd.exec
  have hby := Bd.bytes
  have hml : c.maxLocals = 10 := hml0
  have hown : s.vm.findClass "com/example/vestry/vestry/IntsSetPinLaw" = some m.cls := findClass_of_methodNamed Bd.named
  have hnm := (name_of_methodNamed Bd.named Bd.method).1
  have X0 : Stand p l e room_1 s m #[(.int p1), (.int p2), (.int p3), (.int p4), (.int p5)] below meth c s₁ [] 0 0 := Stand.of_body Bd
  have e0 : s₁.heap = h0 := by rw [← hh, Bd.state]; rfl
  have N0 := Fr.nil n0
  have pre0 : ∀ t, Steps p.tables e below (s₁.setTop (mkF m 0 #[.val (.int p1), .val (.int p2), .val (.int p3), .val (.int p4), .val (.int p5), .unset, .unset, .unset, .unset, .unset] [])) t → Steps p.tables e below (s₁.setTop (entryFrame m #[(.int p1), (.int p2), (.int p3), (.int p4), (.int p5)] maxLocals)) t := fun t k => castTop (ef_rm0 m p1 p2 p3 p4 p5) k
  obtain ⟨i6, hi6⟩ : ∃ z, z = (p4 &&& (2147483647 : Int32)) := ⟨_, rfl⟩
  have pre8 : ∀ t, Steps p.tables e below (s₁.setTop (mkF m 5 #[.val (.int p1), .val (.int p2), .val (.int p3), .val (.int p4), .val (.int p5), .unset, .unset, .unset, .unset, .unset] [(.int (3 : Int32)), (.int i6)])) t → Steps p.tables e below (s₁.setTop (entryFrame m #[(.int p1), (.int p2), (.int p3), (.int p4), (.int p5)] maxLocals)) t := by
    intro t kt
    refine pre0 t ?_
    show Steps p.tables e below (s₁.setTop (mkF m 0 #[.val (.int p1), .val (.int p2), .val (.int p3), .val (.int p4), .val (.int p5), .unset, .unset, .unset, .unset, .unset] [])) _
    refine XS.iloadN X0.here hx rfl (hb hby at_0) rfl ?_
    show Steps p.tables e below (s₁.setTop (mkF m 1 #[.val (.int p1), .val (.int p2), .val (.int p3), .val (.int p4), .val (.int p5), .unset, .unset, .unset, .unset, .unset] [(.int p4)])) _
    refine X0.ldcInt hx hown (mvT hZ (hw _ (gw 0 rfl))) (g := (mkF m 1 #[.val (.int p1), .val (.int p2), .val (.int p3), .val (.int p4), .val (.int p5), .unset, .unset, .unset, .unset, .unset] [(.int p4)])) rfl (hb hby at_1) _ ?_
    show Steps p.tables e below (s₁.setTop (mkF m 3 #[.val (.int p1), .val (.int p2), .val (.int p3), .val (.int p4), .val (.int p5), .unset, .unset, .unset, .unset, .unset] [(.int (2147483647 : Int32)), (.int p4)])) _
    refine XS.iand X0.here hx rfl (hb hby at_3) rfl ?_
    show Steps p.tables e below (s₁.setTop (mkF m 4 #[.val (.int p1), .val (.int p2), .val (.int p3), .val (.int p4), .val (.int p5), .unset, .unset, .unset, .unset, .unset] [(.int (p4 &&& (2147483647 : Int32)))])) _
    rw [← hi6]
    show Steps p.tables e below (s₁.setTop (mkF m 4 #[.val (.int p1), .val (.int p2), .val (.int p3), .val (.int p4), .val (.int p5), .unset, .unset, .unset, .unset, .unset] [(.int i6)])) _
    refine XS.iconst X0.here hx rfl (hb hby at_4) ?_
    show Steps p.tables e below (s₁.setTop (mkF m 5 #[.val (.int p1), .val (.int p2), .val (.int p3), .val (.int p4), .val (.int p5), .unset, .unset, .unset, .unset, .unset] [(.int (3 : Int32)), (.int i6)])) _
    exact kt
  rcases (own_mod3 hi6) with hq7 | hq7 | hq7
  · skip
    obtain ⟨T9, h9, X9, e9, E9, A9, D9, -, st9⟩ := newO X0 hx hZ hown (hw _ (gw 1 rfl)) (hw _ (gw 2 rfl)) (hw _ (gw 3 rfl)) e0 (g := (mkF m 8 #[.val (.int p1), .val (.int p2), .val (.int p3), .val (.int p4), .val (.int p5), .val (.int (0 : Int32)), .unset, .unset, .unset, .unset] [])) rfl (hb hby at_8) (by decide) (by decide)
    obtain ⟨b9, g9⟩ : ∃ z, z = h0.size := ⟨_, rfl⟩
    rw [← g9] at A9 D9 st9
    have O9 : Old Z n0 h9 := O0.ext E9
    have bd_b9 : h0.size ≤ b9 := Nat.le_of_eq g9.symm
    have g_b9 : n0 ≤ b9 := Nat.le_trans (own_z O0) bd_b9
    have sz_b9 : h0.size ≤ b9 := Nat.le_trans (Nat.le_refl _) bd_b9
    have lt_b9 : b9 < h9.size := A9.lt
    have D9_13 : Fld Z h9 b9 "com/example/vestry/vestry/Ints" "blocks" "[[I" .null := D9 (Or.inl (hw _ (gw 13 rfl))) (ty := (.array (.array .int))) (by decide)
    have D9_20 : Fld Z h9 b9 "com/example/vestry/vestry/Ints" "size" "I" (.int (0 : Int32)) := D9 (Or.inl (hw _ (gw 20 rfl))) (ty := .int) (by decide)
    obtain ⟨_, _, ⟨T10, L10, k10, n10⟩, -, X10, ⟨Lc10, hQ10, l10, y10, z10⟩, st10⟩ := X9.specialBack hx (y := M_0) rfl hown (mvT hZ (hw _ (gw 4 rfl))) (mvT hZ (hw _ (gw 5 rfl))) (mvT hZ (hw _ (gw 6 rfl))) (by decide) (backOf (W := 1) (rm1_2 l Z a0 hw [] b9 h9 n0  O9 A9 D9_13 D9_20 g_b9 lt_b9) hZ (hw _ (gw 6 rfl)) (hw _ (gw 3 rfl)) (by decide) (by decide)) (g := (mkF m 12 #[.val (.int p1), .val (.int p2), .val (.int p3), .val (.int p4), .val (.int p5), .val (.int (0 : Int32)), .unset, .unset, .unset, .unset] [(.ref b9), (.ref b9)])) rfl (by rw [hml]; rfl) (Steps.refl _) (a := b9) (argsL := []) (rest := [(.ref b9)]) (lenOf pd_0 rfl) rfl (by show 2 * 0 + _ ≤ _; exact Nat.le_of_eq rfl) (hb hby at_12) (fun _ _ => ⟨rfl, e9, (by decide : 1 + 1 ≤ _), (by decide : 2 + 1 ≤ _)⟩)
    dsimp only [Pt.U, Pt.locs, Pt.cells, Pt.slots] at X10 l10 y10 z10 st10 hQ10
    subst l10 y10 z10
    obtain ⟨b11, k12, rfl, u14, u15, u16, Ku17, u18, u19, u20, u21, u22, u23⟩ := hQ10
    have Ou17 : Old Z n0 T10.heap := O9.keep Ku17 (allS g_b9 all0)
    have g_b11 : n0 ≤ b11 := Nat.le_trans (own_z O9) u15
    have sz_b11 : h0.size ≤ b11 := Nat.le_trans E9.1 u15
    have N10 := Fr.app N0 u14
    obtain ⟨cq24, kq24, q24a, q24b, q24c⟩ := isOf hZ rfl u18
    obtain ⟨_, _, ⟨T24, L24, k24, n24⟩, -, X24, ⟨Lc24, hQ24, l24, y24, z24⟩, st24⟩ := X10.virtualBack hx (y := M_1) (z := M_1) hown (mvT hZ (hw _ (gw 14 rfl))) (mvT hZ (hw _ (gw 15 rfl))) (notFace_of_selects (args := #[]) (mvT hZ (hw _ (gw 17 rfl)))) (mvT hZ (hw _ (gw 17 rfl))) (mvT hZ (hw _ (gw 16 rfl))) (by decide) (backOf (W := 0) (rm3_3 l Z a0 hw [] b9 p1 b11 k12 T10.heap n0  Ou17 u20 u19 u22 u23 g_b11 u21 (Nat.ne_of_lt (Nat.lt_of_lt_of_le lt_b9 u15)) u16 (Nat.lt_of_lt_of_le lt_b9 Ku17.1) u18 g_b9) hZ (hw _ (gw 18 rfl)) (hw _ (gw 3 rfl)) (by decide) (by decide)) q24a q24c (g := (mkF m 20 #[.val (.int p1), .val (.int p2), .val (.int p3), .val (.int p4), .val (.int p5), .val (.int (0 : Int32)), .val (.ref b9), .unset, .unset, .unset] [(.int p1), (.ref b9)])) rfl (by rw [hml]; rfl) (Steps.refl _) (argsL := [(.int p1)]) (rest := []) (lenOf pd_1 rfl) rfl (by show 2 * 0 + _ ≤ _; exact Nat.le_of_eq rfl) (hb hby at_20) (fun _ _ => ⟨rfl, rfl, (by decide : 2 + 1 ≤ _), (by decide : 3 + 4096 ≤ _)⟩)
    dsimp only [Pt.U, Pt.locs, Pt.cells, Pt.slots] at X24 l24 y24 z24 st24 hQ24
    subst l24 y24 z24
    obtain ⟨b25, k26, rfl, u28, u29, u30, Ku31, u32, u33, u34, u35, u36, u37, u38, u39⟩ := hQ24
    have Ou31 : Old Z n0 T24.heap := Ou17.keep Ku31 (allS g_b11 (allS g_b9 all0))
    have g_b25 : n0 ≤ b25 := Nat.le_trans (own_z Ou17) u29
    have sz_b25 : h0.size ≤ b25 := Nat.le_trans (Nat.le_trans E9.1 Ku17.1) u29
    have N24 := Fr.app N10 u28
    obtain ⟨cq40, kq40, q40a, q40b, q40c⟩ := isOf hZ rfl u35
    obtain ⟨_, _, ⟨T40, L40, k40, n40⟩, -, X40, ⟨Lc40, hQ40, l40, y40, z40⟩, st40⟩ := X24.virtualBack hx (y := M_1) (z := M_1) hown (mvT hZ (hw _ (gw 14 rfl))) (mvT hZ (hw _ (gw 15 rfl))) (notFace_of_selects (args := #[]) (mvT hZ (hw _ (gw 17 rfl)))) (mvT hZ (hw _ (gw 17 rfl))) (mvT hZ (hw _ (gw 16 rfl))) (by decide) (backOf (W := 0) (rm3_4 l Z a0 hw [] b9 p2 b11 b25 k12 p1 k26 T24.heap n0  Ou31 u37 u36 u33 u39 g_b25 u38 (Nat.ne_of_lt (Nat.lt_of_lt_of_le (Nat.lt_of_lt_of_le lt_b9 Ku17.1) u29)) u35 g_b9) hZ (hw _ (gw 18 rfl)) (hw _ (gw 3 rfl)) (by decide) (by decide)) q40a q40c (g := (mkF m 26 #[.val (.int p1), .val (.int p2), .val (.int p3), .val (.int p4), .val (.int p5), .val (.int (0 : Int32)), .val (.ref b9), .unset, .unset, .unset] [(.int p2), (.ref b9)])) rfl (by rw [hml]; rfl) (Steps.refl _) (argsL := [(.int p2)]) (rest := []) (lenOf pd_1 rfl) rfl (by show 2 * 0 + _ ≤ _; exact Nat.le_of_eq rfl) (hb hby at_26) (fun _ _ => ⟨rfl, rfl, (by decide : 3 + 0 ≤ _), (by decide : 4099 + 0 ≤ _)⟩)
    dsimp only [Pt.U, Pt.locs, Pt.cells, Pt.slots] at X40 l40 y40 z40 st40 hQ40
    subst l40 y40 z40
    obtain ⟨rfl, u42, Ku43, u44, u45, u46, u47, u48⟩ := hQ40
    have Ou43 : Old Z n0 T40.heap := Ou31.keep Ku43 (allS g_b25 (allS g_b9 all0))
    have N40 := Fr.app N24 u42
    have f49 : Arv Z T40.heap b11 k12 (.array .int) (1 : Int32) [(.ref b25)] .null := (u33.keep Ku43 (ninS (Nat.ne_of_lt (Nat.lt_of_lt_of_le u16 u29)) (ninS (Ne.symm (Nat.ne_of_lt (Nat.lt_of_lt_of_le lt_b9 u15))) nin0)))
    obtain ⟨cq50, kq50, q50a, q50b, q50c⟩ := isOf hZ rfl u46
    obtain ⟨_, _, ⟨T50, L50, k50, n50⟩, -, X50, ⟨Lc50, hQ50, l50, y50, z50⟩, st50⟩ := X40.virtualBack hx (y := M_1) (z := M_1) hown (mvT hZ (hw _ (gw 14 rfl))) (mvT hZ (hw _ (gw 15 rfl))) (notFace_of_selects (args := #[]) (mvT hZ (hw _ (gw 17 rfl)))) (mvT hZ (hw _ (gw 17 rfl))) (mvT hZ (hw _ (gw 16 rfl))) (by decide) (backOf (W := 0) (rm3_5 l Z a0 hw [] b9 p3 b11 b25 k12 p1 p2 k26 T40.heap n0  Ou43 u48 u47 f49 u45 g_b25 u44 (Nat.ne_of_lt (Nat.lt_of_lt_of_le (Nat.lt_of_lt_of_le lt_b9 Ku17.1) u29)) u46 g_b9) hZ (hw _ (gw 18 rfl)) (hw _ (gw 3 rfl)) (by decide) (by decide)) q50a q50c (g := (mkF m 32 #[.val (.int p1), .val (.int p2), .val (.int p3), .val (.int p4), .val (.int p5), .val (.int (0 : Int32)), .val (.ref b9), .unset, .unset, .unset] [(.int p3), (.ref b9)])) rfl (by rw [hml]; rfl) (Steps.refl _) (argsL := [(.int p3)]) (rest := []) (lenOf pd_1 rfl) rfl (by show 2 * 0 + _ ≤ _; exact Nat.le_of_eq rfl) (hb hby at_32) (fun _ _ => ⟨rfl, rfl, (by decide : 3 + 0 ≤ _), (by decide : 4099 + 0 ≤ _)⟩)
    dsimp only [Pt.U, Pt.locs, Pt.cells, Pt.slots] at X50 l50 y50 z50 st50 hQ50
    subst l50 y50 z50
    obtain ⟨rfl, u52, Ku53, u54, u55, u56, u57, u58⟩ := hQ50
    have Ou53 : Old Z n0 T50.heap := Ou43.keep Ku53 (allS g_b25 (allS g_b9 all0))
    have N50 := Fr.app N40 u52
    have f59 : Arv Z T50.heap b11 k12 (.array .int) (1 : Int32) [(.ref b25)] .null := (f49.keep Ku53 (ninS (Nat.ne_of_lt (Nat.lt_of_lt_of_le u16 u29)) (ninS (Ne.symm (Nat.ne_of_lt (Nat.lt_of_lt_of_le lt_b9 u15))) nin0)))
    obtain ⟨cq60, kq60, q60a, q60b, q60c⟩ := isOf hZ rfl u56
    obtain ⟨_, _, ⟨T60, L60, k60, n60⟩, -, X60, ⟨Lc60, hQ60, l60, y60, z60⟩, st60⟩ := X50.virtualBack hx (y := M_2) (z := M_2) hown (mvT hZ (hw _ (gw 23 rfl))) (mvT hZ (hw _ (gw 24 rfl))) (notFace_of_selects (args := #[]) (mvT hZ (hw _ (gw 26 rfl)))) (mvT hZ (hw _ (gw 26 rfl))) (mvT hZ (hw _ (gw 25 rfl))) (by decide) (backOf (W := 0) (rm4_6 l Z a0 hw [] b9 p5 b11 b25 k12 p1 p2 p3 k26 T50.heap n0  Ou53 u57 f59 u55 g_b25 u54) hZ (hw _ (gw 27 rfl)) (hw _ (gw 3 rfl)) (by decide) (by decide)) q60a q60c (g := (mkF m 41 #[.val (.int p1), .val (.int p2), .val (.int p3), .val (.int p4), .val (.int p5), .val (.int (0 : Int32)), .val (.ref b9), .unset, .unset, .unset] [(.int p5), (.int (0 : Int32)), (.ref b9)])) rfl (by rw [hml]; rfl) (Steps.refl _) (argsL := [(.int (0 : Int32)), (.int p5)]) (rest := []) (lenOf pd_2 rfl) rfl (by show 2 * 0 + _ ≤ _; exact Nat.le_of_eq rfl) (hb hby at_41) (fun _ _ => ⟨rfl, rfl, (by decide : 3 + 0 ≤ _), (by decide : 4099 + 0 ≤ _)⟩)
    dsimp only [Pt.U, Pt.locs, Pt.cells, Pt.slots] at X60 l60 y60 z60 st60 hQ60
    subst l60 y60 z60
    obtain ⟨rfl, u62, Ku63, u64, u65⟩ := hQ60
    have Ou63 : Old Z n0 T60.heap := Ou53.keep Ku63 (allS g_b25 all0)
    have N60 := Fr.app N50 u62
    have f66 : Fld Z T60.heap b9 "com/example/vestry/vestry/Ints" "size" "I" (.int (3 : Int32)) := (u58.keep Ku63 (ninS (Nat.ne_of_lt (Nat.lt_of_lt_of_le (Nat.lt_of_lt_of_le lt_b9 Ku17.1) u29)) nin0))
    have f68 : Exa Z T60.heap b9 "com/example/vestry/vestry/Ints" := (u56.keep Ku63)
    obtain ⟨cq67, kq67, q67a, q67b, q67c⟩ := isOf hZ rfl f68
    obtain ⟨_, _, ⟨T67, L67, k67, n67⟩, -, X67, ⟨Lc67, hQ67, l67, y67, z67⟩, st67⟩ := X60.virtualBack hx (y := M_3) (z := M_3) hown (mvT hZ (hw _ (gw 28 rfl))) (mvT hZ (hw _ (gw 29 rfl))) (notFace_of_selects (args := #[]) (mvT hZ (hw _ (gw 31 rfl)))) (mvT hZ (hw _ (gw 31 rfl))) (mvT hZ (hw _ (gw 30 rfl))) (by decide) (backOf (W := 0) (rm5_7 l Z a0 hw [] b9 T60.heap n0  Ou63 f66) hZ (hw _ (gw 32 rfl)) (hw _ (gw 3 rfl)) (by decide) (by decide)) q67a q67c (g := (mkF m 84 #[.val (.int p1), .val (.int p2), .val (.int p3), .val (.int p4), .val (.int p5), .val (.int (0 : Int32)), .val (.ref b9), .val (.int p5), .val (.int p2), .val (.int p3)] [(.ref b9)])) rfl (by rw [hml]; rfl) (Steps.refl _) (argsL := []) (rest := []) (lenOf pd_3 rfl) rfl (by show 2 * 0 + _ ≤ _; exact Nat.le_of_eq rfl) (hb hby at_84) (fun _ _ => ⟨rfl, rfl, (by decide : 3 + 0 ≤ _), (by decide : 4099 + 0 ≤ _)⟩)
    dsimp only [Pt.U, Pt.locs, Pt.cells, Pt.slots] at X67 l67 y67 z67 st67 hQ67
    subst l67 y67 z67
    obtain ⟨rfl, u70, u71⟩ := hQ67
    have N67 := Fr.app N60 u70
    have f72 : Fld Z T60.heap b9 "com/example/vestry/vestry/Ints" "blocks" "[[I" (.ref b11) := (u57.keep Ku63 (ninS (Nat.ne_of_lt (Nat.lt_of_lt_of_le (Nat.lt_of_lt_of_le lt_b9 Ku17.1) u29)) nin0))
    have f73 : Arv Z T60.heap b11 k12 (.array .int) (1 : Int32) [(.ref b25)] .null := (f59.keep Ku63 (ninS (Nat.ne_of_lt (Nat.lt_of_lt_of_le u16 u29)) nin0))
    obtain ⟨cq74, kq74, q74a, q74b, q74c⟩ := isOf hZ u71 f68
    obtain ⟨_, _, ⟨T74, L74, k74, n74⟩, -, X74, ⟨Lc74, hQ74, l74, y74, z74⟩, st74⟩ := X67.virtualBack hx (y := M_4) (z := M_4) hown (mvT hZ (hw _ (gw 33 rfl))) (mvT hZ (hw _ (gw 34 rfl))) (notFace_of_selects (args := #[]) (mvT hZ (hw _ (gw 36 rfl)))) (mvT hZ (hw _ (gw 36 rfl))) (mvT hZ (hw _ (gw 35 rfl))) (by decide) (backOf (W := 0) (rm6_8 l Z a0 hw [] b9 b11 b25 k12 p5 p2 p3 k26 T60.heap n0  Ou63 f72 f73 u65) hZ (hw _ (gw 37 rfl)) (hw _ (gw 3 rfl)) (by decide) (by decide)) q74a q74c (g := (mkF m 94 #[.val (.int p1), .val (.int p2), .val (.int p3), .val (.int p4), .val (.int p5), .val (.int (0 : Int32)), .val (.ref b9), .val (.int p5), .val (.int p2), .val (.int p3)] [(.int (0 : Int32)), (.ref b9)])) rfl (by rw [hml]; rfl) (Steps.refl _) (argsL := [(.int (0 : Int32))]) (rest := []) (lenOf pd_4 rfl) rfl (by show 2 * 0 + _ ≤ _; exact Nat.le_of_eq rfl) (hb hby at_94) (fun _ _ => ⟨rfl, u71, (by decide : 3 + 0 ≤ _), (by decide : 4099 + 0 ≤ _)⟩)
    dsimp only [Pt.U, Pt.locs, Pt.cells, Pt.slots] at X74 l74 y74 z74 st74 hQ74
    subst l74 y74 z74
    obtain ⟨rfl, u76, u77⟩ := hQ74
    have N74 := Fr.app N67 u76
    obtain ⟨cq78, kq78, q78a, q78b, q78c⟩ := isOf hZ u77 f68
    obtain ⟨_, _, ⟨T78, L78, k78, n78⟩, -, X78, ⟨Lc78, hQ78, l78, y78, z78⟩, st78⟩ := X74.virtualBack hx (y := M_4) (z := M_4) hown (mvT hZ (hw _ (gw 33 rfl))) (mvT hZ (hw _ (gw 34 rfl))) (notFace_of_selects (args := #[]) (mvT hZ (hw _ (gw 36 rfl)))) (mvT hZ (hw _ (gw 36 rfl))) (mvT hZ (hw _ (gw 35 rfl))) (by decide) (backOf (W := 0) (rm6_9 l Z a0 hw [] b9 b11 b25 k12 p5 p2 p3 k26 T60.heap n0  Ou63 f72 f73 u65) hZ (hw _ (gw 37 rfl)) (hw _ (gw 3 rfl)) (by decide) (by decide)) q78a q78c (g := (mkF m 105 #[.val (.int p1), .val (.int p2), .val (.int p3), .val (.int p4), .val (.int p5), .val (.int (0 : Int32)), .val (.ref b9), .val (.int p5), .val (.int p2), .val (.int p3)] [(.int (1 : Int32)), (.ref b9)])) rfl (by rw [hml]; rfl) (Steps.refl _) (argsL := [(.int (1 : Int32))]) (rest := []) (lenOf pd_4 rfl) rfl (by show 2 * 0 + _ ≤ _; exact Nat.le_of_eq rfl) (hb hby at_105) (fun _ _ => ⟨rfl, u77, (by decide : 3 + 0 ≤ _), (by decide : 4099 + 0 ≤ _)⟩)
    dsimp only [Pt.U, Pt.locs, Pt.cells, Pt.slots] at X78 l78 y78 z78 st78 hQ78
    subst l78 y78 z78
    obtain ⟨rfl, u80, u81⟩ := hQ78
    have N78 := Fr.app N74 u80
    obtain ⟨cq82, kq82, q82a, q82b, q82c⟩ := isOf hZ u81 f68
    obtain ⟨_, _, ⟨T82, L82, k82, n82⟩, -, X82, ⟨Lc82, hQ82, l82, y82, z82⟩, st82⟩ := X78.virtualBack hx (y := M_4) (z := M_4) hown (mvT hZ (hw _ (gw 33 rfl))) (mvT hZ (hw _ (gw 34 rfl))) (notFace_of_selects (args := #[]) (mvT hZ (hw _ (gw 36 rfl)))) (mvT hZ (hw _ (gw 36 rfl))) (mvT hZ (hw _ (gw 35 rfl))) (by decide) (backOf (W := 0) (rm6_10 l Z a0 hw [] b9 b11 b25 k12 p5 p2 p3 k26 T60.heap n0  Ou63 f72 f73 u65) hZ (hw _ (gw 37 rfl)) (hw _ (gw 3 rfl)) (by decide) (by decide)) q82a q82c (g := (mkF m 116 #[.val (.int p1), .val (.int p2), .val (.int p3), .val (.int p4), .val (.int p5), .val (.int (0 : Int32)), .val (.ref b9), .val (.int p5), .val (.int p2), .val (.int p3)] [(.int (2 : Int32)), (.ref b9)])) rfl (by rw [hml]; rfl) (Steps.refl _) (argsL := [(.int (2 : Int32))]) (rest := []) (lenOf pd_4 rfl) rfl (by show 2 * 0 + _ ≤ _; exact Nat.le_of_eq rfl) (hb hby at_116) (fun _ _ => ⟨rfl, u81, (by decide : 3 + 0 ≤ _), (by decide : 4099 + 0 ≤ _)⟩)
    dsimp only [Pt.U, Pt.locs, Pt.cells, Pt.slots] at X82 l82 y82 z82 st82 hQ82
    subst l82 y82 z82
    obtain ⟨rfl, u84, u85⟩ := hQ82
    have N82 := Fr.app N78 u84
    obtain ⟨fs, hr, hrun, hended, hW, hsame⟩ := X82.leave (v := some (.int (1 : Int32))) (fun h => by rw [Bd.returns] at h; cases h)
    refine ⟨_, _, pre8 _ ?_, hrun, hended, _, _, rfl, ?_, ⟨_, rfl⟩, hW, hsame.mono (by decide) (by decide)⟩
    · show Steps p.tables e below (s₁.setTop (mkF m 5 #[.val (.int p1), .val (.int p2), .val (.int p3), .val (.int p4), .val (.int p5), .unset, .unset, .unset, .unset, .unset] [(.int (3 : Int32)), (.int i6)])) _
      refine Jvm.RoadKit.iremM (g := (mkF m 5 #[.val (.int p1), .val (.int p2), .val (.int p3), .val (.int p4), .val (.int p5), .unset, .unset, .unset, .unset, .unset] [(.int (3 : Int32)), (.int i6)])) X0 hx rfl (hb hby at_5) rfl (by decide +kernel : ¬ ((3 : Int32) = (0 : Int32))) ?_
      show Steps p.tables e below (s₁.setTop (mkF m 6 #[.val (.int p1), .val (.int p2), .val (.int p3), .val (.int p4), .val (.int p5), .unset, .unset, .unset, .unset, .unset] [(.int (i6 % (3 : Int32)))])) _
      rw [hq7]
      show Steps p.tables e below (s₁.setTop (mkF m 6 #[.val (.int p1), .val (.int p2), .val (.int p3), .val (.int p4), .val (.int p5), .unset, .unset, .unset, .unset, .unset] [(.int (0 : Int32))])) _
      refine XS.istore X0.here hx rfl (hb hby at_6) rfl (l' := #[.val (.int p1), .val (.int p2), .val (.int p3), .val (.int p4), .val (.int p5), .val (.int (0 : Int32)), .unset, .unset, .unset, .unset]) rfl ?_
      show Steps p.tables e below (s₁.setTop (mkF m 8 #[.val (.int p1), .val (.int p2), .val (.int p3), .val (.int p4), .val (.int p5), .val (.int (0 : Int32)), .unset, .unset, .unset, .unset] [])) _
      refine st9 _ ?_
      show Steps p.tables e below (T9.setTop (mkF m 11 #[.val (.int p1), .val (.int p2), .val (.int p3), .val (.int p4), .val (.int p5), .val (.int (0 : Int32)), .unset, .unset, .unset, .unset] [(.ref b9)])) _
      refine XS.dup X9.here hx rfl (hb hby at_11) rfl rfl ?_
      show Steps p.tables e below (T9.setTop (mkF m 12 #[.val (.int p1), .val (.int p2), .val (.int p3), .val (.int p4), .val (.int p5), .val (.int (0 : Int32)), .unset, .unset, .unset, .unset] [(.ref b9), (.ref b9)])) _
      refine st10.trans ?_
      show Steps p.tables e below (T10.setTop (mkF m 15 #[.val (.int p1), .val (.int p2), .val (.int p3), .val (.int p4), .val (.int p5), .val (.int (0 : Int32)), .unset, .unset, .unset, .unset] [(.ref b9)])) _
      refine XS.astore X10.here hx rfl (hb hby at_15) rfl rfl (l' := #[.val (.int p1), .val (.int p2), .val (.int p3), .val (.int p4), .val (.int p5), .val (.int (0 : Int32)), .val (.ref b9), .unset, .unset, .unset]) rfl ?_
      show Steps p.tables e below (T10.setTop (mkF m 17 #[.val (.int p1), .val (.int p2), .val (.int p3), .val (.int p4), .val (.int p5), .val (.int (0 : Int32)), .val (.ref b9), .unset, .unset, .unset] [])) _
      refine XS.aload X10.here hx rfl (hb hby at_17) rfl rfl ?_
      show Steps p.tables e below (T10.setTop (mkF m 19 #[.val (.int p1), .val (.int p2), .val (.int p3), .val (.int p4), .val (.int p5), .val (.int (0 : Int32)), .val (.ref b9), .unset, .unset, .unset] [(.ref b9)])) _
      refine XS.iloadN X10.here hx rfl (hb hby at_19) rfl ?_
      show Steps p.tables e below (T10.setTop (mkF m 20 #[.val (.int p1), .val (.int p2), .val (.int p3), .val (.int p4), .val (.int p5), .val (.int (0 : Int32)), .val (.ref b9), .unset, .unset, .unset] [(.int p1), (.ref b9)])) _
      refine st24.trans ?_
      show Steps p.tables e below (T24.setTop (mkF m 23 #[.val (.int p1), .val (.int p2), .val (.int p3), .val (.int p4), .val (.int p5), .val (.int (0 : Int32)), .val (.ref b9), .unset, .unset, .unset] [])) _
      refine XS.aload X24.here hx rfl (hb hby at_23) rfl rfl ?_
      show Steps p.tables e below (T24.setTop (mkF m 25 #[.val (.int p1), .val (.int p2), .val (.int p3), .val (.int p4), .val (.int p5), .val (.int (0 : Int32)), .val (.ref b9), .unset, .unset, .unset] [(.ref b9)])) _
      refine XS.iloadN X24.here hx rfl (hb hby at_25) rfl ?_
      show Steps p.tables e below (T24.setTop (mkF m 26 #[.val (.int p1), .val (.int p2), .val (.int p3), .val (.int p4), .val (.int p5), .val (.int (0 : Int32)), .val (.ref b9), .unset, .unset, .unset] [(.int p2), (.ref b9)])) _
      refine st40.trans ?_
      show Steps p.tables e below (T40.setTop (mkF m 29 #[.val (.int p1), .val (.int p2), .val (.int p3), .val (.int p4), .val (.int p5), .val (.int (0 : Int32)), .val (.ref b9), .unset, .unset, .unset] [])) _
      refine XS.aload X40.here hx rfl (hb hby at_29) rfl rfl ?_
      show Steps p.tables e below (T40.setTop (mkF m 31 #[.val (.int p1), .val (.int p2), .val (.int p3), .val (.int p4), .val (.int p5), .val (.int (0 : Int32)), .val (.ref b9), .unset, .unset, .unset] [(.ref b9)])) _
      refine XS.iloadN X40.here hx rfl (hb hby at_31) rfl ?_
      show Steps p.tables e below (T40.setTop (mkF m 32 #[.val (.int p1), .val (.int p2), .val (.int p3), .val (.int p4), .val (.int p5), .val (.int (0 : Int32)), .val (.ref b9), .unset, .unset, .unset] [(.int p3), (.ref b9)])) _
      refine st50.trans ?_
      show Steps p.tables e below (T50.setTop (mkF m 35 #[.val (.int p1), .val (.int p2), .val (.int p3), .val (.int p4), .val (.int p5), .val (.int (0 : Int32)), .val (.ref b9), .unset, .unset, .unset] [])) _
      refine XS.aload X50.here hx rfl (hb hby at_35) rfl rfl ?_
      show Steps p.tables e below (T50.setTop (mkF m 37 #[.val (.int p1), .val (.int p2), .val (.int p3), .val (.int p4), .val (.int p5), .val (.int (0 : Int32)), .val (.ref b9), .unset, .unset, .unset] [(.ref b9)])) _
      refine XS.iload X50.here hx rfl (hb hby at_37) rfl ?_
      show Steps p.tables e below (T50.setTop (mkF m 39 #[.val (.int p1), .val (.int p2), .val (.int p3), .val (.int p4), .val (.int p5), .val (.int (0 : Int32)), .val (.ref b9), .unset, .unset, .unset] [(.int (0 : Int32)), (.ref b9)])) _
      refine XS.iload X50.here hx rfl (hb hby at_39) rfl ?_
      show Steps p.tables e below (T50.setTop (mkF m 41 #[.val (.int p1), .val (.int p2), .val (.int p3), .val (.int p4), .val (.int p5), .val (.int (0 : Int32)), .val (.ref b9), .unset, .unset, .unset] [(.int p5), (.int (0 : Int32)), (.ref b9)])) _
      refine st60.trans ?_
      show Steps p.tables e below (T60.setTop (mkF m 44 #[.val (.int p1), .val (.int p2), .val (.int p3), .val (.int p4), .val (.int p5), .val (.int (0 : Int32)), .val (.ref b9), .unset, .unset, .unset] [])) _
      refine XS.iloadN X60.here hx rfl (hb hby at_44) rfl ?_
      show Steps p.tables e below (T60.setTop (mkF m 45 #[.val (.int p1), .val (.int p2), .val (.int p3), .val (.int p4), .val (.int p5), .val (.int (0 : Int32)), .val (.ref b9), .unset, .unset, .unset] [(.int p1)])) _
      refine XS.istore X60.here hx rfl (hb hby at_45) rfl (l' := #[.val (.int p1), .val (.int p2), .val (.int p3), .val (.int p4), .val (.int p5), .val (.int (0 : Int32)), .val (.ref b9), .val (.int p1), .unset, .unset]) rfl ?_
      show Steps p.tables e below (T60.setTop (mkF m 47 #[.val (.int p1), .val (.int p2), .val (.int p3), .val (.int p4), .val (.int p5), .val (.int (0 : Int32)), .val (.ref b9), .val (.int p1), .unset, .unset] [])) _
      refine XS.iloadN X60.here hx rfl (hb hby at_47) rfl ?_
      show Steps p.tables e below (T60.setTop (mkF m 48 #[.val (.int p1), .val (.int p2), .val (.int p3), .val (.int p4), .val (.int p5), .val (.int (0 : Int32)), .val (.ref b9), .val (.int p1), .unset, .unset] [(.int p2)])) _
      refine XS.istore X60.here hx rfl (hb hby at_48) rfl (l' := #[.val (.int p1), .val (.int p2), .val (.int p3), .val (.int p4), .val (.int p5), .val (.int (0 : Int32)), .val (.ref b9), .val (.int p1), .val (.int p2), .unset]) rfl ?_
      show Steps p.tables e below (T60.setTop (mkF m 50 #[.val (.int p1), .val (.int p2), .val (.int p3), .val (.int p4), .val (.int p5), .val (.int (0 : Int32)), .val (.ref b9), .val (.int p1), .val (.int p2), .unset] [])) _
      refine XS.iloadN X60.here hx rfl (hb hby at_50) rfl ?_
      show Steps p.tables e below (T60.setTop (mkF m 51 #[.val (.int p1), .val (.int p2), .val (.int p3), .val (.int p4), .val (.int p5), .val (.int (0 : Int32)), .val (.ref b9), .val (.int p1), .val (.int p2), .unset] [(.int p3)])) _
      refine XS.istore X60.here hx rfl (hb hby at_51) rfl (l' := #[.val (.int p1), .val (.int p2), .val (.int p3), .val (.int p4), .val (.int p5), .val (.int (0 : Int32)), .val (.ref b9), .val (.int p1), .val (.int p2), .val (.int p3)]) rfl ?_
      show Steps p.tables e below (T60.setTop (mkF m 53 #[.val (.int p1), .val (.int p2), .val (.int p3), .val (.int p4), .val (.int p5), .val (.int (0 : Int32)), .val (.ref b9), .val (.int p1), .val (.int p2), .val (.int p3)] [])) _
      refine XS.iload X60.here hx rfl (hb hby at_53) rfl ?_
      show Steps p.tables e below (T60.setTop (mkF m 55 #[.val (.int p1), .val (.int p2), .val (.int p3), .val (.int p4), .val (.int p5), .val (.int (0 : Int32)), .val (.ref b9), .val (.int p1), .val (.int p2), .val (.int p3)] [(.int (0 : Int32))])) _
      refine XS.ifNo X60.here hx rfl (hb hby at_55) rfl ((if0 _ _).trans (teq (by decide +kernel : (0 : Int32) = (0 : Int32))).2) ?_
      show Steps p.tables e below (T60.setTop (mkF m 58 #[.val (.int p1), .val (.int p2), .val (.int p3), .val (.int p4), .val (.int p5), .val (.int (0 : Int32)), .val (.ref b9), .val (.int p1), .val (.int p2), .val (.int p3)] [])) _
      refine XS.iload X60.here hx rfl (hb hby at_58) rfl ?_
      show Steps p.tables e below (T60.setTop (mkF m 60 #[.val (.int p1), .val (.int p2), .val (.int p3), .val (.int p4), .val (.int p5), .val (.int (0 : Int32)), .val (.ref b9), .val (.int p1), .val (.int p2), .val (.int p3)] [(.int p5)])) _
      refine XS.istore X60.here hx rfl (hb hby at_60) rfl (l' := #[.val (.int p1), .val (.int p2), .val (.int p3), .val (.int p4), .val (.int p5), .val (.int (0 : Int32)), .val (.ref b9), .val (.int p5), .val (.int p2), .val (.int p3)]) rfl ?_
      show Steps p.tables e below (T60.setTop (mkF m 62 #[.val (.int p1), .val (.int p2), .val (.int p3), .val (.int p4), .val (.int p5), .val (.int (0 : Int32)), .val (.ref b9), .val (.int p5), .val (.int p2), .val (.int p3)] [])) _
      refine XS.goto X60.here hx rfl (pc0 := 62) (pc' := 82) rfl (hb hby at_62) (by decide) (by decide) ?_
      show Steps p.tables e below (T60.setTop (mkF m 82 #[.val (.int p1), .val (.int p2), .val (.int p3), .val (.int p4), .val (.int p5), .val (.int (0 : Int32)), .val (.ref b9), .val (.int p5), .val (.int p2), .val (.int p3)] [])) _
      refine XS.aload X60.here hx rfl (hb hby at_82) rfl rfl ?_
      show Steps p.tables e below (T60.setTop (mkF m 84 #[.val (.int p1), .val (.int p2), .val (.int p3), .val (.int p4), .val (.int p5), .val (.int (0 : Int32)), .val (.ref b9), .val (.int p5), .val (.int p2), .val (.int p3)] [(.ref b9)])) _
      refine st67.trans ?_
      show Steps p.tables e below (T67.setTop (mkF m 87 #[.val (.int p1), .val (.int p2), .val (.int p3), .val (.int p4), .val (.int p5), .val (.int (0 : Int32)), .val (.ref b9), .val (.int p5), .val (.int p2), .val (.int p3)] [(.int (3 : Int32))])) _
      refine XS.iconst X67.here hx rfl (hb hby at_87) ?_
      show Steps p.tables e below (T67.setTop (mkF m 88 #[.val (.int p1), .val (.int p2), .val (.int p3), .val (.int p4), .val (.int p5), .val (.int (0 : Int32)), .val (.ref b9), .val (.int p5), .val (.int p2), .val (.int p3)] [(.int (3 : Int32)), (.int (3 : Int32))])) _
      refine XS.icmpNo X67.here hx rfl (hb hby at_88) rfl (teq (by decide +kernel : (3 : Int32) = (3 : Int32))).2 ?_
      show Steps p.tables e below (T67.setTop (mkF m 91 #[.val (.int p1), .val (.int p2), .val (.int p3), .val (.int p4), .val (.int p5), .val (.int (0 : Int32)), .val (.ref b9), .val (.int p5), .val (.int p2), .val (.int p3)] [])) _
      refine XS.aload X67.here hx rfl (hb hby at_91) rfl rfl ?_
      show Steps p.tables e below (T67.setTop (mkF m 93 #[.val (.int p1), .val (.int p2), .val (.int p3), .val (.int p4), .val (.int p5), .val (.int (0 : Int32)), .val (.ref b9), .val (.int p5), .val (.int p2), .val (.int p3)] [(.ref b9)])) _
      refine XS.iconst X67.here hx rfl (hb hby at_93) ?_
      show Steps p.tables e below (T67.setTop (mkF m 94 #[.val (.int p1), .val (.int p2), .val (.int p3), .val (.int p4), .val (.int p5), .val (.int (0 : Int32)), .val (.ref b9), .val (.int p5), .val (.int p2), .val (.int p3)] [(.int (0 : Int32)), (.ref b9)])) _
      refine st74.trans ?_
      show Steps p.tables e below (T74.setTop (mkF m 97 #[.val (.int p1), .val (.int p2), .val (.int p3), .val (.int p4), .val (.int p5), .val (.int (0 : Int32)), .val (.ref b9), .val (.int p5), .val (.int p2), .val (.int p3)] [(.int p5)])) _
      refine XS.iload X74.here hx rfl (hb hby at_97) rfl ?_
      show Steps p.tables e below (T74.setTop (mkF m 99 #[.val (.int p1), .val (.int p2), .val (.int p3), .val (.int p4), .val (.int p5), .val (.int (0 : Int32)), .val (.ref b9), .val (.int p5), .val (.int p2), .val (.int p3)] [(.int p5), (.int p5)])) _
      refine XS.icmpNo X74.here hx rfl (hb hby at_99) rfl (teq (rfl : p5 = p5)).2 ?_
      show Steps p.tables e below (T74.setTop (mkF m 102 #[.val (.int p1), .val (.int p2), .val (.int p3), .val (.int p4), .val (.int p5), .val (.int (0 : Int32)), .val (.ref b9), .val (.int p5), .val (.int p2), .val (.int p3)] [])) _
      refine XS.aload X74.here hx rfl (hb hby at_102) rfl rfl ?_
      show Steps p.tables e below (T74.setTop (mkF m 104 #[.val (.int p1), .val (.int p2), .val (.int p3), .val (.int p4), .val (.int p5), .val (.int (0 : Int32)), .val (.ref b9), .val (.int p5), .val (.int p2), .val (.int p3)] [(.ref b9)])) _
      refine XS.iconst X74.here hx rfl (hb hby at_104) ?_
      show Steps p.tables e below (T74.setTop (mkF m 105 #[.val (.int p1), .val (.int p2), .val (.int p3), .val (.int p4), .val (.int p5), .val (.int (0 : Int32)), .val (.ref b9), .val (.int p5), .val (.int p2), .val (.int p3)] [(.int (1 : Int32)), (.ref b9)])) _
      refine st78.trans ?_
      show Steps p.tables e below (T78.setTop (mkF m 108 #[.val (.int p1), .val (.int p2), .val (.int p3), .val (.int p4), .val (.int p5), .val (.int (0 : Int32)), .val (.ref b9), .val (.int p5), .val (.int p2), .val (.int p3)] [(.int p2)])) _
      refine XS.iload X78.here hx rfl (hb hby at_108) rfl ?_
      show Steps p.tables e below (T78.setTop (mkF m 110 #[.val (.int p1), .val (.int p2), .val (.int p3), .val (.int p4), .val (.int p5), .val (.int (0 : Int32)), .val (.ref b9), .val (.int p5), .val (.int p2), .val (.int p3)] [(.int p2), (.int p2)])) _
      refine XS.icmpNo X78.here hx rfl (hb hby at_110) rfl (teq (rfl : p2 = p2)).2 ?_
      show Steps p.tables e below (T78.setTop (mkF m 113 #[.val (.int p1), .val (.int p2), .val (.int p3), .val (.int p4), .val (.int p5), .val (.int (0 : Int32)), .val (.ref b9), .val (.int p5), .val (.int p2), .val (.int p3)] [])) _
      refine XS.aload X78.here hx rfl (hb hby at_113) rfl rfl ?_
      show Steps p.tables e below (T78.setTop (mkF m 115 #[.val (.int p1), .val (.int p2), .val (.int p3), .val (.int p4), .val (.int p5), .val (.int (0 : Int32)), .val (.ref b9), .val (.int p5), .val (.int p2), .val (.int p3)] [(.ref b9)])) _
      refine XS.iconst X78.here hx rfl (hb hby at_115) ?_
      show Steps p.tables e below (T78.setTop (mkF m 116 #[.val (.int p1), .val (.int p2), .val (.int p3), .val (.int p4), .val (.int p5), .val (.int (0 : Int32)), .val (.ref b9), .val (.int p5), .val (.int p2), .val (.int p3)] [(.int (2 : Int32)), (.ref b9)])) _
      refine st82.trans ?_
      show Steps p.tables e below (T82.setTop (mkF m 119 #[.val (.int p1), .val (.int p2), .val (.int p3), .val (.int p4), .val (.int p5), .val (.int (0 : Int32)), .val (.ref b9), .val (.int p5), .val (.int p2), .val (.int p3)] [(.int p3)])) _
      refine XS.iload X82.here hx rfl (hb hby at_119) rfl ?_
      show Steps p.tables e below (T82.setTop (mkF m 121 #[.val (.int p1), .val (.int p2), .val (.int p3), .val (.int p4), .val (.int p5), .val (.int (0 : Int32)), .val (.ref b9), .val (.int p5), .val (.int p2), .val (.int p3)] [(.int p3), (.int p3)])) _
      refine XS.icmpNo X82.here hx rfl (hb hby at_121) rfl (teq (rfl : p3 = p3)).2 ?_
      show Steps p.tables e below (T82.setTop (mkF m 124 #[.val (.int p1), .val (.int p2), .val (.int p3), .val (.int p4), .val (.int p5), .val (.int (0 : Int32)), .val (.ref b9), .val (.int p5), .val (.int p2), .val (.int p3)] [])) _
      refine XS.iconst X82.here hx rfl (hb hby at_124) ?_
      show Steps p.tables e below (T82.setTop (mkF m 125 #[.val (.int p1), .val (.int p2), .val (.int p3), .val (.int p4), .val (.int p5), .val (.int (0 : Int32)), .val (.ref b9), .val (.int p5), .val (.int p2), .val (.int p3)] [(.int (1 : Int32))])) _
      refine XS.goto X82.here hx rfl (pc0 := 125) (pc' := 129) rfl (hb hby at_125) (by decide) (by decide) ?_
      show Steps p.tables e below (T82.setTop (mkF m 129 #[.val (.int p1), .val (.int p2), .val (.int p3), .val (.int p4), .val (.int p5), .val (.int (0 : Int32)), .val (.ref b9), .val (.int p5), .val (.int p2), .val (.int p3)] [(.int (1 : Int32))])) _
      exact retN X82 hx (t := .boolean) Bd.returns (by simp) (hb hby at_129) hr
    · show Q0 Z _ _ _ _ _ h0 n0 _ T82.heap _
      rw [u85]
      exact ⟨rfl, N82⟩
  · skip
    obtain ⟨T86, h86, X86, e86, E86, A86, D86, -, st86⟩ := newO X0 hx hZ hown (hw _ (gw 1 rfl)) (hw _ (gw 2 rfl)) (hw _ (gw 3 rfl)) e0 (g := (mkF m 8 #[.val (.int p1), .val (.int p2), .val (.int p3), .val (.int p4), .val (.int p5), .val (.int (1 : Int32)), .unset, .unset, .unset, .unset] [])) rfl (hb hby at_8) (by decide) (by decide)
    obtain ⟨b86, g86⟩ : ∃ z, z = h0.size := ⟨_, rfl⟩
    rw [← g86] at A86 D86 st86
    have O86 : Old Z n0 h86 := O0.ext E86
    have bd_b86 : h0.size ≤ b86 := Nat.le_of_eq g86.symm
    have g_b86 : n0 ≤ b86 := Nat.le_trans (own_z O0) bd_b86
    have sz_b86 : h0.size ≤ b86 := Nat.le_trans (Nat.le_refl _) bd_b86
    have lt_b86 : b86 < h86.size := A86.lt
    have D86_13 : Fld Z h86 b86 "com/example/vestry/vestry/Ints" "blocks" "[[I" .null := D86 (Or.inl (hw _ (gw 13 rfl))) (ty := (.array (.array .int))) (by decide)
    have D86_20 : Fld Z h86 b86 "com/example/vestry/vestry/Ints" "size" "I" (.int (0 : Int32)) := D86 (Or.inl (hw _ (gw 20 rfl))) (ty := .int) (by decide)
    obtain ⟨_, _, ⟨T87, L87, k87, n87⟩, -, X87, ⟨Lc87, hQ87, l87, y87, z87⟩, st87⟩ := X86.specialBack hx (y := M_0) rfl hown (mvT hZ (hw _ (gw 4 rfl))) (mvT hZ (hw _ (gw 5 rfl))) (mvT hZ (hw _ (gw 6 rfl))) (by decide) (backOf (W := 1) (rm1_2 l Z a0 hw [] b86 h86 n0  O86 A86 D86_13 D86_20 g_b86 lt_b86) hZ (hw _ (gw 6 rfl)) (hw _ (gw 3 rfl)) (by decide) (by decide)) (g := (mkF m 12 #[.val (.int p1), .val (.int p2), .val (.int p3), .val (.int p4), .val (.int p5), .val (.int (1 : Int32)), .unset, .unset, .unset, .unset] [(.ref b86), (.ref b86)])) rfl (by rw [hml]; rfl) (Steps.refl _) (a := b86) (argsL := []) (rest := [(.ref b86)]) (lenOf pd_0 rfl) rfl (by show 2 * 0 + _ ≤ _; exact Nat.le_of_eq rfl) (hb hby at_12) (fun _ _ => ⟨rfl, e86, (by decide : 1 + 1 ≤ _), (by decide : 2 + 1 ≤ _)⟩)
    dsimp only [Pt.U, Pt.locs, Pt.cells, Pt.slots] at X87 l87 y87 z87 st87 hQ87
    subst l87 y87 z87
    obtain ⟨b88, k89, rfl, u91, u92, u93, Ku94, u95, u96, u97, u98, u99, u100⟩ := hQ87
    have Ou94 : Old Z n0 T87.heap := O86.keep Ku94 (allS g_b86 all0)
    have g_b88 : n0 ≤ b88 := Nat.le_trans (own_z O86) u92
    have sz_b88 : h0.size ≤ b88 := Nat.le_trans E86.1 u92
    have N87 := Fr.app N0 u91
    obtain ⟨cq101, kq101, q101a, q101b, q101c⟩ := isOf hZ rfl u95
    obtain ⟨_, _, ⟨T101, L101, k101, n101⟩, -, X101, ⟨Lc101, hQ101, l101, y101, z101⟩, st101⟩ := X87.virtualBack hx (y := M_1) (z := M_1) hown (mvT hZ (hw _ (gw 14 rfl))) (mvT hZ (hw _ (gw 15 rfl))) (notFace_of_selects (args := #[]) (mvT hZ (hw _ (gw 17 rfl)))) (mvT hZ (hw _ (gw 17 rfl))) (mvT hZ (hw _ (gw 16 rfl))) (by decide) (backOf (W := 0) (rm3_3 l Z a0 hw [] b86 p1 b88 k89 T87.heap n0  Ou94 u97 u96 u99 u100 g_b88 u98 (Nat.ne_of_lt (Nat.lt_of_lt_of_le lt_b86 u92)) u93 (Nat.lt_of_lt_of_le lt_b86 Ku94.1) u95 g_b86) hZ (hw _ (gw 18 rfl)) (hw _ (gw 3 rfl)) (by decide) (by decide)) q101a q101c (g := (mkF m 20 #[.val (.int p1), .val (.int p2), .val (.int p3), .val (.int p4), .val (.int p5), .val (.int (1 : Int32)), .val (.ref b86), .unset, .unset, .unset] [(.int p1), (.ref b86)])) rfl (by rw [hml]; rfl) (Steps.refl _) (argsL := [(.int p1)]) (rest := []) (lenOf pd_1 rfl) rfl (by show 2 * 0 + _ ≤ _; exact Nat.le_of_eq rfl) (hb hby at_20) (fun _ _ => ⟨rfl, rfl, (by decide : 2 + 1 ≤ _), (by decide : 3 + 4096 ≤ _)⟩)
    dsimp only [Pt.U, Pt.locs, Pt.cells, Pt.slots] at X101 l101 y101 z101 st101 hQ101
    subst l101 y101 z101
    obtain ⟨b102, k103, rfl, u105, u106, u107, Ku108, u109, u110, u111, u112, u113, u114, u115, u116⟩ := hQ101
    have Ou108 : Old Z n0 T101.heap := Ou94.keep Ku108 (allS g_b88 (allS g_b86 all0))
    have g_b102 : n0 ≤ b102 := Nat.le_trans (own_z Ou94) u106
    have sz_b102 : h0.size ≤ b102 := Nat.le_trans (Nat.le_trans E86.1 Ku94.1) u106
    have N101 := Fr.app N87 u105
    obtain ⟨cq117, kq117, q117a, q117b, q117c⟩ := isOf hZ rfl u112
    obtain ⟨_, _, ⟨T117, L117, k117, n117⟩, -, X117, ⟨Lc117, hQ117, l117, y117, z117⟩, st117⟩ := X101.virtualBack hx (y := M_1) (z := M_1) hown (mvT hZ (hw _ (gw 14 rfl))) (mvT hZ (hw _ (gw 15 rfl))) (notFace_of_selects (args := #[]) (mvT hZ (hw _ (gw 17 rfl)))) (mvT hZ (hw _ (gw 17 rfl))) (mvT hZ (hw _ (gw 16 rfl))) (by decide) (backOf (W := 0) (rm3_4 l Z a0 hw [] b86 p2 b88 b102 k89 p1 k103 T101.heap n0  Ou108 u114 u113 u110 u116 g_b102 u115 (Nat.ne_of_lt (Nat.lt_of_lt_of_le (Nat.lt_of_lt_of_le lt_b86 Ku94.1) u106)) u112 g_b86) hZ (hw _ (gw 18 rfl)) (hw _ (gw 3 rfl)) (by decide) (by decide)) q117a q117c (g := (mkF m 26 #[.val (.int p1), .val (.int p2), .val (.int p3), .val (.int p4), .val (.int p5), .val (.int (1 : Int32)), .val (.ref b86), .unset, .unset, .unset] [(.int p2), (.ref b86)])) rfl (by rw [hml]; rfl) (Steps.refl _) (argsL := [(.int p2)]) (rest := []) (lenOf pd_1 rfl) rfl (by show 2 * 0 + _ ≤ _; exact Nat.le_of_eq rfl) (hb hby at_26) (fun _ _ => ⟨rfl, rfl, (by decide : 3 + 0 ≤ _), (by decide : 4099 + 0 ≤ _)⟩)
    dsimp only [Pt.U, Pt.locs, Pt.cells, Pt.slots] at X117 l117 y117 z117 st117 hQ117
    subst l117 y117 z117
    obtain ⟨rfl, u119, Ku120, u121, u122, u123, u124, u125⟩ := hQ117
    have Ou120 : Old Z n0 T117.heap := Ou108.keep Ku120 (allS g_b102 (allS g_b86 all0))
    have N117 := Fr.app N101 u119
    have f126 : Arv Z T117.heap b88 k89 (.array .int) (1 : Int32) [(.ref b102)] .null := (u110.keep Ku120 (ninS (Nat.ne_of_lt (Nat.lt_of_lt_of_le u93 u106)) (ninS (Ne.symm (Nat.ne_of_lt (Nat.lt_of_lt_of_le lt_b86 u92))) nin0)))
    obtain ⟨cq127, kq127, q127a, q127b, q127c⟩ := isOf hZ rfl u123
    obtain ⟨_, _, ⟨T127, L127, k127, n127⟩, -, X127, ⟨Lc127, hQ127, l127, y127, z127⟩, st127⟩ := X117.virtualBack hx (y := M_1) (z := M_1) hown (mvT hZ (hw _ (gw 14 rfl))) (mvT hZ (hw _ (gw 15 rfl))) (notFace_of_selects (args := #[]) (mvT hZ (hw _ (gw 17 rfl)))) (mvT hZ (hw _ (gw 17 rfl))) (mvT hZ (hw _ (gw 16 rfl))) (by decide) (backOf (W := 0) (rm3_5 l Z a0 hw [] b86 p3 b88 b102 k89 p1 p2 k103 T117.heap n0  Ou120 u125 u124 f126 u122 g_b102 u121 (Nat.ne_of_lt (Nat.lt_of_lt_of_le (Nat.lt_of_lt_of_le lt_b86 Ku94.1) u106)) u123 g_b86) hZ (hw _ (gw 18 rfl)) (hw _ (gw 3 rfl)) (by decide) (by decide)) q127a q127c (g := (mkF m 32 #[.val (.int p1), .val (.int p2), .val (.int p3), .val (.int p4), .val (.int p5), .val (.int (1 : Int32)), .val (.ref b86), .unset, .unset, .unset] [(.int p3), (.ref b86)])) rfl (by rw [hml]; rfl) (Steps.refl _) (argsL := [(.int p3)]) (rest := []) (lenOf pd_1 rfl) rfl (by show 2 * 0 + _ ≤ _; exact Nat.le_of_eq rfl) (hb hby at_32) (fun _ _ => ⟨rfl, rfl, (by decide : 3 + 0 ≤ _), (by decide : 4099 + 0 ≤ _)⟩)
    dsimp only [Pt.U, Pt.locs, Pt.cells, Pt.slots] at X127 l127 y127 z127 st127 hQ127
    subst l127 y127 z127
    obtain ⟨rfl, u129, Ku130, u131, u132, u133, u134, u135⟩ := hQ127
    have Ou130 : Old Z n0 T127.heap := Ou120.keep Ku130 (allS g_b102 (allS g_b86 all0))
    have N127 := Fr.app N117 u129
    have f136 : Arv Z T127.heap b88 k89 (.array .int) (1 : Int32) [(.ref b102)] .null := (f126.keep Ku130 (ninS (Nat.ne_of_lt (Nat.lt_of_lt_of_le u93 u106)) (ninS (Ne.symm (Nat.ne_of_lt (Nat.lt_of_lt_of_le lt_b86 u92))) nin0)))
    obtain ⟨cq137, kq137, q137a, q137b, q137c⟩ := isOf hZ rfl u133
    obtain ⟨_, _, ⟨T137, L137, k137, n137⟩, -, X137, ⟨Lc137, hQ137, l137, y137, z137⟩, st137⟩ := X127.virtualBack hx (y := M_2) (z := M_2) hown (mvT hZ (hw _ (gw 23 rfl))) (mvT hZ (hw _ (gw 24 rfl))) (notFace_of_selects (args := #[]) (mvT hZ (hw _ (gw 26 rfl)))) (mvT hZ (hw _ (gw 26 rfl))) (mvT hZ (hw _ (gw 25 rfl))) (by decide) (backOf (W := 0) (rm4_11 l Z a0 hw [] b86 p5 b88 b102 k89 p1 p2 p3 k103 T127.heap n0  Ou130 u134 f136 u132 g_b102 u131) hZ (hw _ (gw 27 rfl)) (hw _ (gw 3 rfl)) (by decide) (by decide)) q137a q137c (g := (mkF m 41 #[.val (.int p1), .val (.int p2), .val (.int p3), .val (.int p4), .val (.int p5), .val (.int (1 : Int32)), .val (.ref b86), .unset, .unset, .unset] [(.int p5), (.int (1 : Int32)), (.ref b86)])) rfl (by rw [hml]; rfl) (Steps.refl _) (argsL := [(.int (1 : Int32)), (.int p5)]) (rest := []) (lenOf pd_2 rfl) rfl (by show 2 * 0 + _ ≤ _; exact Nat.le_of_eq rfl) (hb hby at_41) (fun _ _ => ⟨rfl, rfl, (by decide : 3 + 0 ≤ _), (by decide : 4099 + 0 ≤ _)⟩)
    dsimp only [Pt.U, Pt.locs, Pt.cells, Pt.slots] at X137 l137 y137 z137 st137 hQ137
    subst l137 y137 z137
    obtain ⟨rfl, u139, Ku140, u141, u142⟩ := hQ137
    have Ou140 : Old Z n0 T137.heap := Ou130.keep Ku140 (allS g_b102 all0)
    have N137 := Fr.app N127 u139
    have f143 : Fld Z T137.heap b86 "com/example/vestry/vestry/Ints" "size" "I" (.int (3 : Int32)) := (u135.keep Ku140 (ninS (Nat.ne_of_lt (Nat.lt_of_lt_of_le (Nat.lt_of_lt_of_le lt_b86 Ku94.1) u106)) nin0))
    have f145 : Exa Z T137.heap b86 "com/example/vestry/vestry/Ints" := (u133.keep Ku140)
    obtain ⟨cq144, kq144, q144a, q144b, q144c⟩ := isOf hZ rfl f145
    obtain ⟨_, _, ⟨T144, L144, k144, n144⟩, -, X144, ⟨Lc144, hQ144, l144, y144, z144⟩, st144⟩ := X137.virtualBack hx (y := M_3) (z := M_3) hown (mvT hZ (hw _ (gw 28 rfl))) (mvT hZ (hw _ (gw 29 rfl))) (notFace_of_selects (args := #[]) (mvT hZ (hw _ (gw 31 rfl)))) (mvT hZ (hw _ (gw 31 rfl))) (mvT hZ (hw _ (gw 30 rfl))) (by decide) (backOf (W := 0) (rm5_7 l Z a0 hw [] b86 T137.heap n0  Ou140 f143) hZ (hw _ (gw 32 rfl)) (hw _ (gw 3 rfl)) (by decide) (by decide)) q144a q144c (g := (mkF m 84 #[.val (.int p1), .val (.int p2), .val (.int p3), .val (.int p4), .val (.int p5), .val (.int (1 : Int32)), .val (.ref b86), .val (.int p1), .val (.int p5), .val (.int p3)] [(.ref b86)])) rfl (by rw [hml]; rfl) (Steps.refl _) (argsL := []) (rest := []) (lenOf pd_3 rfl) rfl (by show 2 * 0 + _ ≤ _; exact Nat.le_of_eq rfl) (hb hby at_84) (fun _ _ => ⟨rfl, rfl, (by decide : 3 + 0 ≤ _), (by decide : 4099 + 0 ≤ _)⟩)
    dsimp only [Pt.U, Pt.locs, Pt.cells, Pt.slots] at X144 l144 y144 z144 st144 hQ144
    subst l144 y144 z144
    obtain ⟨rfl, u147, u148⟩ := hQ144
    have N144 := Fr.app N137 u147
    have f149 : Fld Z T137.heap b86 "com/example/vestry/vestry/Ints" "blocks" "[[I" (.ref b88) := (u134.keep Ku140 (ninS (Nat.ne_of_lt (Nat.lt_of_lt_of_le (Nat.lt_of_lt_of_le lt_b86 Ku94.1) u106)) nin0))
    have f150 : Arv Z T137.heap b88 k89 (.array .int) (1 : Int32) [(.ref b102)] .null := (f136.keep Ku140 (ninS (Nat.ne_of_lt (Nat.lt_of_lt_of_le u93 u106)) nin0))
    obtain ⟨cq151, kq151, q151a, q151b, q151c⟩ := isOf hZ u148 f145
    obtain ⟨_, _, ⟨T151, L151, k151, n151⟩, -, X151, ⟨Lc151, hQ151, l151, y151, z151⟩, st151⟩ := X144.virtualBack hx (y := M_4) (z := M_4) hown (mvT hZ (hw _ (gw 33 rfl))) (mvT hZ (hw _ (gw 34 rfl))) (notFace_of_selects (args := #[]) (mvT hZ (hw _ (gw 36 rfl)))) (mvT hZ (hw _ (gw 36 rfl))) (mvT hZ (hw _ (gw 35 rfl))) (by decide) (backOf (W := 0) (rm6_8 l Z a0 hw [] b86 b88 b102 k89 p1 p5 p3 k103 T137.heap n0  Ou140 f149 f150 u142) hZ (hw _ (gw 37 rfl)) (hw _ (gw 3 rfl)) (by decide) (by decide)) q151a q151c (g := (mkF m 94 #[.val (.int p1), .val (.int p2), .val (.int p3), .val (.int p4), .val (.int p5), .val (.int (1 : Int32)), .val (.ref b86), .val (.int p1), .val (.int p5), .val (.int p3)] [(.int (0 : Int32)), (.ref b86)])) rfl (by rw [hml]; rfl) (Steps.refl _) (argsL := [(.int (0 : Int32))]) (rest := []) (lenOf pd_4 rfl) rfl (by show 2 * 0 + _ ≤ _; exact Nat.le_of_eq rfl) (hb hby at_94) (fun _ _ => ⟨rfl, u148, (by decide : 3 + 0 ≤ _), (by decide : 4099 + 0 ≤ _)⟩)
    dsimp only [Pt.U, Pt.locs, Pt.cells, Pt.slots] at X151 l151 y151 z151 st151 hQ151
    subst l151 y151 z151
    obtain ⟨rfl, u153, u154⟩ := hQ151
    have N151 := Fr.app N144 u153
    obtain ⟨cq155, kq155, q155a, q155b, q155c⟩ := isOf hZ u154 f145
    obtain ⟨_, _, ⟨T155, L155, k155, n155⟩, -, X155, ⟨Lc155, hQ155, l155, y155, z155⟩, st155⟩ := X151.virtualBack hx (y := M_4) (z := M_4) hown (mvT hZ (hw _ (gw 33 rfl))) (mvT hZ (hw _ (gw 34 rfl))) (notFace_of_selects (args := #[]) (mvT hZ (hw _ (gw 36 rfl)))) (mvT hZ (hw _ (gw 36 rfl))) (mvT hZ (hw _ (gw 35 rfl))) (by decide) (backOf (W := 0) (rm6_9 l Z a0 hw [] b86 b88 b102 k89 p1 p5 p3 k103 T137.heap n0  Ou140 f149 f150 u142) hZ (hw _ (gw 37 rfl)) (hw _ (gw 3 rfl)) (by decide) (by decide)) q155a q155c (g := (mkF m 105 #[.val (.int p1), .val (.int p2), .val (.int p3), .val (.int p4), .val (.int p5), .val (.int (1 : Int32)), .val (.ref b86), .val (.int p1), .val (.int p5), .val (.int p3)] [(.int (1 : Int32)), (.ref b86)])) rfl (by rw [hml]; rfl) (Steps.refl _) (argsL := [(.int (1 : Int32))]) (rest := []) (lenOf pd_4 rfl) rfl (by show 2 * 0 + _ ≤ _; exact Nat.le_of_eq rfl) (hb hby at_105) (fun _ _ => ⟨rfl, u154, (by decide : 3 + 0 ≤ _), (by decide : 4099 + 0 ≤ _)⟩)
    dsimp only [Pt.U, Pt.locs, Pt.cells, Pt.slots] at X155 l155 y155 z155 st155 hQ155
    subst l155 y155 z155
    obtain ⟨rfl, u157, u158⟩ := hQ155
    have N155 := Fr.app N151 u157
    obtain ⟨cq159, kq159, q159a, q159b, q159c⟩ := isOf hZ u158 f145
    obtain ⟨_, _, ⟨T159, L159, k159, n159⟩, -, X159, ⟨Lc159, hQ159, l159, y159, z159⟩, st159⟩ := X155.virtualBack hx (y := M_4) (z := M_4) hown (mvT hZ (hw _ (gw 33 rfl))) (mvT hZ (hw _ (gw 34 rfl))) (notFace_of_selects (args := #[]) (mvT hZ (hw _ (gw 36 rfl)))) (mvT hZ (hw _ (gw 36 rfl))) (mvT hZ (hw _ (gw 35 rfl))) (by decide) (backOf (W := 0) (rm6_10 l Z a0 hw [] b86 b88 b102 k89 p1 p5 p3 k103 T137.heap n0  Ou140 f149 f150 u142) hZ (hw _ (gw 37 rfl)) (hw _ (gw 3 rfl)) (by decide) (by decide)) q159a q159c (g := (mkF m 116 #[.val (.int p1), .val (.int p2), .val (.int p3), .val (.int p4), .val (.int p5), .val (.int (1 : Int32)), .val (.ref b86), .val (.int p1), .val (.int p5), .val (.int p3)] [(.int (2 : Int32)), (.ref b86)])) rfl (by rw [hml]; rfl) (Steps.refl _) (argsL := [(.int (2 : Int32))]) (rest := []) (lenOf pd_4 rfl) rfl (by show 2 * 0 + _ ≤ _; exact Nat.le_of_eq rfl) (hb hby at_116) (fun _ _ => ⟨rfl, u158, (by decide : 3 + 0 ≤ _), (by decide : 4099 + 0 ≤ _)⟩)
    dsimp only [Pt.U, Pt.locs, Pt.cells, Pt.slots] at X159 l159 y159 z159 st159 hQ159
    subst l159 y159 z159
    obtain ⟨rfl, u161, u162⟩ := hQ159
    have N159 := Fr.app N155 u161
    obtain ⟨fs, hr, hrun, hended, hW, hsame⟩ := X159.leave (v := some (.int (1 : Int32))) (fun h => by rw [Bd.returns] at h; cases h)
    refine ⟨_, _, pre8 _ ?_, hrun, hended, _, _, rfl, ?_, ⟨_, rfl⟩, hW, hsame.mono (by decide) (by decide)⟩
    · show Steps p.tables e below (s₁.setTop (mkF m 5 #[.val (.int p1), .val (.int p2), .val (.int p3), .val (.int p4), .val (.int p5), .unset, .unset, .unset, .unset, .unset] [(.int (3 : Int32)), (.int i6)])) _
      refine Jvm.RoadKit.iremM (g := (mkF m 5 #[.val (.int p1), .val (.int p2), .val (.int p3), .val (.int p4), .val (.int p5), .unset, .unset, .unset, .unset, .unset] [(.int (3 : Int32)), (.int i6)])) X0 hx rfl (hb hby at_5) rfl (by decide +kernel : ¬ ((3 : Int32) = (0 : Int32))) ?_
      show Steps p.tables e below (s₁.setTop (mkF m 6 #[.val (.int p1), .val (.int p2), .val (.int p3), .val (.int p4), .val (.int p5), .unset, .unset, .unset, .unset, .unset] [(.int (i6 % (3 : Int32)))])) _
      rw [hq7]
      show Steps p.tables e below (s₁.setTop (mkF m 6 #[.val (.int p1), .val (.int p2), .val (.int p3), .val (.int p4), .val (.int p5), .unset, .unset, .unset, .unset, .unset] [(.int (1 : Int32))])) _
      refine XS.istore X0.here hx rfl (hb hby at_6) rfl (l' := #[.val (.int p1), .val (.int p2), .val (.int p3), .val (.int p4), .val (.int p5), .val (.int (1 : Int32)), .unset, .unset, .unset, .unset]) rfl ?_
      show Steps p.tables e below (s₁.setTop (mkF m 8 #[.val (.int p1), .val (.int p2), .val (.int p3), .val (.int p4), .val (.int p5), .val (.int (1 : Int32)), .unset, .unset, .unset, .unset] [])) _
      refine st86 _ ?_
      show Steps p.tables e below (T86.setTop (mkF m 11 #[.val (.int p1), .val (.int p2), .val (.int p3), .val (.int p4), .val (.int p5), .val (.int (1 : Int32)), .unset, .unset, .unset, .unset] [(.ref b86)])) _
      refine XS.dup X86.here hx rfl (hb hby at_11) rfl rfl ?_
      show Steps p.tables e below (T86.setTop (mkF m 12 #[.val (.int p1), .val (.int p2), .val (.int p3), .val (.int p4), .val (.int p5), .val (.int (1 : Int32)), .unset, .unset, .unset, .unset] [(.ref b86), (.ref b86)])) _
      refine st87.trans ?_
      show Steps p.tables e below (T87.setTop (mkF m 15 #[.val (.int p1), .val (.int p2), .val (.int p3), .val (.int p4), .val (.int p5), .val (.int (1 : Int32)), .unset, .unset, .unset, .unset] [(.ref b86)])) _
      refine XS.astore X87.here hx rfl (hb hby at_15) rfl rfl (l' := #[.val (.int p1), .val (.int p2), .val (.int p3), .val (.int p4), .val (.int p5), .val (.int (1 : Int32)), .val (.ref b86), .unset, .unset, .unset]) rfl ?_
      show Steps p.tables e below (T87.setTop (mkF m 17 #[.val (.int p1), .val (.int p2), .val (.int p3), .val (.int p4), .val (.int p5), .val (.int (1 : Int32)), .val (.ref b86), .unset, .unset, .unset] [])) _
      refine XS.aload X87.here hx rfl (hb hby at_17) rfl rfl ?_
      show Steps p.tables e below (T87.setTop (mkF m 19 #[.val (.int p1), .val (.int p2), .val (.int p3), .val (.int p4), .val (.int p5), .val (.int (1 : Int32)), .val (.ref b86), .unset, .unset, .unset] [(.ref b86)])) _
      refine XS.iloadN X87.here hx rfl (hb hby at_19) rfl ?_
      show Steps p.tables e below (T87.setTop (mkF m 20 #[.val (.int p1), .val (.int p2), .val (.int p3), .val (.int p4), .val (.int p5), .val (.int (1 : Int32)), .val (.ref b86), .unset, .unset, .unset] [(.int p1), (.ref b86)])) _
      refine st101.trans ?_
      show Steps p.tables e below (T101.setTop (mkF m 23 #[.val (.int p1), .val (.int p2), .val (.int p3), .val (.int p4), .val (.int p5), .val (.int (1 : Int32)), .val (.ref b86), .unset, .unset, .unset] [])) _
      refine XS.aload X101.here hx rfl (hb hby at_23) rfl rfl ?_
      show Steps p.tables e below (T101.setTop (mkF m 25 #[.val (.int p1), .val (.int p2), .val (.int p3), .val (.int p4), .val (.int p5), .val (.int (1 : Int32)), .val (.ref b86), .unset, .unset, .unset] [(.ref b86)])) _
      refine XS.iloadN X101.here hx rfl (hb hby at_25) rfl ?_
      show Steps p.tables e below (T101.setTop (mkF m 26 #[.val (.int p1), .val (.int p2), .val (.int p3), .val (.int p4), .val (.int p5), .val (.int (1 : Int32)), .val (.ref b86), .unset, .unset, .unset] [(.int p2), (.ref b86)])) _
      refine st117.trans ?_
      show Steps p.tables e below (T117.setTop (mkF m 29 #[.val (.int p1), .val (.int p2), .val (.int p3), .val (.int p4), .val (.int p5), .val (.int (1 : Int32)), .val (.ref b86), .unset, .unset, .unset] [])) _
      refine XS.aload X117.here hx rfl (hb hby at_29) rfl rfl ?_
      show Steps p.tables e below (T117.setTop (mkF m 31 #[.val (.int p1), .val (.int p2), .val (.int p3), .val (.int p4), .val (.int p5), .val (.int (1 : Int32)), .val (.ref b86), .unset, .unset, .unset] [(.ref b86)])) _
      refine XS.iloadN X117.here hx rfl (hb hby at_31) rfl ?_
      show Steps p.tables e below (T117.setTop (mkF m 32 #[.val (.int p1), .val (.int p2), .val (.int p3), .val (.int p4), .val (.int p5), .val (.int (1 : Int32)), .val (.ref b86), .unset, .unset, .unset] [(.int p3), (.ref b86)])) _
      refine st127.trans ?_
      show Steps p.tables e below (T127.setTop (mkF m 35 #[.val (.int p1), .val (.int p2), .val (.int p3), .val (.int p4), .val (.int p5), .val (.int (1 : Int32)), .val (.ref b86), .unset, .unset, .unset] [])) _
      refine XS.aload X127.here hx rfl (hb hby at_35) rfl rfl ?_
      show Steps p.tables e below (T127.setTop (mkF m 37 #[.val (.int p1), .val (.int p2), .val (.int p3), .val (.int p4), .val (.int p5), .val (.int (1 : Int32)), .val (.ref b86), .unset, .unset, .unset] [(.ref b86)])) _
      refine XS.iload X127.here hx rfl (hb hby at_37) rfl ?_
      show Steps p.tables e below (T127.setTop (mkF m 39 #[.val (.int p1), .val (.int p2), .val (.int p3), .val (.int p4), .val (.int p5), .val (.int (1 : Int32)), .val (.ref b86), .unset, .unset, .unset] [(.int (1 : Int32)), (.ref b86)])) _
      refine XS.iload X127.here hx rfl (hb hby at_39) rfl ?_
      show Steps p.tables e below (T127.setTop (mkF m 41 #[.val (.int p1), .val (.int p2), .val (.int p3), .val (.int p4), .val (.int p5), .val (.int (1 : Int32)), .val (.ref b86), .unset, .unset, .unset] [(.int p5), (.int (1 : Int32)), (.ref b86)])) _
      refine st137.trans ?_
      show Steps p.tables e below (T137.setTop (mkF m 44 #[.val (.int p1), .val (.int p2), .val (.int p3), .val (.int p4), .val (.int p5), .val (.int (1 : Int32)), .val (.ref b86), .unset, .unset, .unset] [])) _
      refine XS.iloadN X137.here hx rfl (hb hby at_44) rfl ?_
      show Steps p.tables e below (T137.setTop (mkF m 45 #[.val (.int p1), .val (.int p2), .val (.int p3), .val (.int p4), .val (.int p5), .val (.int (1 : Int32)), .val (.ref b86), .unset, .unset, .unset] [(.int p1)])) _
      refine XS.istore X137.here hx rfl (hb hby at_45) rfl (l' := #[.val (.int p1), .val (.int p2), .val (.int p3), .val (.int p4), .val (.int p5), .val (.int (1 : Int32)), .val (.ref b86), .val (.int p1), .unset, .unset]) rfl ?_
      show Steps p.tables e below (T137.setTop (mkF m 47 #[.val (.int p1), .val (.int p2), .val (.int p3), .val (.int p4), .val (.int p5), .val (.int (1 : Int32)), .val (.ref b86), .val (.int p1), .unset, .unset] [])) _
      refine XS.iloadN X137.here hx rfl (hb hby at_47) rfl ?_
      show Steps p.tables e below (T137.setTop (mkF m 48 #[.val (.int p1), .val (.int p2), .val (.int p3), .val (.int p4), .val (.int p5), .val (.int (1 : Int32)), .val (.ref b86), .val (.int p1), .unset, .unset] [(.int p2)])) _
      refine XS.istore X137.here hx rfl (hb hby at_48) rfl (l' := #[.val (.int p1), .val (.int p2), .val (.int p3), .val (.int p4), .val (.int p5), .val (.int (1 : Int32)), .val (.ref b86), .val (.int p1), .val (.int p2), .unset]) rfl ?_
      show Steps p.tables e below (T137.setTop (mkF m 50 #[.val (.int p1), .val (.int p2), .val (.int p3), .val (.int p4), .val (.int p5), .val (.int (1 : Int32)), .val (.ref b86), .val (.int p1), .val (.int p2), .unset] [])) _
      refine XS.iloadN X137.here hx rfl (hb hby at_50) rfl ?_
      show Steps p.tables e below (T137.setTop (mkF m 51 #[.val (.int p1), .val (.int p2), .val (.int p3), .val (.int p4), .val (.int p5), .val (.int (1 : Int32)), .val (.ref b86), .val (.int p1), .val (.int p2), .unset] [(.int p3)])) _
      refine XS.istore X137.here hx rfl (hb hby at_51) rfl (l' := #[.val (.int p1), .val (.int p2), .val (.int p3), .val (.int p4), .val (.int p5), .val (.int (1 : Int32)), .val (.ref b86), .val (.int p1), .val (.int p2), .val (.int p3)]) rfl ?_
      show Steps p.tables e below (T137.setTop (mkF m 53 #[.val (.int p1), .val (.int p2), .val (.int p3), .val (.int p4), .val (.int p5), .val (.int (1 : Int32)), .val (.ref b86), .val (.int p1), .val (.int p2), .val (.int p3)] [])) _
      refine XS.iload X137.here hx rfl (hb hby at_53) rfl ?_
      show Steps p.tables e below (T137.setTop (mkF m 55 #[.val (.int p1), .val (.int p2), .val (.int p3), .val (.int p4), .val (.int p5), .val (.int (1 : Int32)), .val (.ref b86), .val (.int p1), .val (.int p2), .val (.int p3)] [(.int (1 : Int32))])) _
      refine XS.ifYes X137.here hx rfl (pc0 := 55) (pc' := 65) rfl (hb hby at_55) rfl ((if0 _ _).trans (feq (by decide +kernel : ¬ ((1 : Int32) = (0 : Int32)))).2) (by decide) (by decide) ?_
      show Steps p.tables e below (T137.setTop (mkF m 65 #[.val (.int p1), .val (.int p2), .val (.int p3), .val (.int p4), .val (.int p5), .val (.int (1 : Int32)), .val (.ref b86), .val (.int p1), .val (.int p2), .val (.int p3)] [])) _
      refine XS.iload X137.here hx rfl (hb hby at_65) rfl ?_
      show Steps p.tables e below (T137.setTop (mkF m 67 #[.val (.int p1), .val (.int p2), .val (.int p3), .val (.int p4), .val (.int p5), .val (.int (1 : Int32)), .val (.ref b86), .val (.int p1), .val (.int p2), .val (.int p3)] [(.int (1 : Int32))])) _
      refine XS.iconst X137.here hx rfl (hb hby at_67) ?_
      show Steps p.tables e below (T137.setTop (mkF m 68 #[.val (.int p1), .val (.int p2), .val (.int p3), .val (.int p4), .val (.int p5), .val (.int (1 : Int32)), .val (.ref b86), .val (.int p1), .val (.int p2), .val (.int p3)] [(.int (1 : Int32)), (.int (1 : Int32))])) _
      refine XS.icmpNo X137.here hx rfl (hb hby at_68) rfl (teq (by decide +kernel : (1 : Int32) = (1 : Int32))).2 ?_
      show Steps p.tables e below (T137.setTop (mkF m 71 #[.val (.int p1), .val (.int p2), .val (.int p3), .val (.int p4), .val (.int p5), .val (.int (1 : Int32)), .val (.ref b86), .val (.int p1), .val (.int p2), .val (.int p3)] [])) _
      refine XS.iload X137.here hx rfl (hb hby at_71) rfl ?_
      show Steps p.tables e below (T137.setTop (mkF m 73 #[.val (.int p1), .val (.int p2), .val (.int p3), .val (.int p4), .val (.int p5), .val (.int (1 : Int32)), .val (.ref b86), .val (.int p1), .val (.int p2), .val (.int p3)] [(.int p5)])) _
      refine XS.istore X137.here hx rfl (hb hby at_73) rfl (l' := #[.val (.int p1), .val (.int p2), .val (.int p3), .val (.int p4), .val (.int p5), .val (.int (1 : Int32)), .val (.ref b86), .val (.int p1), .val (.int p5), .val (.int p3)]) rfl ?_
      show Steps p.tables e below (T137.setTop (mkF m 75 #[.val (.int p1), .val (.int p2), .val (.int p3), .val (.int p4), .val (.int p5), .val (.int (1 : Int32)), .val (.ref b86), .val (.int p1), .val (.int p5), .val (.int p3)] [])) _
      refine XS.goto X137.here hx rfl (pc0 := 75) (pc' := 82) rfl (hb hby at_75) (by decide) (by decide) ?_
      show Steps p.tables e below (T137.setTop (mkF m 82 #[.val (.int p1), .val (.int p2), .val (.int p3), .val (.int p4), .val (.int p5), .val (.int (1 : Int32)), .val (.ref b86), .val (.int p1), .val (.int p5), .val (.int p3)] [])) _
      refine XS.aload X137.here hx rfl (hb hby at_82) rfl rfl ?_
      show Steps p.tables e below (T137.setTop (mkF m 84 #[.val (.int p1), .val (.int p2), .val (.int p3), .val (.int p4), .val (.int p5), .val (.int (1 : Int32)), .val (.ref b86), .val (.int p1), .val (.int p5), .val (.int p3)] [(.ref b86)])) _
      refine st144.trans ?_
      show Steps p.tables e below (T144.setTop (mkF m 87 #[.val (.int p1), .val (.int p2), .val (.int p3), .val (.int p4), .val (.int p5), .val (.int (1 : Int32)), .val (.ref b86), .val (.int p1), .val (.int p5), .val (.int p3)] [(.int (3 : Int32))])) _
      refine XS.iconst X144.here hx rfl (hb hby at_87) ?_
      show Steps p.tables e below (T144.setTop (mkF m 88 #[.val (.int p1), .val (.int p2), .val (.int p3), .val (.int p4), .val (.int p5), .val (.int (1 : Int32)), .val (.ref b86), .val (.int p1), .val (.int p5), .val (.int p3)] [(.int (3 : Int32)), (.int (3 : Int32))])) _
      refine XS.icmpNo X144.here hx rfl (hb hby at_88) rfl (teq (by decide +kernel : (3 : Int32) = (3 : Int32))).2 ?_
      show Steps p.tables e below (T144.setTop (mkF m 91 #[.val (.int p1), .val (.int p2), .val (.int p3), .val (.int p4), .val (.int p5), .val (.int (1 : Int32)), .val (.ref b86), .val (.int p1), .val (.int p5), .val (.int p3)] [])) _
      refine XS.aload X144.here hx rfl (hb hby at_91) rfl rfl ?_
      show Steps p.tables e below (T144.setTop (mkF m 93 #[.val (.int p1), .val (.int p2), .val (.int p3), .val (.int p4), .val (.int p5), .val (.int (1 : Int32)), .val (.ref b86), .val (.int p1), .val (.int p5), .val (.int p3)] [(.ref b86)])) _
      refine XS.iconst X144.here hx rfl (hb hby at_93) ?_
      show Steps p.tables e below (T144.setTop (mkF m 94 #[.val (.int p1), .val (.int p2), .val (.int p3), .val (.int p4), .val (.int p5), .val (.int (1 : Int32)), .val (.ref b86), .val (.int p1), .val (.int p5), .val (.int p3)] [(.int (0 : Int32)), (.ref b86)])) _
      refine st151.trans ?_
      show Steps p.tables e below (T151.setTop (mkF m 97 #[.val (.int p1), .val (.int p2), .val (.int p3), .val (.int p4), .val (.int p5), .val (.int (1 : Int32)), .val (.ref b86), .val (.int p1), .val (.int p5), .val (.int p3)] [(.int p1)])) _
      refine XS.iload X151.here hx rfl (hb hby at_97) rfl ?_
      show Steps p.tables e below (T151.setTop (mkF m 99 #[.val (.int p1), .val (.int p2), .val (.int p3), .val (.int p4), .val (.int p5), .val (.int (1 : Int32)), .val (.ref b86), .val (.int p1), .val (.int p5), .val (.int p3)] [(.int p1), (.int p1)])) _
      refine XS.icmpNo X151.here hx rfl (hb hby at_99) rfl (teq (rfl : p1 = p1)).2 ?_
      show Steps p.tables e below (T151.setTop (mkF m 102 #[.val (.int p1), .val (.int p2), .val (.int p3), .val (.int p4), .val (.int p5), .val (.int (1 : Int32)), .val (.ref b86), .val (.int p1), .val (.int p5), .val (.int p3)] [])) _
      refine XS.aload X151.here hx rfl (hb hby at_102) rfl rfl ?_
      show Steps p.tables e below (T151.setTop (mkF m 104 #[.val (.int p1), .val (.int p2), .val (.int p3), .val (.int p4), .val (.int p5), .val (.int (1 : Int32)), .val (.ref b86), .val (.int p1), .val (.int p5), .val (.int p3)] [(.ref b86)])) _
      refine XS.iconst X151.here hx rfl (hb hby at_104) ?_
      show Steps p.tables e below (T151.setTop (mkF m 105 #[.val (.int p1), .val (.int p2), .val (.int p3), .val (.int p4), .val (.int p5), .val (.int (1 : Int32)), .val (.ref b86), .val (.int p1), .val (.int p5), .val (.int p3)] [(.int (1 : Int32)), (.ref b86)])) _
      refine st155.trans ?_
      show Steps p.tables e below (T155.setTop (mkF m 108 #[.val (.int p1), .val (.int p2), .val (.int p3), .val (.int p4), .val (.int p5), .val (.int (1 : Int32)), .val (.ref b86), .val (.int p1), .val (.int p5), .val (.int p3)] [(.int p5)])) _
      refine XS.iload X155.here hx rfl (hb hby at_108) rfl ?_
      show Steps p.tables e below (T155.setTop (mkF m 110 #[.val (.int p1), .val (.int p2), .val (.int p3), .val (.int p4), .val (.int p5), .val (.int (1 : Int32)), .val (.ref b86), .val (.int p1), .val (.int p5), .val (.int p3)] [(.int p5), (.int p5)])) _
      refine XS.icmpNo X155.here hx rfl (hb hby at_110) rfl (teq (rfl : p5 = p5)).2 ?_
      show Steps p.tables e below (T155.setTop (mkF m 113 #[.val (.int p1), .val (.int p2), .val (.int p3), .val (.int p4), .val (.int p5), .val (.int (1 : Int32)), .val (.ref b86), .val (.int p1), .val (.int p5), .val (.int p3)] [])) _
      refine XS.aload X155.here hx rfl (hb hby at_113) rfl rfl ?_
      show Steps p.tables e below (T155.setTop (mkF m 115 #[.val (.int p1), .val (.int p2), .val (.int p3), .val (.int p4), .val (.int p5), .val (.int (1 : Int32)), .val (.ref b86), .val (.int p1), .val (.int p5), .val (.int p3)] [(.ref b86)])) _
      refine XS.iconst X155.here hx rfl (hb hby at_115) ?_
      show Steps p.tables e below (T155.setTop (mkF m 116 #[.val (.int p1), .val (.int p2), .val (.int p3), .val (.int p4), .val (.int p5), .val (.int (1 : Int32)), .val (.ref b86), .val (.int p1), .val (.int p5), .val (.int p3)] [(.int (2 : Int32)), (.ref b86)])) _
      refine st159.trans ?_
      show Steps p.tables e below (T159.setTop (mkF m 119 #[.val (.int p1), .val (.int p2), .val (.int p3), .val (.int p4), .val (.int p5), .val (.int (1 : Int32)), .val (.ref b86), .val (.int p1), .val (.int p5), .val (.int p3)] [(.int p3)])) _
      refine XS.iload X159.here hx rfl (hb hby at_119) rfl ?_
      show Steps p.tables e below (T159.setTop (mkF m 121 #[.val (.int p1), .val (.int p2), .val (.int p3), .val (.int p4), .val (.int p5), .val (.int (1 : Int32)), .val (.ref b86), .val (.int p1), .val (.int p5), .val (.int p3)] [(.int p3), (.int p3)])) _
      refine XS.icmpNo X159.here hx rfl (hb hby at_121) rfl (teq (rfl : p3 = p3)).2 ?_
      show Steps p.tables e below (T159.setTop (mkF m 124 #[.val (.int p1), .val (.int p2), .val (.int p3), .val (.int p4), .val (.int p5), .val (.int (1 : Int32)), .val (.ref b86), .val (.int p1), .val (.int p5), .val (.int p3)] [])) _
      refine XS.iconst X159.here hx rfl (hb hby at_124) ?_
      show Steps p.tables e below (T159.setTop (mkF m 125 #[.val (.int p1), .val (.int p2), .val (.int p3), .val (.int p4), .val (.int p5), .val (.int (1 : Int32)), .val (.ref b86), .val (.int p1), .val (.int p5), .val (.int p3)] [(.int (1 : Int32))])) _
      refine XS.goto X159.here hx rfl (pc0 := 125) (pc' := 129) rfl (hb hby at_125) (by decide) (by decide) ?_
      show Steps p.tables e below (T159.setTop (mkF m 129 #[.val (.int p1), .val (.int p2), .val (.int p3), .val (.int p4), .val (.int p5), .val (.int (1 : Int32)), .val (.ref b86), .val (.int p1), .val (.int p5), .val (.int p3)] [(.int (1 : Int32))])) _
      exact retN X159 hx (t := .boolean) Bd.returns (by simp) (hb hby at_129) hr
    · show Q0 Z _ _ _ _ _ h0 n0 _ T159.heap _
      rw [u162]
      exact ⟨rfl, N159⟩
  · skip
    obtain ⟨T163, h163, X163, e163, E163, A163, D163, -, st163⟩ := newO X0 hx hZ hown (hw _ (gw 1 rfl)) (hw _ (gw 2 rfl)) (hw _ (gw 3 rfl)) e0 (g := (mkF m 8 #[.val (.int p1), .val (.int p2), .val (.int p3), .val (.int p4), .val (.int p5), .val (.int (2 : Int32)), .unset, .unset, .unset, .unset] [])) rfl (hb hby at_8) (by decide) (by decide)
    obtain ⟨b163, g163⟩ : ∃ z, z = h0.size := ⟨_, rfl⟩
    rw [← g163] at A163 D163 st163
    have O163 : Old Z n0 h163 := O0.ext E163
    have bd_b163 : h0.size ≤ b163 := Nat.le_of_eq g163.symm
    have g_b163 : n0 ≤ b163 := Nat.le_trans (own_z O0) bd_b163
    have sz_b163 : h0.size ≤ b163 := Nat.le_trans (Nat.le_refl _) bd_b163
    have lt_b163 : b163 < h163.size := A163.lt
    have D163_13 : Fld Z h163 b163 "com/example/vestry/vestry/Ints" "blocks" "[[I" .null := D163 (Or.inl (hw _ (gw 13 rfl))) (ty := (.array (.array .int))) (by decide)
    have D163_20 : Fld Z h163 b163 "com/example/vestry/vestry/Ints" "size" "I" (.int (0 : Int32)) := D163 (Or.inl (hw _ (gw 20 rfl))) (ty := .int) (by decide)
    obtain ⟨_, _, ⟨T164, L164, k164, n164⟩, -, X164, ⟨Lc164, hQ164, l164, y164, z164⟩, st164⟩ := X163.specialBack hx (y := M_0) rfl hown (mvT hZ (hw _ (gw 4 rfl))) (mvT hZ (hw _ (gw 5 rfl))) (mvT hZ (hw _ (gw 6 rfl))) (by decide) (backOf (W := 1) (rm1_2 l Z a0 hw [] b163 h163 n0  O163 A163 D163_13 D163_20 g_b163 lt_b163) hZ (hw _ (gw 6 rfl)) (hw _ (gw 3 rfl)) (by decide) (by decide)) (g := (mkF m 12 #[.val (.int p1), .val (.int p2), .val (.int p3), .val (.int p4), .val (.int p5), .val (.int (2 : Int32)), .unset, .unset, .unset, .unset] [(.ref b163), (.ref b163)])) rfl (by rw [hml]; rfl) (Steps.refl _) (a := b163) (argsL := []) (rest := [(.ref b163)]) (lenOf pd_0 rfl) rfl (by show 2 * 0 + _ ≤ _; exact Nat.le_of_eq rfl) (hb hby at_12) (fun _ _ => ⟨rfl, e163, (by decide : 1 + 1 ≤ _), (by decide : 2 + 1 ≤ _)⟩)
    dsimp only [Pt.U, Pt.locs, Pt.cells, Pt.slots] at X164 l164 y164 z164 st164 hQ164
    subst l164 y164 z164
    obtain ⟨b165, k166, rfl, u168, u169, u170, Ku171, u172, u173, u174, u175, u176, u177⟩ := hQ164
    have Ou171 : Old Z n0 T164.heap := O163.keep Ku171 (allS g_b163 all0)
    have g_b165 : n0 ≤ b165 := Nat.le_trans (own_z O163) u169
    have sz_b165 : h0.size ≤ b165 := Nat.le_trans E163.1 u169
    have N164 := Fr.app N0 u168
    obtain ⟨cq178, kq178, q178a, q178b, q178c⟩ := isOf hZ rfl u172
    obtain ⟨_, _, ⟨T178, L178, k178, n178⟩, -, X178, ⟨Lc178, hQ178, l178, y178, z178⟩, st178⟩ := X164.virtualBack hx (y := M_1) (z := M_1) hown (mvT hZ (hw _ (gw 14 rfl))) (mvT hZ (hw _ (gw 15 rfl))) (notFace_of_selects (args := #[]) (mvT hZ (hw _ (gw 17 rfl)))) (mvT hZ (hw _ (gw 17 rfl))) (mvT hZ (hw _ (gw 16 rfl))) (by decide) (backOf (W := 0) (rm3_3 l Z a0 hw [] b163 p1 b165 k166 T164.heap n0  Ou171 u174 u173 u176 u177 g_b165 u175 (Nat.ne_of_lt (Nat.lt_of_lt_of_le lt_b163 u169)) u170 (Nat.lt_of_lt_of_le lt_b163 Ku171.1) u172 g_b163) hZ (hw _ (gw 18 rfl)) (hw _ (gw 3 rfl)) (by decide) (by decide)) q178a q178c (g := (mkF m 20 #[.val (.int p1), .val (.int p2), .val (.int p3), .val (.int p4), .val (.int p5), .val (.int (2 : Int32)), .val (.ref b163), .unset, .unset, .unset] [(.int p1), (.ref b163)])) rfl (by rw [hml]; rfl) (Steps.refl _) (argsL := [(.int p1)]) (rest := []) (lenOf pd_1 rfl) rfl (by show 2 * 0 + _ ≤ _; exact Nat.le_of_eq rfl) (hb hby at_20) (fun _ _ => ⟨rfl, rfl, (by decide : 2 + 1 ≤ _), (by decide : 3 + 4096 ≤ _)⟩)
    dsimp only [Pt.U, Pt.locs, Pt.cells, Pt.slots] at X178 l178 y178 z178 st178 hQ178
    subst l178 y178 z178
    obtain ⟨b179, k180, rfl, u182, u183, u184, Ku185, u186, u187, u188, u189, u190, u191, u192, u193⟩ := hQ178
    have Ou185 : Old Z n0 T178.heap := Ou171.keep Ku185 (allS g_b165 (allS g_b163 all0))
    have g_b179 : n0 ≤ b179 := Nat.le_trans (own_z Ou171) u183
    have sz_b179 : h0.size ≤ b179 := Nat.le_trans (Nat.le_trans E163.1 Ku171.1) u183
    have N178 := Fr.app N164 u182
    obtain ⟨cq194, kq194, q194a, q194b, q194c⟩ := isOf hZ rfl u189
    obtain ⟨_, _, ⟨T194, L194, k194, n194⟩, -, X194, ⟨Lc194, hQ194, l194, y194, z194⟩, st194⟩ := X178.virtualBack hx (y := M_1) (z := M_1) hown (mvT hZ (hw _ (gw 14 rfl))) (mvT hZ (hw _ (gw 15 rfl))) (notFace_of_selects (args := #[]) (mvT hZ (hw _ (gw 17 rfl)))) (mvT hZ (hw _ (gw 17 rfl))) (mvT hZ (hw _ (gw 16 rfl))) (by decide) (backOf (W := 0) (rm3_4 l Z a0 hw [] b163 p2 b165 b179 k166 p1 k180 T178.heap n0  Ou185 u191 u190 u187 u193 g_b179 u192 (Nat.ne_of_lt (Nat.lt_of_lt_of_le (Nat.lt_of_lt_of_le lt_b163 Ku171.1) u183)) u189 g_b163) hZ (hw _ (gw 18 rfl)) (hw _ (gw 3 rfl)) (by decide) (by decide)) q194a q194c (g := (mkF m 26 #[.val (.int p1), .val (.int p2), .val (.int p3), .val (.int p4), .val (.int p5), .val (.int (2 : Int32)), .val (.ref b163), .unset, .unset, .unset] [(.int p2), (.ref b163)])) rfl (by rw [hml]; rfl) (Steps.refl _) (argsL := [(.int p2)]) (rest := []) (lenOf pd_1 rfl) rfl (by show 2 * 0 + _ ≤ _; exact Nat.le_of_eq rfl) (hb hby at_26) (fun _ _ => ⟨rfl, rfl, (by decide : 3 + 0 ≤ _), (by decide : 4099 + 0 ≤ _)⟩)
    dsimp only [Pt.U, Pt.locs, Pt.cells, Pt.slots] at X194 l194 y194 z194 st194 hQ194
    subst l194 y194 z194
    obtain ⟨rfl, u196, Ku197, u198, u199, u200, u201, u202⟩ := hQ194
    have Ou197 : Old Z n0 T194.heap := Ou185.keep Ku197 (allS g_b179 (allS g_b163 all0))
    have N194 := Fr.app N178 u196
    have f203 : Arv Z T194.heap b165 k166 (.array .int) (1 : Int32) [(.ref b179)] .null := (u187.keep Ku197 (ninS (Nat.ne_of_lt (Nat.lt_of_lt_of_le u170 u183)) (ninS (Ne.symm (Nat.ne_of_lt (Nat.lt_of_lt_of_le lt_b163 u169))) nin0)))
    obtain ⟨cq204, kq204, q204a, q204b, q204c⟩ := isOf hZ rfl u200
    obtain ⟨_, _, ⟨T204, L204, k204, n204⟩, -, X204, ⟨Lc204, hQ204, l204, y204, z204⟩, st204⟩ := X194.virtualBack hx (y := M_1) (z := M_1) hown (mvT hZ (hw _ (gw 14 rfl))) (mvT hZ (hw _ (gw 15 rfl))) (notFace_of_selects (args := #[]) (mvT hZ (hw _ (gw 17 rfl)))) (mvT hZ (hw _ (gw 17 rfl))) (mvT hZ (hw _ (gw 16 rfl))) (by decide) (backOf (W := 0) (rm3_5 l Z a0 hw [] b163 p3 b165 b179 k166 p1 p2 k180 T194.heap n0  Ou197 u202 u201 f203 u199 g_b179 u198 (Nat.ne_of_lt (Nat.lt_of_lt_of_le (Nat.lt_of_lt_of_le lt_b163 Ku171.1) u183)) u200 g_b163) hZ (hw _ (gw 18 rfl)) (hw _ (gw 3 rfl)) (by decide) (by decide)) q204a q204c (g := (mkF m 32 #[.val (.int p1), .val (.int p2), .val (.int p3), .val (.int p4), .val (.int p5), .val (.int (2 : Int32)), .val (.ref b163), .unset, .unset, .unset] [(.int p3), (.ref b163)])) rfl (by rw [hml]; rfl) (Steps.refl _) (argsL := [(.int p3)]) (rest := []) (lenOf pd_1 rfl) rfl (by show 2 * 0 + _ ≤ _; exact Nat.le_of_eq rfl) (hb hby at_32) (fun _ _ => ⟨rfl, rfl, (by decide : 3 + 0 ≤ _), (by decide : 4099 + 0 ≤ _)⟩)
    dsimp only [Pt.U, Pt.locs, Pt.cells, Pt.slots] at X204 l204 y204 z204 st204 hQ204
    subst l204 y204 z204
    obtain ⟨rfl, u206, Ku207, u208, u209, u210, u211, u212⟩ := hQ204
    have Ou207 : Old Z n0 T204.heap := Ou197.keep Ku207 (allS g_b179 (allS g_b163 all0))
    have N204 := Fr.app N194 u206
    have f213 : Arv Z T204.heap b165 k166 (.array .int) (1 : Int32) [(.ref b179)] .null := (f203.keep Ku207 (ninS (Nat.ne_of_lt (Nat.lt_of_lt_of_le u170 u183)) (ninS (Ne.symm (Nat.ne_of_lt (Nat.lt_of_lt_of_le lt_b163 u169))) nin0)))
    obtain ⟨cq214, kq214, q214a, q214b, q214c⟩ := isOf hZ rfl u210
    obtain ⟨_, _, ⟨T214, L214, k214, n214⟩, -, X214, ⟨Lc214, hQ214, l214, y214, z214⟩, st214⟩ := X204.virtualBack hx (y := M_2) (z := M_2) hown (mvT hZ (hw _ (gw 23 rfl))) (mvT hZ (hw _ (gw 24 rfl))) (notFace_of_selects (args := #[]) (mvT hZ (hw _ (gw 26 rfl)))) (mvT hZ (hw _ (gw 26 rfl))) (mvT hZ (hw _ (gw 25 rfl))) (by decide) (backOf (W := 0) (rm4_12 l Z a0 hw [] b163 p5 b165 b179 k166 p1 p2 p3 k180 T204.heap n0  Ou207 u211 f213 u209 g_b179 u208) hZ (hw _ (gw 27 rfl)) (hw _ (gw 3 rfl)) (by decide) (by decide)) q214a q214c (g := (mkF m 41 #[.val (.int p1), .val (.int p2), .val (.int p3), .val (.int p4), .val (.int p5), .val (.int (2 : Int32)), .val (.ref b163), .unset, .unset, .unset] [(.int p5), (.int (2 : Int32)), (.ref b163)])) rfl (by rw [hml]; rfl) (Steps.refl _) (argsL := [(.int (2 : Int32)), (.int p5)]) (rest := []) (lenOf pd_2 rfl) rfl (by show 2 * 0 + _ ≤ _; exact Nat.le_of_eq rfl) (hb hby at_41) (fun _ _ => ⟨rfl, rfl, (by decide : 3 + 0 ≤ _), (by decide : 4099 + 0 ≤ _)⟩)
    dsimp only [Pt.U, Pt.locs, Pt.cells, Pt.slots] at X214 l214 y214 z214 st214 hQ214
    subst l214 y214 z214
    obtain ⟨rfl, u216, Ku217, u218, u219⟩ := hQ214
    have Ou217 : Old Z n0 T214.heap := Ou207.keep Ku217 (allS g_b179 all0)
    have N214 := Fr.app N204 u216
    have f220 : Fld Z T214.heap b163 "com/example/vestry/vestry/Ints" "size" "I" (.int (3 : Int32)) := (u212.keep Ku217 (ninS (Nat.ne_of_lt (Nat.lt_of_lt_of_le (Nat.lt_of_lt_of_le lt_b163 Ku171.1) u183)) nin0))
    have f222 : Exa Z T214.heap b163 "com/example/vestry/vestry/Ints" := (u210.keep Ku217)
    obtain ⟨cq221, kq221, q221a, q221b, q221c⟩ := isOf hZ rfl f222
    obtain ⟨_, _, ⟨T221, L221, k221, n221⟩, -, X221, ⟨Lc221, hQ221, l221, y221, z221⟩, st221⟩ := X214.virtualBack hx (y := M_3) (z := M_3) hown (mvT hZ (hw _ (gw 28 rfl))) (mvT hZ (hw _ (gw 29 rfl))) (notFace_of_selects (args := #[]) (mvT hZ (hw _ (gw 31 rfl)))) (mvT hZ (hw _ (gw 31 rfl))) (mvT hZ (hw _ (gw 30 rfl))) (by decide) (backOf (W := 0) (rm5_7 l Z a0 hw [] b163 T214.heap n0  Ou217 f220) hZ (hw _ (gw 32 rfl)) (hw _ (gw 3 rfl)) (by decide) (by decide)) q221a q221c (g := (mkF m 84 #[.val (.int p1), .val (.int p2), .val (.int p3), .val (.int p4), .val (.int p5), .val (.int (2 : Int32)), .val (.ref b163), .val (.int p1), .val (.int p2), .val (.int p5)] [(.ref b163)])) rfl (by rw [hml]; rfl) (Steps.refl _) (argsL := []) (rest := []) (lenOf pd_3 rfl) rfl (by show 2 * 0 + _ ≤ _; exact Nat.le_of_eq rfl) (hb hby at_84) (fun _ _ => ⟨rfl, rfl, (by decide : 3 + 0 ≤ _), (by decide : 4099 + 0 ≤ _)⟩)
    dsimp only [Pt.U, Pt.locs, Pt.cells, Pt.slots] at X221 l221 y221 z221 st221 hQ221
    subst l221 y221 z221
    obtain ⟨rfl, u224, u225⟩ := hQ221
    have N221 := Fr.app N214 u224
    have f226 : Fld Z T214.heap b163 "com/example/vestry/vestry/Ints" "blocks" "[[I" (.ref b165) := (u211.keep Ku217 (ninS (Nat.ne_of_lt (Nat.lt_of_lt_of_le (Nat.lt_of_lt_of_le lt_b163 Ku171.1) u183)) nin0))
    have f227 : Arv Z T214.heap b165 k166 (.array .int) (1 : Int32) [(.ref b179)] .null := (f213.keep Ku217 (ninS (Nat.ne_of_lt (Nat.lt_of_lt_of_le u170 u183)) nin0))
    obtain ⟨cq228, kq228, q228a, q228b, q228c⟩ := isOf hZ u225 f222
    obtain ⟨_, _, ⟨T228, L228, k228, n228⟩, -, X228, ⟨Lc228, hQ228, l228, y228, z228⟩, st228⟩ := X221.virtualBack hx (y := M_4) (z := M_4) hown (mvT hZ (hw _ (gw 33 rfl))) (mvT hZ (hw _ (gw 34 rfl))) (notFace_of_selects (args := #[]) (mvT hZ (hw _ (gw 36 rfl)))) (mvT hZ (hw _ (gw 36 rfl))) (mvT hZ (hw _ (gw 35 rfl))) (by decide) (backOf (W := 0) (rm6_8 l Z a0 hw [] b163 b165 b179 k166 p1 p2 p5 k180 T214.heap n0  Ou217 f226 f227 u219) hZ (hw _ (gw 37 rfl)) (hw _ (gw 3 rfl)) (by decide) (by decide)) q228a q228c (g := (mkF m 94 #[.val (.int p1), .val (.int p2), .val (.int p3), .val (.int p4), .val (.int p5), .val (.int (2 : Int32)), .val (.ref b163), .val (.int p1), .val (.int p2), .val (.int p5)] [(.int (0 : Int32)), (.ref b163)])) rfl (by rw [hml]; rfl) (Steps.refl _) (argsL := [(.int (0 : Int32))]) (rest := []) (lenOf pd_4 rfl) rfl (by show 2 * 0 + _ ≤ _; exact Nat.le_of_eq rfl) (hb hby at_94) (fun _ _ => ⟨rfl, u225, (by decide : 3 + 0 ≤ _), (by decide : 4099 + 0 ≤ _)⟩)
    dsimp only [Pt.U, Pt.locs, Pt.cells, Pt.slots] at X228 l228 y228 z228 st228 hQ228
    subst l228 y228 z228
    obtain ⟨rfl, u230, u231⟩ := hQ228
    have N228 := Fr.app N221 u230
    obtain ⟨cq232, kq232, q232a, q232b, q232c⟩ := isOf hZ u231 f222
    obtain ⟨_, _, ⟨T232, L232, k232, n232⟩, -, X232, ⟨Lc232, hQ232, l232, y232, z232⟩, st232⟩ := X228.virtualBack hx (y := M_4) (z := M_4) hown (mvT hZ (hw _ (gw 33 rfl))) (mvT hZ (hw _ (gw 34 rfl))) (notFace_of_selects (args := #[]) (mvT hZ (hw _ (gw 36 rfl)))) (mvT hZ (hw _ (gw 36 rfl))) (mvT hZ (hw _ (gw 35 rfl))) (by decide) (backOf (W := 0) (rm6_9 l Z a0 hw [] b163 b165 b179 k166 p1 p2 p5 k180 T214.heap n0  Ou217 f226 f227 u219) hZ (hw _ (gw 37 rfl)) (hw _ (gw 3 rfl)) (by decide) (by decide)) q232a q232c (g := (mkF m 105 #[.val (.int p1), .val (.int p2), .val (.int p3), .val (.int p4), .val (.int p5), .val (.int (2 : Int32)), .val (.ref b163), .val (.int p1), .val (.int p2), .val (.int p5)] [(.int (1 : Int32)), (.ref b163)])) rfl (by rw [hml]; rfl) (Steps.refl _) (argsL := [(.int (1 : Int32))]) (rest := []) (lenOf pd_4 rfl) rfl (by show 2 * 0 + _ ≤ _; exact Nat.le_of_eq rfl) (hb hby at_105) (fun _ _ => ⟨rfl, u231, (by decide : 3 + 0 ≤ _), (by decide : 4099 + 0 ≤ _)⟩)
    dsimp only [Pt.U, Pt.locs, Pt.cells, Pt.slots] at X232 l232 y232 z232 st232 hQ232
    subst l232 y232 z232
    obtain ⟨rfl, u234, u235⟩ := hQ232
    have N232 := Fr.app N228 u234
    obtain ⟨cq236, kq236, q236a, q236b, q236c⟩ := isOf hZ u235 f222
    obtain ⟨_, _, ⟨T236, L236, k236, n236⟩, -, X236, ⟨Lc236, hQ236, l236, y236, z236⟩, st236⟩ := X232.virtualBack hx (y := M_4) (z := M_4) hown (mvT hZ (hw _ (gw 33 rfl))) (mvT hZ (hw _ (gw 34 rfl))) (notFace_of_selects (args := #[]) (mvT hZ (hw _ (gw 36 rfl)))) (mvT hZ (hw _ (gw 36 rfl))) (mvT hZ (hw _ (gw 35 rfl))) (by decide) (backOf (W := 0) (rm6_10 l Z a0 hw [] b163 b165 b179 k166 p1 p2 p5 k180 T214.heap n0  Ou217 f226 f227 u219) hZ (hw _ (gw 37 rfl)) (hw _ (gw 3 rfl)) (by decide) (by decide)) q236a q236c (g := (mkF m 116 #[.val (.int p1), .val (.int p2), .val (.int p3), .val (.int p4), .val (.int p5), .val (.int (2 : Int32)), .val (.ref b163), .val (.int p1), .val (.int p2), .val (.int p5)] [(.int (2 : Int32)), (.ref b163)])) rfl (by rw [hml]; rfl) (Steps.refl _) (argsL := [(.int (2 : Int32))]) (rest := []) (lenOf pd_4 rfl) rfl (by show 2 * 0 + _ ≤ _; exact Nat.le_of_eq rfl) (hb hby at_116) (fun _ _ => ⟨rfl, u235, (by decide : 3 + 0 ≤ _), (by decide : 4099 + 0 ≤ _)⟩)
    dsimp only [Pt.U, Pt.locs, Pt.cells, Pt.slots] at X236 l236 y236 z236 st236 hQ236
    subst l236 y236 z236
    obtain ⟨rfl, u238, u239⟩ := hQ236
    have N236 := Fr.app N232 u238
    obtain ⟨fs, hr, hrun, hended, hW, hsame⟩ := X236.leave (v := some (.int (1 : Int32))) (fun h => by rw [Bd.returns] at h; cases h)
    refine ⟨_, _, pre8 _ ?_, hrun, hended, _, _, rfl, ?_, ⟨_, rfl⟩, hW, hsame.mono (by decide) (by decide)⟩
    · show Steps p.tables e below (s₁.setTop (mkF m 5 #[.val (.int p1), .val (.int p2), .val (.int p3), .val (.int p4), .val (.int p5), .unset, .unset, .unset, .unset, .unset] [(.int (3 : Int32)), (.int i6)])) _
      refine Jvm.RoadKit.iremM (g := (mkF m 5 #[.val (.int p1), .val (.int p2), .val (.int p3), .val (.int p4), .val (.int p5), .unset, .unset, .unset, .unset, .unset] [(.int (3 : Int32)), (.int i6)])) X0 hx rfl (hb hby at_5) rfl (by decide +kernel : ¬ ((3 : Int32) = (0 : Int32))) ?_
      show Steps p.tables e below (s₁.setTop (mkF m 6 #[.val (.int p1), .val (.int p2), .val (.int p3), .val (.int p4), .val (.int p5), .unset, .unset, .unset, .unset, .unset] [(.int (i6 % (3 : Int32)))])) _
      rw [hq7]
      show Steps p.tables e below (s₁.setTop (mkF m 6 #[.val (.int p1), .val (.int p2), .val (.int p3), .val (.int p4), .val (.int p5), .unset, .unset, .unset, .unset, .unset] [(.int (2 : Int32))])) _
      refine XS.istore X0.here hx rfl (hb hby at_6) rfl (l' := #[.val (.int p1), .val (.int p2), .val (.int p3), .val (.int p4), .val (.int p5), .val (.int (2 : Int32)), .unset, .unset, .unset, .unset]) rfl ?_
      show Steps p.tables e below (s₁.setTop (mkF m 8 #[.val (.int p1), .val (.int p2), .val (.int p3), .val (.int p4), .val (.int p5), .val (.int (2 : Int32)), .unset, .unset, .unset, .unset] [])) _
      refine st163 _ ?_
      show Steps p.tables e below (T163.setTop (mkF m 11 #[.val (.int p1), .val (.int p2), .val (.int p3), .val (.int p4), .val (.int p5), .val (.int (2 : Int32)), .unset, .unset, .unset, .unset] [(.ref b163)])) _
      refine XS.dup X163.here hx rfl (hb hby at_11) rfl rfl ?_
      show Steps p.tables e below (T163.setTop (mkF m 12 #[.val (.int p1), .val (.int p2), .val (.int p3), .val (.int p4), .val (.int p5), .val (.int (2 : Int32)), .unset, .unset, .unset, .unset] [(.ref b163), (.ref b163)])) _
      refine st164.trans ?_
      show Steps p.tables e below (T164.setTop (mkF m 15 #[.val (.int p1), .val (.int p2), .val (.int p3), .val (.int p4), .val (.int p5), .val (.int (2 : Int32)), .unset, .unset, .unset, .unset] [(.ref b163)])) _
      refine XS.astore X164.here hx rfl (hb hby at_15) rfl rfl (l' := #[.val (.int p1), .val (.int p2), .val (.int p3), .val (.int p4), .val (.int p5), .val (.int (2 : Int32)), .val (.ref b163), .unset, .unset, .unset]) rfl ?_
      show Steps p.tables e below (T164.setTop (mkF m 17 #[.val (.int p1), .val (.int p2), .val (.int p3), .val (.int p4), .val (.int p5), .val (.int (2 : Int32)), .val (.ref b163), .unset, .unset, .unset] [])) _
      refine XS.aload X164.here hx rfl (hb hby at_17) rfl rfl ?_
      show Steps p.tables e below (T164.setTop (mkF m 19 #[.val (.int p1), .val (.int p2), .val (.int p3), .val (.int p4), .val (.int p5), .val (.int (2 : Int32)), .val (.ref b163), .unset, .unset, .unset] [(.ref b163)])) _
      refine XS.iloadN X164.here hx rfl (hb hby at_19) rfl ?_
      show Steps p.tables e below (T164.setTop (mkF m 20 #[.val (.int p1), .val (.int p2), .val (.int p3), .val (.int p4), .val (.int p5), .val (.int (2 : Int32)), .val (.ref b163), .unset, .unset, .unset] [(.int p1), (.ref b163)])) _
      refine st178.trans ?_
      show Steps p.tables e below (T178.setTop (mkF m 23 #[.val (.int p1), .val (.int p2), .val (.int p3), .val (.int p4), .val (.int p5), .val (.int (2 : Int32)), .val (.ref b163), .unset, .unset, .unset] [])) _
      refine XS.aload X178.here hx rfl (hb hby at_23) rfl rfl ?_
      show Steps p.tables e below (T178.setTop (mkF m 25 #[.val (.int p1), .val (.int p2), .val (.int p3), .val (.int p4), .val (.int p5), .val (.int (2 : Int32)), .val (.ref b163), .unset, .unset, .unset] [(.ref b163)])) _
      refine XS.iloadN X178.here hx rfl (hb hby at_25) rfl ?_
      show Steps p.tables e below (T178.setTop (mkF m 26 #[.val (.int p1), .val (.int p2), .val (.int p3), .val (.int p4), .val (.int p5), .val (.int (2 : Int32)), .val (.ref b163), .unset, .unset, .unset] [(.int p2), (.ref b163)])) _
      refine st194.trans ?_
      show Steps p.tables e below (T194.setTop (mkF m 29 #[.val (.int p1), .val (.int p2), .val (.int p3), .val (.int p4), .val (.int p5), .val (.int (2 : Int32)), .val (.ref b163), .unset, .unset, .unset] [])) _
      refine XS.aload X194.here hx rfl (hb hby at_29) rfl rfl ?_
      show Steps p.tables e below (T194.setTop (mkF m 31 #[.val (.int p1), .val (.int p2), .val (.int p3), .val (.int p4), .val (.int p5), .val (.int (2 : Int32)), .val (.ref b163), .unset, .unset, .unset] [(.ref b163)])) _
      refine XS.iloadN X194.here hx rfl (hb hby at_31) rfl ?_
      show Steps p.tables e below (T194.setTop (mkF m 32 #[.val (.int p1), .val (.int p2), .val (.int p3), .val (.int p4), .val (.int p5), .val (.int (2 : Int32)), .val (.ref b163), .unset, .unset, .unset] [(.int p3), (.ref b163)])) _
      refine st204.trans ?_
      show Steps p.tables e below (T204.setTop (mkF m 35 #[.val (.int p1), .val (.int p2), .val (.int p3), .val (.int p4), .val (.int p5), .val (.int (2 : Int32)), .val (.ref b163), .unset, .unset, .unset] [])) _
      refine XS.aload X204.here hx rfl (hb hby at_35) rfl rfl ?_
      show Steps p.tables e below (T204.setTop (mkF m 37 #[.val (.int p1), .val (.int p2), .val (.int p3), .val (.int p4), .val (.int p5), .val (.int (2 : Int32)), .val (.ref b163), .unset, .unset, .unset] [(.ref b163)])) _
      refine XS.iload X204.here hx rfl (hb hby at_37) rfl ?_
      show Steps p.tables e below (T204.setTop (mkF m 39 #[.val (.int p1), .val (.int p2), .val (.int p3), .val (.int p4), .val (.int p5), .val (.int (2 : Int32)), .val (.ref b163), .unset, .unset, .unset] [(.int (2 : Int32)), (.ref b163)])) _
      refine XS.iload X204.here hx rfl (hb hby at_39) rfl ?_
      show Steps p.tables e below (T204.setTop (mkF m 41 #[.val (.int p1), .val (.int p2), .val (.int p3), .val (.int p4), .val (.int p5), .val (.int (2 : Int32)), .val (.ref b163), .unset, .unset, .unset] [(.int p5), (.int (2 : Int32)), (.ref b163)])) _
      refine st214.trans ?_
      show Steps p.tables e below (T214.setTop (mkF m 44 #[.val (.int p1), .val (.int p2), .val (.int p3), .val (.int p4), .val (.int p5), .val (.int (2 : Int32)), .val (.ref b163), .unset, .unset, .unset] [])) _
      refine XS.iloadN X214.here hx rfl (hb hby at_44) rfl ?_
      show Steps p.tables e below (T214.setTop (mkF m 45 #[.val (.int p1), .val (.int p2), .val (.int p3), .val (.int p4), .val (.int p5), .val (.int (2 : Int32)), .val (.ref b163), .unset, .unset, .unset] [(.int p1)])) _
      refine XS.istore X214.here hx rfl (hb hby at_45) rfl (l' := #[.val (.int p1), .val (.int p2), .val (.int p3), .val (.int p4), .val (.int p5), .val (.int (2 : Int32)), .val (.ref b163), .val (.int p1), .unset, .unset]) rfl ?_
      show Steps p.tables e below (T214.setTop (mkF m 47 #[.val (.int p1), .val (.int p2), .val (.int p3), .val (.int p4), .val (.int p5), .val (.int (2 : Int32)), .val (.ref b163), .val (.int p1), .unset, .unset] [])) _
      refine XS.iloadN X214.here hx rfl (hb hby at_47) rfl ?_
      show Steps p.tables e below (T214.setTop (mkF m 48 #[.val (.int p1), .val (.int p2), .val (.int p3), .val (.int p4), .val (.int p5), .val (.int (2 : Int32)), .val (.ref b163), .val (.int p1), .unset, .unset] [(.int p2)])) _
      refine XS.istore X214.here hx rfl (hb hby at_48) rfl (l' := #[.val (.int p1), .val (.int p2), .val (.int p3), .val (.int p4), .val (.int p5), .val (.int (2 : Int32)), .val (.ref b163), .val (.int p1), .val (.int p2), .unset]) rfl ?_
      show Steps p.tables e below (T214.setTop (mkF m 50 #[.val (.int p1), .val (.int p2), .val (.int p3), .val (.int p4), .val (.int p5), .val (.int (2 : Int32)), .val (.ref b163), .val (.int p1), .val (.int p2), .unset] [])) _
      refine XS.iloadN X214.here hx rfl (hb hby at_50) rfl ?_
      show Steps p.tables e below (T214.setTop (mkF m 51 #[.val (.int p1), .val (.int p2), .val (.int p3), .val (.int p4), .val (.int p5), .val (.int (2 : Int32)), .val (.ref b163), .val (.int p1), .val (.int p2), .unset] [(.int p3)])) _
      refine XS.istore X214.here hx rfl (hb hby at_51) rfl (l' := #[.val (.int p1), .val (.int p2), .val (.int p3), .val (.int p4), .val (.int p5), .val (.int (2 : Int32)), .val (.ref b163), .val (.int p1), .val (.int p2), .val (.int p3)]) rfl ?_
      show Steps p.tables e below (T214.setTop (mkF m 53 #[.val (.int p1), .val (.int p2), .val (.int p3), .val (.int p4), .val (.int p5), .val (.int (2 : Int32)), .val (.ref b163), .val (.int p1), .val (.int p2), .val (.int p3)] [])) _
      refine XS.iload X214.here hx rfl (hb hby at_53) rfl ?_
      show Steps p.tables e below (T214.setTop (mkF m 55 #[.val (.int p1), .val (.int p2), .val (.int p3), .val (.int p4), .val (.int p5), .val (.int (2 : Int32)), .val (.ref b163), .val (.int p1), .val (.int p2), .val (.int p3)] [(.int (2 : Int32))])) _
      refine XS.ifYes X214.here hx rfl (pc0 := 55) (pc' := 65) rfl (hb hby at_55) rfl ((if0 _ _).trans (feq (by decide +kernel : ¬ ((2 : Int32) = (0 : Int32)))).2) (by decide) (by decide) ?_
      show Steps p.tables e below (T214.setTop (mkF m 65 #[.val (.int p1), .val (.int p2), .val (.int p3), .val (.int p4), .val (.int p5), .val (.int (2 : Int32)), .val (.ref b163), .val (.int p1), .val (.int p2), .val (.int p3)] [])) _
      refine XS.iload X214.here hx rfl (hb hby at_65) rfl ?_
      show Steps p.tables e below (T214.setTop (mkF m 67 #[.val (.int p1), .val (.int p2), .val (.int p3), .val (.int p4), .val (.int p5), .val (.int (2 : Int32)), .val (.ref b163), .val (.int p1), .val (.int p2), .val (.int p3)] [(.int (2 : Int32))])) _
      refine XS.iconst X214.here hx rfl (hb hby at_67) ?_
      show Steps p.tables e below (T214.setTop (mkF m 68 #[.val (.int p1), .val (.int p2), .val (.int p3), .val (.int p4), .val (.int p5), .val (.int (2 : Int32)), .val (.ref b163), .val (.int p1), .val (.int p2), .val (.int p3)] [(.int (1 : Int32)), (.int (2 : Int32))])) _
      refine XS.icmpYes X214.here hx rfl (pc0 := 68) (pc' := 78) rfl (hb hby at_68) rfl (feq (by decide +kernel : ¬ ((2 : Int32) = (1 : Int32)))).2 (by decide) (by decide) ?_
      show Steps p.tables e below (T214.setTop (mkF m 78 #[.val (.int p1), .val (.int p2), .val (.int p3), .val (.int p4), .val (.int p5), .val (.int (2 : Int32)), .val (.ref b163), .val (.int p1), .val (.int p2), .val (.int p3)] [])) _
      refine XS.iload X214.here hx rfl (hb hby at_78) rfl ?_
      show Steps p.tables e below (T214.setTop (mkF m 80 #[.val (.int p1), .val (.int p2), .val (.int p3), .val (.int p4), .val (.int p5), .val (.int (2 : Int32)), .val (.ref b163), .val (.int p1), .val (.int p2), .val (.int p3)] [(.int p5)])) _
      refine XS.istore X214.here hx rfl (hb hby at_80) rfl (l' := #[.val (.int p1), .val (.int p2), .val (.int p3), .val (.int p4), .val (.int p5), .val (.int (2 : Int32)), .val (.ref b163), .val (.int p1), .val (.int p2), .val (.int p5)]) rfl ?_
      show Steps p.tables e below (T214.setTop (mkF m 82 #[.val (.int p1), .val (.int p2), .val (.int p3), .val (.int p4), .val (.int p5), .val (.int (2 : Int32)), .val (.ref b163), .val (.int p1), .val (.int p2), .val (.int p5)] [])) _
      refine XS.aload X214.here hx rfl (hb hby at_82) rfl rfl ?_
      show Steps p.tables e below (T214.setTop (mkF m 84 #[.val (.int p1), .val (.int p2), .val (.int p3), .val (.int p4), .val (.int p5), .val (.int (2 : Int32)), .val (.ref b163), .val (.int p1), .val (.int p2), .val (.int p5)] [(.ref b163)])) _
      refine st221.trans ?_
      show Steps p.tables e below (T221.setTop (mkF m 87 #[.val (.int p1), .val (.int p2), .val (.int p3), .val (.int p4), .val (.int p5), .val (.int (2 : Int32)), .val (.ref b163), .val (.int p1), .val (.int p2), .val (.int p5)] [(.int (3 : Int32))])) _
      refine XS.iconst X221.here hx rfl (hb hby at_87) ?_
      show Steps p.tables e below (T221.setTop (mkF m 88 #[.val (.int p1), .val (.int p2), .val (.int p3), .val (.int p4), .val (.int p5), .val (.int (2 : Int32)), .val (.ref b163), .val (.int p1), .val (.int p2), .val (.int p5)] [(.int (3 : Int32)), (.int (3 : Int32))])) _
      refine XS.icmpNo X221.here hx rfl (hb hby at_88) rfl (teq (by decide +kernel : (3 : Int32) = (3 : Int32))).2 ?_
      show Steps p.tables e below (T221.setTop (mkF m 91 #[.val (.int p1), .val (.int p2), .val (.int p3), .val (.int p4), .val (.int p5), .val (.int (2 : Int32)), .val (.ref b163), .val (.int p1), .val (.int p2), .val (.int p5)] [])) _
      refine XS.aload X221.here hx rfl (hb hby at_91) rfl rfl ?_
      show Steps p.tables e below (T221.setTop (mkF m 93 #[.val (.int p1), .val (.int p2), .val (.int p3), .val (.int p4), .val (.int p5), .val (.int (2 : Int32)), .val (.ref b163), .val (.int p1), .val (.int p2), .val (.int p5)] [(.ref b163)])) _
      refine XS.iconst X221.here hx rfl (hb hby at_93) ?_
      show Steps p.tables e below (T221.setTop (mkF m 94 #[.val (.int p1), .val (.int p2), .val (.int p3), .val (.int p4), .val (.int p5), .val (.int (2 : Int32)), .val (.ref b163), .val (.int p1), .val (.int p2), .val (.int p5)] [(.int (0 : Int32)), (.ref b163)])) _
      refine st228.trans ?_
      show Steps p.tables e below (T228.setTop (mkF m 97 #[.val (.int p1), .val (.int p2), .val (.int p3), .val (.int p4), .val (.int p5), .val (.int (2 : Int32)), .val (.ref b163), .val (.int p1), .val (.int p2), .val (.int p5)] [(.int p1)])) _
      refine XS.iload X228.here hx rfl (hb hby at_97) rfl ?_
      show Steps p.tables e below (T228.setTop (mkF m 99 #[.val (.int p1), .val (.int p2), .val (.int p3), .val (.int p4), .val (.int p5), .val (.int (2 : Int32)), .val (.ref b163), .val (.int p1), .val (.int p2), .val (.int p5)] [(.int p1), (.int p1)])) _
      refine XS.icmpNo X228.here hx rfl (hb hby at_99) rfl (teq (rfl : p1 = p1)).2 ?_
      show Steps p.tables e below (T228.setTop (mkF m 102 #[.val (.int p1), .val (.int p2), .val (.int p3), .val (.int p4), .val (.int p5), .val (.int (2 : Int32)), .val (.ref b163), .val (.int p1), .val (.int p2), .val (.int p5)] [])) _
      refine XS.aload X228.here hx rfl (hb hby at_102) rfl rfl ?_
      show Steps p.tables e below (T228.setTop (mkF m 104 #[.val (.int p1), .val (.int p2), .val (.int p3), .val (.int p4), .val (.int p5), .val (.int (2 : Int32)), .val (.ref b163), .val (.int p1), .val (.int p2), .val (.int p5)] [(.ref b163)])) _
      refine XS.iconst X228.here hx rfl (hb hby at_104) ?_
      show Steps p.tables e below (T228.setTop (mkF m 105 #[.val (.int p1), .val (.int p2), .val (.int p3), .val (.int p4), .val (.int p5), .val (.int (2 : Int32)), .val (.ref b163), .val (.int p1), .val (.int p2), .val (.int p5)] [(.int (1 : Int32)), (.ref b163)])) _
      refine st232.trans ?_
      show Steps p.tables e below (T232.setTop (mkF m 108 #[.val (.int p1), .val (.int p2), .val (.int p3), .val (.int p4), .val (.int p5), .val (.int (2 : Int32)), .val (.ref b163), .val (.int p1), .val (.int p2), .val (.int p5)] [(.int p2)])) _
      refine XS.iload X232.here hx rfl (hb hby at_108) rfl ?_
      show Steps p.tables e below (T232.setTop (mkF m 110 #[.val (.int p1), .val (.int p2), .val (.int p3), .val (.int p4), .val (.int p5), .val (.int (2 : Int32)), .val (.ref b163), .val (.int p1), .val (.int p2), .val (.int p5)] [(.int p2), (.int p2)])) _
      refine XS.icmpNo X232.here hx rfl (hb hby at_110) rfl (teq (rfl : p2 = p2)).2 ?_
      show Steps p.tables e below (T232.setTop (mkF m 113 #[.val (.int p1), .val (.int p2), .val (.int p3), .val (.int p4), .val (.int p5), .val (.int (2 : Int32)), .val (.ref b163), .val (.int p1), .val (.int p2), .val (.int p5)] [])) _
      refine XS.aload X232.here hx rfl (hb hby at_113) rfl rfl ?_
      show Steps p.tables e below (T232.setTop (mkF m 115 #[.val (.int p1), .val (.int p2), .val (.int p3), .val (.int p4), .val (.int p5), .val (.int (2 : Int32)), .val (.ref b163), .val (.int p1), .val (.int p2), .val (.int p5)] [(.ref b163)])) _
      refine XS.iconst X232.here hx rfl (hb hby at_115) ?_
      show Steps p.tables e below (T232.setTop (mkF m 116 #[.val (.int p1), .val (.int p2), .val (.int p3), .val (.int p4), .val (.int p5), .val (.int (2 : Int32)), .val (.ref b163), .val (.int p1), .val (.int p2), .val (.int p5)] [(.int (2 : Int32)), (.ref b163)])) _
      refine st236.trans ?_
      show Steps p.tables e below (T236.setTop (mkF m 119 #[.val (.int p1), .val (.int p2), .val (.int p3), .val (.int p4), .val (.int p5), .val (.int (2 : Int32)), .val (.ref b163), .val (.int p1), .val (.int p2), .val (.int p5)] [(.int p5)])) _
      refine XS.iload X236.here hx rfl (hb hby at_119) rfl ?_
      show Steps p.tables e below (T236.setTop (mkF m 121 #[.val (.int p1), .val (.int p2), .val (.int p3), .val (.int p4), .val (.int p5), .val (.int (2 : Int32)), .val (.ref b163), .val (.int p1), .val (.int p2), .val (.int p5)] [(.int p5), (.int p5)])) _
      refine XS.icmpNo X236.here hx rfl (hb hby at_121) rfl (teq (rfl : p5 = p5)).2 ?_
      show Steps p.tables e below (T236.setTop (mkF m 124 #[.val (.int p1), .val (.int p2), .val (.int p3), .val (.int p4), .val (.int p5), .val (.int (2 : Int32)), .val (.ref b163), .val (.int p1), .val (.int p2), .val (.int p5)] [])) _
      refine XS.iconst X236.here hx rfl (hb hby at_124) ?_
      show Steps p.tables e below (T236.setTop (mkF m 125 #[.val (.int p1), .val (.int p2), .val (.int p3), .val (.int p4), .val (.int p5), .val (.int (2 : Int32)), .val (.ref b163), .val (.int p1), .val (.int p2), .val (.int p5)] [(.int (1 : Int32))])) _
      refine XS.goto X236.here hx rfl (pc0 := 125) (pc' := 129) rfl (hb hby at_125) (by decide) (by decide) ?_
      show Steps p.tables e below (T236.setTop (mkF m 129 #[.val (.int p1), .val (.int p2), .val (.int p3), .val (.int p4), .val (.int p5), .val (.int (2 : Int32)), .val (.ref b163), .val (.int p1), .val (.int p2), .val (.int p5)] [(.int (1 : Int32))])) _
      exact retN X236 hx (t := .boolean) Bd.returns (by simp) (hb hby at_129) hr
    · show Q0 Z _ _ _ _ _ h0 n0 _ T236.heap _
      rw [u239]
      exact ⟨rfl, N236⟩
set_option maxRecDepth 65536 in
set_option maxHeartbeats 40000000 in
theorem comes_1 {Post : Tables → Env → Array Value → State → Outcome → State → Prop} (hpost : ∀ tb e args s v u, (limb_1_1.after args s (.returned v) u = true ∧ limb_1_2.after args s (.returned v) u = true ∧ True) → FrameEnd s (.returned v) u (Jvm.fieldLocs frame_1_writes args s ++ Jvm.arrayLocs frame_1_arrays args s ++ Jvm.staticLocs frame_1_statics s) 16 8320 → Post tb e args s (.returned v) u) :
    ArmFor flags0 classFile x code maxLocals ret World_1 tables_1 room_1 Calls_1 rest_1 Pre_1 Post := by
  intro l hfl _ _ p e ha hc hk s m args below hf hA hF happ hP
  obtain ⟨hcalls, hrest, hpre⟩ := hP
  obtain ⟨-, -, -, hnamed, -, -, -, hat⟩ := (Spec.applies_iff hf).mp happ
  obtain ⟨hg, hn⟩ := and_e (Cond.before_iff.mp (show (Jvm.Cond.and given_1 narrow_1).before args s = true from hpre))
  obtain ⟨h1, hr0⟩ := and_e hg
  obtain ⟨ha0, hr1⟩ := and_e hr0
  obtain ⟨ha1, hr2⟩ := and_e hr1
  obtain ⟨ha2, hr3⟩ := and_e hr2
  obtain ⟨ha3, hr4⟩ := and_e hr3
  obtain ⟨w0, w1, w2, w3, w4, rfl⟩ : ∃ w0 w1 w2 w3 w4 : Value, args = #[w0, w1, w2, w3, w4] := by
    have hs : args.size = 5 := by simpa [Cond.value, given_1] using h1
    obtain ⟨L⟩ := args
    match L, hs with
    | [w0, w1, w2, w3, w4], _ => exact ⟨w0, w1, w2, w3, w4, rfl⟩
  have hwt := fun d (hd : d ∈ tables_1) => atoms_spec (ws := Jvm.Cond.code x code maxLocals ret :: tables_1) hat d (List.mem_cons_of_mem _ hd)
  have hw : ∀ d ∈ own_ws, d.before _ s = true := hwt
  have hfit : Fit s := fun {y c} hc i hi => by
    obtain ⟨ha, rfl⟩ := Array.getElem?_eq_some_iff.mp hc
    have q := List.all_eq_true.mp ((Array.all_eq_true_iff_forall_mem.mp hF) _ (Array.getElem_mem ha)) i (List.mem_range.mpr hi)
    simpa [Array.getElem?_eq_getElem hi] using q
  obtain ⟨i0, ei0⟩ := is_v ha0
  obtain rfl : w0 = (.int i0) := Option.some.inj ei0
  obtain ⟨i1, ei1⟩ := is_v ha1
  obtain rfl : w1 = (.int i1) := Option.some.inj ei1
  obtain ⟨i2, ei2⟩ := is_v ha2
  obtain rfl : w2 = (.int i2) := Option.some.inj ei2
  obtain ⟨i3, ei3⟩ := is_v ha3
  obtain rfl : w3 = (.int i3) := Option.some.inj ei3
  obtain ⟨i4, ei4⟩ := is_v hr4
  obtain rfl : w4 = (.int i4) := Option.some.inj ei4
  obtain ⟨n, o, h1, h2, h3, _, L, rfl, ⟨rfl, N⟩, hq⟩ := rm0 l s _ hw tables_1 i0 i1 i2 i3 i4 s.heap s.heap.size (Old.start s) p e ha hc hk s m _ below hf ((Spec.applies_iff_loose hf).mp happ).1 ⟨rfl, State.Warmed39.refl s, rfl⟩ trivial
  refine ⟨n, _, h1, h2, h3, hpost _ _ _ _ _ _ ⟨Cond.after_iff.mpr rfl, Cond.after_iff.mpr (eq_i res_at (Term.int_eval (1)) rfl), trivial⟩ ⟨hq.1, hq.2.1, (hq.2.2.sift fun y hy => Or.inr (N y hy)).mono (by decide) (by decide)⟩⟩
theorem main_1_1 : Claimed_1_1 := comes_1 fun _ _ _ _ _ _ h hF => ⟨h.1, hF⟩
theorem main_1_2 : Claimed_1_2 := comes_1 fun _ _ _ _ _ _ h hF => ⟨h.2.1, hF⟩
end Jvm.Pilot.@@N@@
namespace Jvm.Pilot.@@N@@
open Jvm Jvm.ClassFile Sem Op Lib Jvm.Free Jvm.Stand Jvm.Pilot.@@N@@.Jvm.D
/-! MADE BY PROGRAM (witnessworld.py) out of the Statement's table words and the real class files: 9 classes; the members and pool entries that the words name. The judged class is class 1, her method 1. -/
namespace start1
open Jvm.ClassFile
def u (s : String) : CpInfo := .utf8 (stringToUtf16 s)
/-- a pool by its gaps: so many unusable entries, then the entry; so many at the end -/
def gap : Nat → List CpInfo → List CpInfo
  | 0, r => r
  | n + 1, r => .unusable :: gap n r
def poolList (es : List (Nat × CpInfo)) (last : Nat) : List CpInfo := es.foldr (fun e r => gap e.1 (e.2 :: r)) (gap last [])
def pool (es : List (Nat × CpInfo)) (last : Nat) : Array CpInfo := ⟨poolList es last⟩
def fileOf (pool : Array CpInfo) (this : Nat) (attrs : Array Attribute := #[]) (ms : Array MethodInfo := #[]) (fl : Nat := 33) (sup : Nat := 0) (ifs : Array Nat := #[]) (fds : Array FieldInfo := #[]) : ClassFile where
  minorVersion := 0
  majorVersion := 65
  constantPool := pool
  accessFlags := fl
  thisClass := this
  superClass := sup
  interfaces := ifs
  fields := fds
  methods := ms
  attributes := attrs
def plain (name : String) (sup : Option ClassId) : Class where
  name := name
  kind := .ordinary
  loader := none
  accessFlags := 33
  super := sup
  interfaces := #[]
  cf := none
  fields := #[]
  methods := #[]
  instanceTypes := #[]
  staticTypes := #[]
  resolved := #[]
  callSites := []
  init := .initialized
  statics := none
  mirror := none

def pool0 : Array CpInfo := pool [(5, u "<init>"), (0, u "()V"), (1, .class_ 10), (1, u "java/lang/Object")] 113

def k0c0 : Code := { maxStack := 0, maxLocals := 1, code := object_method_1_code, exceptionTable := #[], attributes := #[] }
def k0m0 : Method := { name := "<init>", desc := "()V", sig := { parameters := [], returnType := none }, accessFlags := 1, code := some k0c0 }
/-- java/lang/Object -/
def k0 : Class := { plain "java/lang/Object" none with
  accessFlags := 33
  interfaces := #[]
  cf := some (fileOf pool0 8 #[] #[{ accessFlags := 1, nameIndex := 5, descriptorIndex := 6, attributes := #[] }] 33 0 #[] #[])
  fields := #[]
  methods := #[k0m0]
  instanceTypes := #[]
  staticTypes := #[]
  resolved := Array.replicate 124 none
  statics := none }

def pool1 : Array CpInfo := pool [(2, .class_ 4), (0, .nameAndType 5 6), (0, u "java/lang/Object"), (0, u "<init>"), (0, u "()V"), (0, .integer 2147483647), (0, .class_ 9), (0, u "com/example/vestry/vestry/Ints"), (0, .methodref 8 3), (0, .methodref 8 12), (0, .nameAndType 13 14), (0, u "add"), (0, u "(I)V"), (0, .methodref 8 16), (0, .nameAndType 17 18), (0, u "set"), (0, u "(II)V"), (0, .methodref 8 20), (0, .nameAndType 21 22), (0, u "size"), (0, u "()I"), (0, .methodref 8 24), (0, .nameAndType 25 26), (0, u "get"), (0, u "(I)I"), (0, .class_ 28), (0, u "com/example/vestry/vestry/IntsSetPinLaw"), (2, u "law"), (0, u "(IIIII)Z")] 3

def k1m0 : Method := { name := "<init>", desc := "()V", sig := { parameters := [], returnType := none }, accessFlags := 1, code := none }
def k1c1 : Code := { maxStack := 3, maxLocals := 10, code := code, exceptionTable := #[], attributes := #[] }
def k1m1 : Method := { name := "law", desc := "(IIIII)Z", sig := { parameters := [.int, .int, .int, .int, .int], returnType := some .boolean }, accessFlags := 9, code := some k1c1 }
/-- com/example/vestry/vestry/IntsSetPinLaw -/
def k1 : Class := { plain "com/example/vestry/vestry/IntsSetPinLaw" (some 0) with
  accessFlags := 49
  interfaces := #[]
  cf := some (fileOf pool1 27 #[] #[{ accessFlags := 1, nameIndex := 5, descriptorIndex := 6, attributes := #[] }, { accessFlags := 9, nameIndex := 31, descriptorIndex := 32, attributes := #[] }] 49 2 #[] #[])
  fields := #[]
  methods := #[k1m0, k1m1]
  instanceTypes := #[]
  staticTypes := #[]
  resolved := Array.replicate 36 none
  statics := none }

def pool2 : Array CpInfo := pool [(1, .class_ 2), (0, u "com/example/vestry/vestry/Ints"), (0, .methodref 4 5), (0, .class_ 6), (0, .nameAndType 7 8), (0, u "java/lang/Object"), (0, u "<init>"), (0, u "()V"), (0, .class_ 10), (0, u "[I"), (0, .fieldref 1 12), (0, .nameAndType 13 14), (0, u "blocks"), (0, u "[[I"), (0, .fieldref 1 16), (0, .nameAndType 17 18), (0, u "size"), (0, u "I"), (7, u "BLOCK_BITS"), (2, u "BLOCK_SIZE"), (1, u "IN_BLOCK"), (3, u "()I"), (0, u "add"), (0, u "(I)V"), (1, u "get"), (0, u "(I)I"), (0, u "set"), (0, u "(II)V")] 2

def k2c0 : Code := { maxStack := 2, maxLocals := 1, code := prog_60_method_1_code, exceptionTable := #[], attributes := #[] }
def k2m0 : Method := { name := "<init>", desc := "()V", sig := { parameters := [], returnType := none }, accessFlags := 0, code := some k2c0 }
def k2c1 : Code := { maxStack := 1, maxLocals := 1, code := prog_60_method_2_code, exceptionTable := #[], attributes := #[] }
def k2m1 : Method := { name := "size", desc := "()I", sig := { parameters := [], returnType := some .int }, accessFlags := 0, code := some k2c1 }
def k2c2 : Code := { maxStack := 4, maxLocals := 3, code := prog_60_method_3_code, exceptionTable := #[], attributes := #[] }
def k2m2 : Method := { name := "add", desc := "(I)V", sig := { parameters := [.int], returnType := none }, accessFlags := 0, code := some k2c2 }
def k2c3 : Code := { maxStack := 3, maxLocals := 2, code := prog_60_method_4_code, exceptionTable := #[], attributes := #[] }
def k2m3 : Method := { name := "get", desc := "(I)I", sig := { parameters := [.int], returnType := some .int }, accessFlags := 0, code := some k2c3 }
def k2c4 : Code := { maxStack := 3, maxLocals := 3, code := prog_60_method_5_code, exceptionTable := #[], attributes := #[] }
def k2m4 : Method := { name := "set", desc := "(II)V", sig := { parameters := [.int, .int], returnType := none }, accessFlags := 0, code := some k2c4 }
/-- com/example/vestry/vestry/Ints -/
def k2 : Class := { plain "com/example/vestry/vestry/Ints" (some 0) with
  accessFlags := 48
  interfaces := #[]
  cf := some (fileOf pool2 1 #[] #[{ accessFlags := 0, nameIndex := 7, descriptorIndex := 8, attributes := #[] }, { accessFlags := 0, nameIndex := 17, descriptorIndex := 35, attributes := #[] }, { accessFlags := 0, nameIndex := 36, descriptorIndex := 37, attributes := #[] }, { accessFlags := 0, nameIndex := 39, descriptorIndex := 40, attributes := #[] }, { accessFlags := 0, nameIndex := 41, descriptorIndex := 42, attributes := #[] }] 48 4 #[] #[{ accessFlags := 24, nameIndex := 26, descriptorIndex := 18, attributes := #[] }, { accessFlags := 24, nameIndex := 29, descriptorIndex := 18, attributes := #[] }, { accessFlags := 26, nameIndex := 31, descriptorIndex := 18, attributes := #[] }, { accessFlags := 2, nameIndex := 13, descriptorIndex := 14, attributes := #[] }, { accessFlags := 2, nameIndex := 17, descriptorIndex := 18, attributes := #[] }])
  fields := #[{ name := "BLOCK_BITS", type := .int, accessFlags := 24, slot := 0, constantValue := 0 }, { name := "BLOCK_SIZE", type := .int, accessFlags := 24, slot := 1, constantValue := 0 }, { name := "IN_BLOCK", type := .int, accessFlags := 26, slot := 2, constantValue := 0 }, { name := "blocks", type := (.array (.array .int)), accessFlags := 2, slot := 0, constantValue := 0 }, { name := "size", type := .int, accessFlags := 2, slot := 1, constantValue := 0 }]
  methods := #[k2m0, k2m1, k2m2, k2m3, k2m4]
  instanceTypes := #[(.array (.array .int)), .int]
  staticTypes := #[.int, .int, .int]
  resolved := Array.replicate 45 none
  statics := none }

def pool3 : Array CpInfo := pool [(1, u "java/lang/Cloneable"), (0, .class_ 1), (0, u "java/lang/Object"), (0, .class_ 3)] 3

/-- java/lang/Cloneable -/
def k3 : Class := { plain "java/lang/Cloneable" (some 0) with
  accessFlags := 1537
  interfaces := #[]
  cf := some (fileOf pool3 2 #[] #[] 1537 4 #[] #[])
  fields := #[]
  methods := #[]
  instanceTypes := #[]
  staticTypes := #[]
  resolved := Array.replicate 8 none
  statics := none }

def pool4 : Array CpInfo := pool [(1, u "java/io/Serializable"), (0, .class_ 1), (0, u "java/lang/Object"), (0, .class_ 3)] 3

/-- java/io/Serializable -/
def k4 : Class := { plain "java/io/Serializable" (some 0) with
  accessFlags := 1537
  interfaces := #[]
  cf := some (fileOf pool4 2 #[] #[] 1537 4 #[] #[])
  fields := #[]
  methods := #[]
  instanceTypes := #[]
  staticTypes := #[]
  resolved := Array.replicate 8 none
  statics := none }

/-- the primitive byte -/
def k5 : Class := { plain "byte" none with kind := .primitive 'B', accessFlags := 0x411 }
/-- [B -/
def k6 : Class := { plain "[B" (some 0) with kind := .array 5 .byte, interfaces := #[3, 4], accessFlags := 1041 }

/-- the primitive int -/
def k7 : Class := { plain "int" none with kind := .primitive 'I', accessFlags := 0x411 }
/-- [I -/
def k8 : Class := { plain "[I" (some 0) with kind := .array 7 .int, interfaces := #[3, 4], accessFlags := 1041 }
/-- arrays of these -/
def kII : Class := { plain "[[I" (some 0) with kind := .array 8 (.array .int), interfaces := #[3, 4], accessFlags := 1041 }

def heap : Heap := #[]
def classes : Array Class := #[k0, k1, k2, k3, k4, k5, k6, k7, k8, kII]
def interned : List (Array UInt16 × Addr) := []
def slotsUsed : Nat := 0
def theMethod : MethodId := ⟨1, 1⟩
def args0 : Array Value := #[.int 1, .int 2, .int 3, .int 4, .int 5]
def aboutOver (below : List Frame) : State where
  vm := { classes := classes, interned := interned.toArray }
  heap := heap
  slotsUsed := slotsUsed
  threads := #[{ frames := .invoking theMethod args0 :: below }]
def below0 : List Frame := [.native { method := ⟨0, 0⟩, args := #[] }]
def about1 : State := aboutOver below0
def p0 : Program := .bare "" "" ""
def e0 : Env := launch0.env 0 0 0
theorem w_frames : about1.frames = Frame.invoking theMethod args0 :: below0 := rfl
set_option maxRecDepth 65536 in
theorem w_args : argsFit about1.vm theMethod args0 = true := by decide +kernel
set_option maxRecDepth 65536 in
theorem w_heap : heapFits about1 = true := by decide +kernel
set_option maxRecDepth 65536 in
theorem w_runnable : about1.curStatus? = some .runnable := by decide +kernel
set_option maxRecDepth 65536 in
theorem w_alone : about1.alone = true := by decide +kernel
set_option maxRecDepth 65536 in
theorem w_named : about1.methodNamed? x = some theMethod := by decide +kernel
set_option maxRecDepth 65536 in
theorem w_hears : about1.hears theMethod below0 = true := by decide +kernel
set_option maxRecDepth 65536 in
theorem w_ripe : about1.ripe theMethod args0 below0 = true := by decide +kernel
theorem w_running : about1.status = .running := rfl
set_option maxRecDepth 65536 in
theorem w_room : about1.hasRoom e0.platform room_1 = true :=
  launch0.hasRoom_least _ room_1 (by decide +kernel) (by decide +kernel) (by decide +kernel) (by decide +kernel) (by decide +kernel) (by decide +kernel)
theorem allAtoms_all (ts : List Jvm.Cond) (a : Array Jvm.Value) (st : Jvm.State) : (allAtoms ts).before a st = ts.all (fun c => c.before a st) := by
  induction ts with
  | nil => rfl
  | cons c t ih =>
    show (Jvm.Cond.and c (allAtoms t)).before a st = _
    rw [Jvm.Cond.before_and, ih, List.all_cons]
def words1 : List Jvm.Cond := Jvm.Cond.code x code maxLocals ret :: tables_1
/-- a 'code' word, met by the world's own term for the bytes: nothing is compared byte by byte -/
theorem code_word {y : MethodName} {bytes : ByteArray} {mx : Nat} {rt : Option FieldType} {a : Array Value} {s : State} {m : MethodId} {meth : Method} {c : Code} (h1 : s.methodNamed? y = some m) (h2 : s.vm.method? m = some meth) (h3 : meth.code = some c) (h4 : c.code = bytes)
    (h5 : (c.maxLocals == mx && c.exceptionTable.isEmpty && decide (c.maxStack ≤ mostOperands) && decide (meth.sig.returnType = rt) && !meth.locks && decide (parseMethodDescriptor y.desc = some meth.sig)) = true) : (Jvm.Cond.code y bytes mx rt).before a s = true := by
  simp only [Bool.and_eq_true, beq_iff_eq, Bool.not_eq_true', decide_eq_true_eq] at h5
  obtain ⟨⟨⟨⟨⟨g1, g2⟩, g3⟩, g4⟩, g5⟩, g6⟩ := h5
  simp [Cond.before, Cond.holds, Cond.value, h1, h2, h3, h4, g1, g2, g3, g4, g5, g6]
def isCode : Jvm.Cond → Bool
  | .code _ _ _ _ => true
  | _ => false
theorem all_split {L : List Jvm.Cond} {P : Jvm.Cond → Bool} (h1 : L.all (fun c => isCode c || P c) = true) (h2 : ∀ c ∈ L.filter isCode, P c = true) : L.all P = true := by
  refine List.all_eq_true.mpr fun c hc => ?_
  have h := List.all_eq_true.mp h1 c hc
  rcases Bool.eq_false_or_eq_true (isCode c) with hi | hi
  · exact h2 c (List.mem_filter.mpr ⟨hc, hi⟩)
  · simpa [hi] using h
set_option maxRecDepth 65536 in
theorem w_c0 : (Jvm.Cond.code x code maxLocals ret).before args0 about1 = true := code_word (m := ⟨1, 1⟩) (meth := k1m1) (c := k1c1) (by decide +kernel) rfl rfl rfl (by decide +kernel)
set_option maxRecDepth 65536 in
theorem w_c1 : (Jvm.Cond.code ({ cls := "com/example/vestry/vestry/Ints", name := "<init>", desc := "()V" } : Jvm.MethodName) prog_60_method_1_code (1 : Nat) (Option.none : Option Jvm.ClassFile.FieldType)).before args0 about1 = true := code_word (m := ⟨2, 0⟩) (meth := k2m0) (c := k2c0) (by decide +kernel) rfl rfl rfl (by decide +kernel)
set_option maxRecDepth 65536 in
theorem w_c2 : (Jvm.Cond.code ({ cls := "java/lang/Object", name := "<init>", desc := "()V" } : Jvm.MethodName) object_method_1_code (1 : Nat) (Option.none : Option Jvm.ClassFile.FieldType)).before args0 about1 = true := code_word (m := ⟨0, 0⟩) (meth := k0m0) (c := k0c0) (by decide +kernel) rfl rfl rfl (by decide +kernel)
set_option maxRecDepth 65536 in
theorem w_c3 : (Jvm.Cond.code ({ cls := "com/example/vestry/vestry/Ints", name := "add", desc := "(I)V" } : Jvm.MethodName) prog_60_method_3_code (3 : Nat) (Option.none : Option Jvm.ClassFile.FieldType)).before args0 about1 = true := code_word (m := ⟨2, 2⟩) (meth := k2m2) (c := k2c2) (by decide +kernel) rfl rfl rfl (by decide +kernel)
set_option maxRecDepth 65536 in
theorem w_c4 : (Jvm.Cond.code ({ cls := "com/example/vestry/vestry/Ints", name := "set", desc := "(II)V" } : Jvm.MethodName) prog_60_method_5_code (3 : Nat) (Option.none : Option Jvm.ClassFile.FieldType)).before args0 about1 = true := code_word (m := ⟨2, 4⟩) (meth := k2m4) (c := k2c4) (by decide +kernel) rfl rfl rfl (by decide +kernel)
set_option maxRecDepth 65536 in
theorem w_c5 : (Jvm.Cond.code ({ cls := "com/example/vestry/vestry/Ints", name := "size", desc := "()I" } : Jvm.MethodName) prog_60_method_2_code (1 : Nat) (Option.some Jvm.ClassFile.FieldType.int)).before args0 about1 = true := code_word (m := ⟨2, 1⟩) (meth := k2m1) (c := k2c1) (by decide +kernel) rfl rfl rfl (by decide +kernel)
set_option maxRecDepth 65536 in
theorem w_c6 : (Jvm.Cond.code ({ cls := "com/example/vestry/vestry/Ints", name := "get", desc := "(I)I" } : Jvm.MethodName) prog_60_method_4_code (2 : Nat) (Option.some Jvm.ClassFile.FieldType.int)).before args0 about1 = true := code_word (m := ⟨2, 3⟩) (meth := k2m3) (c := k2c3) (by decide +kernel) rfl rfl rfl (by decide +kernel)
def codes1 : List Jvm.Cond := [Jvm.Cond.code x code maxLocals ret, Jvm.Cond.code ({ cls := "com/example/vestry/vestry/Ints", name := "<init>", desc := "()V" } : Jvm.MethodName) prog_60_method_1_code (1 : Nat) (Option.none : Option Jvm.ClassFile.FieldType), Jvm.Cond.code ({ cls := "java/lang/Object", name := "<init>", desc := "()V" } : Jvm.MethodName) object_method_1_code (1 : Nat) (Option.none : Option Jvm.ClassFile.FieldType), Jvm.Cond.code ({ cls := "com/example/vestry/vestry/Ints", name := "add", desc := "(I)V" } : Jvm.MethodName) prog_60_method_3_code (3 : Nat) (Option.none : Option Jvm.ClassFile.FieldType), Jvm.Cond.code ({ cls := "com/example/vestry/vestry/Ints", name := "set", desc := "(II)V" } : Jvm.MethodName) prog_60_method_5_code (3 : Nat) (Option.none : Option Jvm.ClassFile.FieldType), Jvm.Cond.code ({ cls := "com/example/vestry/vestry/Ints", name := "size", desc := "()I" } : Jvm.MethodName) prog_60_method_2_code (1 : Nat) (Option.some Jvm.ClassFile.FieldType.int), Jvm.Cond.code ({ cls := "com/example/vestry/vestry/Ints", name := "get", desc := "(I)I" } : Jvm.MethodName) prog_60_method_4_code (2 : Nat) (Option.some Jvm.ClassFile.FieldType.int)]
set_option maxRecDepth 65536 in
theorem codes_eq : words1.filter isCode = codes1 := rfl
theorem w_codes : ∀ c ∈ words1.filter isCode, c.before args0 about1 = true := by
  rw [codes_eq]
  intro c hc
  simp only [codes1, List.mem_cons, List.not_mem_nil, or_false] at hc
  rcases hc with rfl | rfl | rfl | rfl | rfl | rfl | rfl
  · exact w_c0
  · exact w_c1
  · exact w_c2
  · exact w_c3
  · exact w_c4
  · exact w_c5
  · exact w_c6
set_option maxRecDepth 65536 in
theorem w_t1 : (words1.take 24).all (fun c => isCode c || c.before args0 about1) = true := by decide +kernel
set_option maxRecDepth 65536 in
theorem w_t2 : (words1.drop 24).all (fun c => isCode c || c.before args0 about1) = true := by decide +kernel
theorem w_tables : (allAtoms (Jvm.Cond.code x code maxLocals ret :: tables_1)).before args0 about1 = true := by
  rw [allAtoms_all]
  show words1.all (fun c => c.before args0 about1) = true
  refine all_split ?_ w_codes
  rw [← List.take_append_drop 24 words1, List.all_append, w_t1, w_t2]
  rfl
set_option maxRecDepth 65536 in
theorem w_case : (Jvm.Cond.and given_1 narrow_1).before args0 about1 = true := by decide +kernel
theorem w_applies : (headSpec (Jvm.Cond.code x code maxLocals ret :: tables_1) room_1).applies x e0.platform about1 = true :=
  (Spec.applies_iff w_frames).mpr ⟨w_running, w_runnable, w_alone, w_named, w_hears, w_ripe, w_room, w_tables⟩
theorem atStart : AtStart classFile x code maxLocals ret World_1 tables_1 room_1 Calls_1 rest_1 Pre_1 launch0 p0 e0 about1 theMethod args0 below0 :=
  ⟨lists_1, trivial, launch0.admits_env _ _ _, launch0.least_env, fairChoices_fair.cas, fairChoices_fair.clock, w_frames, w_args, w_heap, w_applies, trivial, trivial, w_case⟩
end start1
theorem witness_1 : WitnessClaimed_1 := ⟨start1.p0, start1.e0, start1.about1, start1.theMethod, start1.args0, start1.below0, start1.atStart⟩
end Jvm.Pilot.@@N@@
