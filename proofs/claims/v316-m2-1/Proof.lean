import JvmDerived
import JvmDerived.Pilot.@@N@@Statement
import JvmDerived.Pilot.@@N@@Code
set_option linter.unusedVariables false
set_option linter.unusedSimpArgs false
@@BLOCK:NumsL.lean.txt@@
namespace Jvm.RoadKit
open Sem ClassFile Op Lib Jvm.Stand Jvm.Free Jvm.LawKit
section New
variable {p : Program} {l : Launch} {e : Env} {R : Room} {s : State} {m : MethodId} {args : Array Value} {below : List Frame} {meth : Method} {c : Code} {T : State} {locs : List Loc} {cells slots : Nat}
theorem retI (X : Stand p l e R s m args below meth c T locs cells slots) (hx : p.tables.exec = Jvm.exec) {pc : Nat} {Ls : Array Slot} {z : Int32} {rest : List Value} (hret : meth.sig.returnType = some .int) (hd : decode c.code pc = .ok (.ireturn, 1)) {fs : List Frame}
    (hl : ∀ (f : JFrame) (acts : List Action), f.method = m → f.locked = none → f.entered = [] → (doReturn e (T.setTop f) acts (some (.int z))).1 = T.setFrames fs) : Steps p.tables e below (T.setTop (mkF m pc Ls (.int z :: rest))) (T.setFrames fs) := by
  have hm' : T.vm.method? m = some meth := X.method'
  have hn : narrow .int (.int z) = .int z := rfl
  show Steps p.tables e below (T.setTop { method := m, pc := pc, locals := Ls, stack := _ :: rest, locked := none }) _
  jvm_step X.here [X.here.top, hx, hd, hm', hret, hn]
  first | (intro acts; rw [hl _ acts rfl rfl rfl]) | rw [hl _ _ rfl rfl rfl]
  exact Steps.refl _
end New
end Jvm.RoadKit
namespace Jvm.Pilot.@@N@@
open Jvm Jvm.ClassFile Sem Op Lib Jvm.Free Jvm.Stand Jvm.LawKit Jvm.RoadKit Bundle Jvm.Pilot.@@N@@.Jvm.D
theorem own_eqI {args : Array Value} {s : State} {a : Term} {k : Int32} (h : (Cond.eq a (.int k)).value args s none s [] = some true) : a.eval args s none [] s = some (.int k) := by
  obtain ⟨x, y, hx, hy, k1, k2⟩ := cmp_v (Or.inl h)
  obtain rfl : Value.int k = y := Option.some.inj ((Term.int_eval k).symm.trans hy)
  obtain ⟨z, rfl⟩ : ∃ z, x = .int z := k2
  have hz : z = k := gotT (Cond.eq_ints hx hy) h
  rw [hz] at hx; exact hx
theorem own_eqR {args : Array Value} {s : State} {a b : Term} {y : Addr} (hb : b.eval args s none [] s = some (.ref y)) (h : (Cond.eq a b).value args s none s [] = some true) : a.eval args s none [] s = some (.ref y) := by
  obtain ⟨x, y', hx, hy, k1, k2⟩ := cmp_v (Or.inl h)
  obtain rfl : Value.ref y = y' := Option.some.inj (hb.symm.trans hy)
  have hr : x.isRef = true := k2.2
  have hz : x = .ref y := gotT (eq_R hx hy hr rfl) h
  rw [hz] at hx; exact hx
theorem own_z {Z : State} {n0 : Nat} {h : Heap} (O : Old Z n0 h) : n0 ≤ h.size := O.1 ▸ O.2.1
theorem own_len {args : Array Value} {s : State} {t : Term} {x : Addr} {cl : Cell} {ty : FieldType} {n : Int32} (ev : t.eval args s none [] s = some (.ref x)) (A : Arr s s.heap x cl ty) (h : (Term.length t).eval args s none [] s = some (.int n)) : cl.slots.size < 2 ^ 31 ∧ cl.slots.size.toInt32 = n := by
  have ha : s.arrayAt? x = some cl := IntBox.arrayAt_of A.1 A.2.1 A.2.2
  simpa [Term.eval, ev, ha] using h
theorem own_elem {args : Array Value} {s : State} {t : Term} {x : Addr} {cl : Cell} {ty : FieldType} {j : Int32} {v : Value} {i : Nat} (ev : t.eval args s none [] s = some (.ref x)) (A : Arr s s.heap x cl ty) (h : (Term.elem t (.int j)).eval args s none [] s = some v) (hi : j.toNatClampNeg = i) : cl.slots[i]? = some v := by
  have q := (elem_in h ev (Term.int_eval j) A.1).2
  rw [hi] at q; exact q
def own_ws : List Jvm.Cond := tables_1
theorem gw (i : Nat) {d : Jvm.Cond} (h : own_ws[i]? = some d) : d ∈ own_ws := List.mem_of_getElem? h
theorem d1_0 : decode prog_19_method_5_code 0 = .ok (.aload_n 0, 1) := by decide +kernel
theorem d1_1 : decode prog_19_method_5_code 1 = .ok (.invokevirtual 48, 3) := by decide +kernel
theorem d2_0 : decode jdk_37_method_2_code 0 = .ok (.aload_n 0, 1) := by decide +kernel
theorem d2_1 : decode jdk_37_method_2_code 1 = .ok (.getfield 7, 3) := by decide +kernel
theorem d2_4 : decode jdk_37_method_2_code 4 = .ok (.ireturn, 1) := by decide +kernel
abbrev M_0 : MethodName := ⟨"java/lang/Enum", "ordinal", "()I"⟩
theorem pn_0 : plainName "java/lang/Enum" = true := by first | (simp [plainName, overriddenIn]; done) | decide +kernel
theorem pd_0 : parseMethodDescriptor "()I" = some ⟨[], some .int⟩ := by decide +kernel
abbrev M_1 : MethodName := ⟨"com/example/ringstead/ringstead/node/History$Operation", "ordinal", "()I"⟩
theorem d1_4 : decode prog_19_method_5_code 4 = .ok (.tableswitch 28 0 2 #[38, 53, 75], 28) := by decide +kernel
theorem d1_42 : decode prog_19_method_5_code 42 = .ok (.iload_n 1, 1) := by decide +kernel
theorem d1_43 : decode prog_19_method_5_code 43 = .ok (.sipush 204, 3) := by decide +kernel
theorem d1_46 : decode prog_19_method_5_code 46 = .ok (.if_icmp .ne 7, 3) := by decide +kernel
theorem d1_53 : decode prog_19_method_5_code 53 = .ok (.iconst 0, 1) := by decide +kernel
theorem d1_54 : decode prog_19_method_5_code 54 = .ok (.goto 44, 3) := by decide +kernel
theorem d1_98 : decode prog_19_method_5_code 98 = .ok (.istore_n 2, 1) := by decide +kernel
theorem d1_99 : decode prog_19_method_5_code 99 = .ok (.iload_n 2, 1) := by decide +kernel
theorem d1_100 : decode prog_19_method_5_code 100 = .ok (.ifCond .eq 10, 3) := by decide +kernel
theorem d1_110 : decode prog_19_method_5_code 110 = .ok (.iload_n 1, 1) := by decide +kernel
theorem d1_111 : decode prog_19_method_5_code 111 = .ok (.sipush 400, 3) := by decide +kernel
theorem d1_114 : decode prog_19_method_5_code 114 = .ok (.if_icmp .eq 10, 3) := by decide +kernel
theorem d1_117 : decode prog_19_method_5_code 117 = .ok (.iload_n 1, 1) := by decide +kernel
theorem d1_118 : decode prog_19_method_5_code 118 = .ok (.sipush 413, 3) := by decide +kernel
theorem d1_121 : decode prog_19_method_5_code 121 = .ok (.if_icmp .ne 10, 3) := by decide +kernel
theorem d1_131 : decode prog_19_method_5_code 131 = .ok (.getstatic 10, 3) := by decide +kernel
theorem d1_134 : decode prog_19_method_5_code 134 = .ok (.astore_n 3, 1) := by decide +kernel
theorem d1_135 : decode prog_19_method_5_code 135 = .ok (.aload_n 3, 1) := by decide +kernel
theorem d1_136 : decode prog_19_method_5_code 136 = .ok (.areturn, 1) := by decide +kernel
abbrev M_2 : MethodName := ⟨"com/example/ringstead/ringstead/node/History$Type", "of", "(Lcom/example/ringstead/ringstead/node/History$Operation;I)Lcom/example/ringstead/ringstead/node/History$Type;"⟩
theorem pn_1 : plainName "com/example/ringstead/ringstead/node/History$Type" = true := by first | (simp [plainName, overriddenIn]; done) | decide +kernel
theorem pd_1 : parseMethodDescriptor "(Lcom/example/ringstead/ringstead/node/History$Operation;I)Lcom/example/ringstead/ringstead/node/History$Type;" = some ⟨[(.object "com/example/ringstead/ringstead/node/History$Operation"), .int], some (.object "com/example/ringstead/ringstead/node/History$Type")⟩ := by decide +kernel
theorem d3_0 : decode method_2_code 0 = .ok (.iload_n 1, 1) := by decide +kernel
theorem d3_1 : decode method_2_code 1 = .ok (.sipush 204, 3) := by decide +kernel
theorem d3_4 : decode method_2_code 4 = .ok (.if_icmp .ne 18, 3) := by decide +kernel
theorem d3_22 : decode method_2_code 22 = .ok (.iload_n 1, 1) := by decide +kernel
theorem d3_23 : decode method_2_code 23 = .ok (.sipush 200, 3) := by decide +kernel
theorem d3_26 : decode method_2_code 26 = .ok (.if_icmp .ne 18, 3) := by decide +kernel
theorem d3_29 : decode method_2_code 29 = .ok (.iload_n 0, 1) := by decide +kernel
theorem d3_30 : decode method_2_code 30 = .ok (.iconst 1, 1) := by decide +kernel
theorem d3_31 : decode method_2_code 31 = .ok (.if_icmp .ne 9, 3) := by decide +kernel
theorem d3_40 : decode method_2_code 40 = .ok (.getstatic 7, 3) := by decide +kernel
theorem d3_43 : decode method_2_code 43 = .ok (.areturn, 1) := by decide +kernel
abbrev M_3 : MethodName := ⟨"com/example/ringstead/ringstead/node/TypeOfPinLaw", "expected", "(II)Lcom/example/ringstead/ringstead/node/History$Type;"⟩
theorem pn_2 : plainName "com/example/ringstead/ringstead/node/TypeOfPinLaw" = true := by first | (simp [plainName, overriddenIn]; done) | decide +kernel
theorem pd_2 : parseMethodDescriptor "(II)Lcom/example/ringstead/ringstead/node/History$Type;" = some ⟨[.int, .int], some (.object "com/example/ringstead/ringstead/node/History$Type")⟩ := by decide +kernel
theorem d1_49 : decode prog_19_method_5_code 49 = .ok (.iconst 1, 1) := by decide +kernel
theorem d1_50 : decode prog_19_method_5_code 50 = .ok (.goto 48, 3) := by decide +kernel
theorem d1_103 : decode prog_19_method_5_code 103 = .ok (.getstatic 3, 3) := by decide +kernel
theorem d1_106 : decode prog_19_method_5_code 106 = .ok (.astore_n 3, 1) := by decide +kernel
theorem d1_107 : decode prog_19_method_5_code 107 = .ok (.goto 28, 3) := by decide +kernel
theorem d3_7 : decode method_2_code 7 = .ok (.iload_n 0, 1) := by decide +kernel
theorem d3_8 : decode method_2_code 8 = .ok (.iconst 1, 1) := by decide +kernel
theorem d3_9 : decode method_2_code 9 = .ok (.if_icmp .ne 9, 3) := by decide +kernel
theorem d3_18 : decode method_2_code 18 = .ok (.getstatic 13, 3) := by decide +kernel
theorem d3_21 : decode method_2_code 21 = .ok (.areturn, 1) := by decide +kernel
theorem d3_44 : decode method_2_code 44 = .ok (.iload_n 1, 1) := by decide +kernel
theorem d3_45 : decode method_2_code 45 = .ok (.sipush 404, 3) := by decide +kernel
theorem d3_48 : decode method_2_code 48 = .ok (.if_icmp .ne 17, 3) := by decide +kernel
theorem d3_51 : decode method_2_code 51 = .ok (.iload_n 0, 1) := by decide +kernel
theorem d3_52 : decode method_2_code 52 = .ok (.ifCond .ne 9, 3) := by decide +kernel
theorem d3_55 : decode method_2_code 55 = .ok (.getstatic 7, 3) := by decide +kernel
theorem d3_58 : decode method_2_code 58 = .ok (.goto 6, 3) := by decide +kernel
theorem d3_64 : decode method_2_code 64 = .ok (.areturn, 1) := by decide +kernel
theorem d1_124 : decode prog_19_method_5_code 124 = .ok (.getstatic 7, 3) := by decide +kernel
theorem d1_127 : decode prog_19_method_5_code 127 = .ok (.astore_n 3, 1) := by decide +kernel
theorem d1_128 : decode prog_19_method_5_code 128 = .ok (.goto 7, 3) := by decide +kernel
theorem d3_65 : decode method_2_code 65 = .ok (.iload_n 1, 1) := by decide +kernel
theorem d3_66 : decode method_2_code 66 = .ok (.sipush 400, 3) := by decide +kernel
theorem d3_69 : decode method_2_code 69 = .ok (.if_icmp .eq 10, 3) := by decide +kernel
theorem d3_79 : decode method_2_code 79 = .ok (.getstatic 16, 3) := by decide +kernel
theorem d3_82 : decode method_2_code 82 = .ok (.areturn, 1) := by decide +kernel
theorem d3_72 : decode method_2_code 72 = .ok (.iload_n 1, 1) := by decide +kernel
theorem d3_73 : decode method_2_code 73 = .ok (.sipush 413, 3) := by decide +kernel
theorem d3_76 : decode method_2_code 76 = .ok (.if_icmp .ne 7, 3) := by decide +kernel
theorem d3_83 : decode method_2_code 83 = .ok (.getstatic 7, 3) := by decide +kernel
theorem d3_86 : decode method_2_code 86 = .ok (.areturn, 1) := by decide +kernel
theorem d1_57 : decode prog_19_method_5_code 57 = .ok (.iload_n 1, 1) := by decide +kernel
theorem d1_58 : decode prog_19_method_5_code 58 = .ok (.sipush 200, 3) := by decide +kernel
theorem d1_61 : decode prog_19_method_5_code 61 = .ok (.if_icmp .eq 10, 3) := by decide +kernel
theorem d1_71 : decode prog_19_method_5_code 71 = .ok (.iconst 1, 1) := by decide +kernel
theorem d1_72 : decode prog_19_method_5_code 72 = .ok (.goto 26, 3) := by decide +kernel
theorem d3_34 : decode method_2_code 34 = .ok (.getstatic 13, 3) := by decide +kernel
theorem d3_37 : decode method_2_code 37 = .ok (.goto 6, 3) := by decide +kernel
theorem d1_64 : decode prog_19_method_5_code 64 = .ok (.iload_n 1, 1) := by decide +kernel
theorem d1_65 : decode prog_19_method_5_code 65 = .ok (.sipush 404, 3) := by decide +kernel
theorem d1_68 : decode prog_19_method_5_code 68 = .ok (.if_icmp .ne 7, 3) := by decide +kernel
theorem d1_75 : decode prog_19_method_5_code 75 = .ok (.iconst 0, 1) := by decide +kernel
theorem d1_76 : decode prog_19_method_5_code 76 = .ok (.goto 22, 3) := by decide +kernel
theorem d3_12 : decode method_2_code 12 = .ok (.getstatic 7, 3) := by decide +kernel
theorem d3_15 : decode method_2_code 15 = .ok (.goto 6, 3) := by decide +kernel
theorem d3_61 : decode method_2_code 61 = .ok (.getstatic 13, 3) := by decide +kernel
theorem d1_79 : decode prog_19_method_5_code 79 = .ok (.iload_n 1, 1) := by decide +kernel
theorem d1_80 : decode prog_19_method_5_code 80 = .ok (.sipush 204, 3) := by decide +kernel
theorem d1_83 : decode prog_19_method_5_code 83 = .ok (.if_icmp .eq 10, 3) := by decide +kernel
theorem d1_86 : decode prog_19_method_5_code 86 = .ok (.iload_n 1, 1) := by decide +kernel
theorem d1_87 : decode prog_19_method_5_code 87 = .ok (.sipush 404, 3) := by decide +kernel
theorem d1_90 : decode prog_19_method_5_code 90 = .ok (.if_icmp .ne 7, 3) := by decide +kernel
theorem d1_97 : decode prog_19_method_5_code 97 = .ok (.iconst 0, 1) := by decide +kernel
theorem d1_93 : decode prog_19_method_5_code 93 = .ok (.iconst 1, 1) := by decide +kernel
theorem d1_94 : decode prog_19_method_5_code 94 = .ok (.goto 4, 3) := by decide +kernel
theorem ef_rm2_3 (m : MethodId) (x0 : Addr) : entryFrame m #[(.ref x0)] 1 = mkF m 0 #[.val (.ref x0)] [] := by first | (simp [entryFrame, mkF, argsToLocals, Value.category]; done) | rfl
def Q2_3 (Z : State) (a1 : Addr) (h0 : Heap) (n0 : Nat) (v : Option Value) (h : Heap) (L : List Loc) : Prop := (v = some (.int (0 : Int32)) ∧ Fr n0 L ∧ h = h0)
set_option maxRecDepth 65536 in
set_option maxHeartbeats 40000000 in
theorem rm2_3 (l : Launch) (Z : State) (a0 : Array Value) (hw : ∀ d ∈ own_ws, d.before a0 Z = true) (ws : List Jvm.Cond) (a1 : Addr) (h0 : Heap) (n0 : Nat) (O0 : Old Z n0 h0) (F2 : Fld Z Z.heap a1 "java/lang/Enum" "ordinal" "I" (.int (0 : Int32))) :
    MetFree l M_0 (head1 (Jvm.Cond.code M_0 jdk_37_method_2_code 1 (some .int) :: ws) ({ frames := 0, cells := 0, slots := 0, locals := 0 } : Room)) (fun a U => a = #[(.ref a1)] ∧ Z.Warmed39 U.vm ∧ U.heap = h0) (fun _ _ _ _ _ => True) (fun _ U o U' => ∃ v L, o = .returned v ∧ Q2_3 Z a1 h0 n0 v U'.heap L ∧ FrameEnd U o U' L ({ frames := 0, cells := 0, slots := 0, locals := 0 } : Room).cells ({ frames := 0, cells := 0, slots := 0, locals := 0 } : Room).slots) := by
  refine MetFree.of_bodySF (plainFor_of_name pn_0) hisR ?_
  intro p e s m args below meth c s₁ Bd hml0 hP hK
  obtain ⟨rfl, hZ, hh⟩ := hP
  have hx := Bd.exec
  have hby := Bd.bytes
  have hml : c.maxLocals = 1 := hml0
  have hown : s.vm.findClass "java/lang/Enum" = some m.cls := findClass_of_methodNamed Bd.named
  have hnm := (name_of_methodNamed Bd.named Bd.method).1
  have X0 : Stand p l e ({ frames := 0, cells := 0, slots := 0, locals := 0 } : Room) s m #[(.ref a1)] below meth c s₁ [] 0 0 := Stand.of_body Bd
  have e0 : s₁.heap = h0 := by rw [← hh, Bd.state]; rfl
  have N0 := Fr.nil n0
  have pre0 : ∀ t, Steps p.tables e below (s₁.setTop (mkF m 0 #[.val (.ref a1)] [])) t → Steps p.tables e below (s₁.setTop (entryFrame m #[(.ref a1)] 1)) t := fun t k => castTop (ef_rm2_3 m a1) k
  obtain ⟨T3, X3, e3, st3⟩ := getF X0 hx hZ hown (host := "") (Or.inl (hw _ (gw 15 rfl))) Via.refl e0 (Fld.ext O0.2 F2) (g := (mkF m 1 #[.val (.ref a1)] [(.ref a1)])) rfl rfl (hb hby d2_1)
  obtain ⟨fs, hr, hrun, hended, hW, hsame⟩ := X3.leave (v := some (.int (0 : Int32))) (fun h => by rw [Bd.returns] at h; cases h)
  refine ⟨_, _, pre0 _ ?_, hrun, hended, _, _, rfl, ?_, ⟨_, rfl⟩, hW, hsame.mono (by decide) (by decide)⟩
  · show Steps p.tables e below (s₁.setTop (mkF m 0 #[.val (.ref a1)] [])) _
    refine XS.aloadN X0.here hx rfl (hb hby d2_0) rfl rfl ?_
    show Steps p.tables e below (s₁.setTop (mkF m 1 #[.val (.ref a1)] [(.ref a1)])) _
    refine st3 _ ?_
    show Steps p.tables e below (T3.setTop (mkF m 4 #[.val (.ref a1)] [(.int (0 : Int32))])) _
    exact retI X3 hx Bd.returns (hb hby d2_4) hr
  · show Q2_3 Z _ h0 n0 _ T3.heap _
    rw [e3]
    exact ⟨rfl, N0, rfl⟩
theorem ef_rm1_2 (m : MethodId) (x0 : Addr) : entryFrame m #[(.ref x0), (.int (200 : Int32))] 4 = mkF m 0 #[.val (.ref x0), .val (.int (200 : Int32)), .unset, .unset] [] := by first | (simp [entryFrame, mkF, argsToLocals, Value.category]; done) | rfl
def Q1_2 (Z : State) (a1 : Addr) (a8 : Addr) (h0 : Heap) (n0 : Nat) (v : Option Value) (h : Heap) (L : List Loc) : Prop := (v = some (.ref a8) ∧ Fr n0 L ∧ h = h0)
set_option maxRecDepth 65536 in
set_option maxHeartbeats 40000000 in
theorem rm1_2 (l : Launch) (Z : State) (a0 : Array Value) (hw : ∀ d ∈ own_ws, d.before a0 Z = true) (ws : List Jvm.Cond) (a1 : Addr) (a8 : Addr) (h0 : Heap) (n0 : Nat) (O0 : Old Z n0 h0) (E_2 : Exa Z Z.heap a1 "com/example/ringstead/ringstead/node/History$Operation") (F3 : Fld Z Z.heap a1 "java/lang/Enum" "ordinal" "I" (.int (0 : Int32))) (S_9 : Sta Z Z.heap "com/example/ringstead/ringstead/node/History$Type" "INFO" "Lcom/example/ringstead/ringstead/node/History$Type;" (.ref a8)) :
    MetFree l M_2 (head1 (Jvm.Cond.code M_2 prog_19_method_5_code 4 (some (.object "com/example/ringstead/ringstead/node/History$Type")) :: ws) ({ frames := 1, cells := 0, slots := 0, locals := 12 } : Room)) (fun a U => a = #[(.ref a1), (.int (200 : Int32))] ∧ Z.Warmed39 U.vm ∧ U.heap = h0) (fun _ _ _ _ _ => True) (fun _ U o U' => ∃ v L, o = .returned v ∧ Q1_2 Z a1 a8 h0 n0 v U'.heap L ∧ FrameEnd U o U' L ({ frames := 1, cells := 0, slots := 0, locals := 12 } : Room).cells ({ frames := 1, cells := 0, slots := 0, locals := 12 } : Room).slots) := by
  refine MetFree.of_bodySF (plainFor_of_name pn_1) hisR ?_
  intro p e s m args below meth c s₁ Bd hml0 hP hK
  obtain ⟨rfl, hZ, hh⟩ := hP
  have hx := Bd.exec
  have hby := Bd.bytes
  have hml : c.maxLocals = 4 := hml0
  have hown : s.vm.findClass "com/example/ringstead/ringstead/node/History$Type" = some m.cls := findClass_of_methodNamed Bd.named
  have hnm := (name_of_methodNamed Bd.named Bd.method).1
  have X0 : Stand p l e ({ frames := 1, cells := 0, slots := 0, locals := 12 } : Room) s m #[(.ref a1), (.int (200 : Int32))] below meth c s₁ [] 0 0 := Stand.of_body Bd
  have e0 : s₁.heap = h0 := by rw [← hh, Bd.state]; rfl
  have N0 := Fr.nil n0
  have pre0 : ∀ t, Steps p.tables e below (s₁.setTop (mkF m 0 #[.val (.ref a1), .val (.int (200 : Int32)), .unset, .unset] [])) t → Steps p.tables e below (s₁.setTop (entryFrame m #[(.ref a1), (.int (200 : Int32))] 4)) t := fun t k => castTop (ef_rm1_2 m a1) k
  obtain ⟨cq4, kq4, q4a, q4b, q4c⟩ := isOf hZ e0 (Exa.ext O0.2 E_2)
  obtain ⟨_, _, ⟨T4, L4, k4, n4⟩, -, X4, ⟨Lc4, hQ4, l4, y4, z4⟩, st4⟩ := X0.virtualBackUp hx (owner := "java/lang/Enum") (x := M_1) (y := M_0) hown (mvT hZ (hw _ (gw 8 rfl))) (mvT hZ (hw _ (gw 9 rfl))) (mvT hZ (hw _ (gw 10 rfl))) (by decide) (mvT hZ (hw _ (gw 12 rfl))) (mvT hZ (hw _ (gw 11 rfl))) (backOf (W := 0) (rm2_3 l Z a0 hw [] a1 h0 n0  O0 F3) hZ (hw _ (gw 14 rfl)) (hw _ (gw 13 rfl)) (by decide) (by decide)) q4a q4c (g := (mkF m 1 #[.val (.ref a1), .val (.int (200 : Int32)), .unset, .unset] [(.ref a1)])) rfl (by rw [hml]; rfl) (Steps.refl _) (argsL := []) (rest := []) (lenOf pd_0 rfl) rfl (by show 2 * 0 + _ ≤ _; exact Nat.le_of_eq rfl) (hb hby d1_1) (fun _ _ => ⟨rfl, e0, (by decide : 0 + 0 ≤ _), (by decide : 0 + 0 ≤ _)⟩)
  dsimp only [Pt.U, Pt.locs, Pt.cells, Pt.slots] at X4 l4 y4 z4 st4 hQ4
  subst l4 y4 z4
  obtain ⟨rfl, u6, u7⟩ := hQ4
  have N4 := Fr.app N0 u6
  obtain ⟨T10, X10, e10, st10⟩ := getS2 X4 hx hZ hown (host := "") (Or.inl (hw _ (gw 31 rfl))) Via.refl u7 (Sta.ext O0.2 S_9) (g := (mkF m 131 #[.val (.ref a1), .val (.int (200 : Int32)), .val (.int (0 : Int32)), .unset] [])) rfl (hb hby d1_131)
  obtain ⟨fs, hr, hrun, hended, hW, hsame⟩ := X10.leave (v := some (.ref a8)) (fun h => by rw [Bd.returns] at h; cases h)
  refine ⟨_, _, pre0 _ ?_, hrun, hended, _, _, rfl, ?_, ⟨_, rfl⟩, hW, hsame.mono (by decide) (by decide)⟩
  · show Steps p.tables e below (s₁.setTop (mkF m 0 #[.val (.ref a1), .val (.int (200 : Int32)), .unset, .unset] [])) _
    refine XS.aloadN X0.here hx rfl (hb hby d1_0) rfl rfl ?_
    show Steps p.tables e below (s₁.setTop (mkF m 1 #[.val (.ref a1), .val (.int (200 : Int32)), .unset, .unset] [(.ref a1)])) _
    refine st4.trans ?_
    show Steps p.tables e below (T4.setTop (mkF m 4 #[.val (.ref a1), .val (.int (200 : Int32)), .unset, .unset] [(.int (0 : Int32))])) _
    refine XS.tswIn X4.here hx rfl (pc0 := 4) (pc' := 42) rfl (hb hby d1_4) rfl (by decide) (o := 38) rfl (by decide) (by decide) ?_
    show Steps p.tables e below (T4.setTop (mkF m 42 #[.val (.ref a1), .val (.int (200 : Int32)), .unset, .unset] [])) _
    refine XS.iloadN X4.here hx rfl (hb hby d1_42) rfl ?_
    show Steps p.tables e below (T4.setTop (mkF m 43 #[.val (.ref a1), .val (.int (200 : Int32)), .unset, .unset] [(.int (200 : Int32))])) _
    refine XS.sipush X4.here hx rfl (hb hby d1_43) ?_
    show Steps p.tables e below (T4.setTop (mkF m 46 #[.val (.ref a1), .val (.int (200 : Int32)), .unset, .unset] [(.int (204 : Int32)), (.int (200 : Int32))])) _
    refine XS.icmpYes X4.here hx rfl (pc0 := 46) (pc' := 53) rfl (hb hby d1_46) rfl (feq (by decide +kernel : ¬ ((200 : Int32) = (204 : Int32)))).2 (by decide) (by decide) ?_
    show Steps p.tables e below (T4.setTop (mkF m 53 #[.val (.ref a1), .val (.int (200 : Int32)), .unset, .unset] [])) _
    refine XS.iconst X4.here hx rfl (hb hby d1_53) ?_
    show Steps p.tables e below (T4.setTop (mkF m 54 #[.val (.ref a1), .val (.int (200 : Int32)), .unset, .unset] [(.int (0 : Int32))])) _
    refine XS.goto X4.here hx rfl (pc0 := 54) (pc' := 98) rfl (hb hby d1_54) (by decide) (by decide) ?_
    show Steps p.tables e below (T4.setTop (mkF m 98 #[.val (.ref a1), .val (.int (200 : Int32)), .unset, .unset] [(.int (0 : Int32))])) _
    refine XS.istoreN X4.here hx rfl (hb hby d1_98) rfl (l' := #[.val (.ref a1), .val (.int (200 : Int32)), .val (.int (0 : Int32)), .unset]) rfl ?_
    show Steps p.tables e below (T4.setTop (mkF m 99 #[.val (.ref a1), .val (.int (200 : Int32)), .val (.int (0 : Int32)), .unset] [])) _
    refine XS.iloadN X4.here hx rfl (hb hby d1_99) rfl ?_
    show Steps p.tables e below (T4.setTop (mkF m 100 #[.val (.ref a1), .val (.int (200 : Int32)), .val (.int (0 : Int32)), .unset] [(.int (0 : Int32))])) _
    refine XS.ifYes X4.here hx rfl (pc0 := 100) (pc' := 110) rfl (hb hby d1_100) rfl ((if0 _ _).trans (teq (by decide +kernel : (0 : Int32) = (0 : Int32))).1) (by decide) (by decide) ?_
    show Steps p.tables e below (T4.setTop (mkF m 110 #[.val (.ref a1), .val (.int (200 : Int32)), .val (.int (0 : Int32)), .unset] [])) _
    refine XS.iloadN X4.here hx rfl (hb hby d1_110) rfl ?_
    show Steps p.tables e below (T4.setTop (mkF m 111 #[.val (.ref a1), .val (.int (200 : Int32)), .val (.int (0 : Int32)), .unset] [(.int (200 : Int32))])) _
    refine XS.sipush X4.here hx rfl (hb hby d1_111) ?_
    show Steps p.tables e below (T4.setTop (mkF m 114 #[.val (.ref a1), .val (.int (200 : Int32)), .val (.int (0 : Int32)), .unset] [(.int (400 : Int32)), (.int (200 : Int32))])) _
    refine XS.icmpNo X4.here hx rfl (hb hby d1_114) rfl (feq (by decide +kernel : ¬ ((200 : Int32) = (400 : Int32)))).1 ?_
    show Steps p.tables e below (T4.setTop (mkF m 117 #[.val (.ref a1), .val (.int (200 : Int32)), .val (.int (0 : Int32)), .unset] [])) _
    refine XS.iloadN X4.here hx rfl (hb hby d1_117) rfl ?_
    show Steps p.tables e below (T4.setTop (mkF m 118 #[.val (.ref a1), .val (.int (200 : Int32)), .val (.int (0 : Int32)), .unset] [(.int (200 : Int32))])) _
    refine XS.sipush X4.here hx rfl (hb hby d1_118) ?_
    show Steps p.tables e below (T4.setTop (mkF m 121 #[.val (.ref a1), .val (.int (200 : Int32)), .val (.int (0 : Int32)), .unset] [(.int (413 : Int32)), (.int (200 : Int32))])) _
    refine XS.icmpYes X4.here hx rfl (pc0 := 121) (pc' := 131) rfl (hb hby d1_121) rfl (feq (by decide +kernel : ¬ ((200 : Int32) = (413 : Int32)))).2 (by decide) (by decide) ?_
    show Steps p.tables e below (T4.setTop (mkF m 131 #[.val (.ref a1), .val (.int (200 : Int32)), .val (.int (0 : Int32)), .unset] [])) _
    refine st10 _ ?_
    show Steps p.tables e below (T10.setTop (mkF m 134 #[.val (.ref a1), .val (.int (200 : Int32)), .val (.int (0 : Int32)), .unset] [(.ref a8)])) _
    refine XS.astoreN X10.here hx rfl (hb hby d1_134) rfl rfl (l' := #[.val (.ref a1), .val (.int (200 : Int32)), .val (.int (0 : Int32)), .val (.ref a8)]) rfl ?_
    show Steps p.tables e below (T10.setTop (mkF m 135 #[.val (.ref a1), .val (.int (200 : Int32)), .val (.int (0 : Int32)), .val (.ref a8)] [])) _
    refine XS.aloadN X10.here hx rfl (hb hby d1_135) rfl rfl ?_
    show Steps p.tables e below (T10.setTop (mkF m 136 #[.val (.ref a1), .val (.int (200 : Int32)), .val (.int (0 : Int32)), .val (.ref a8)] [(.ref a8)])) _
    jvm_step X10.here [X10.here.top, hx, (hb hby d1_136), X10.method', Bd.returns, Value.isRef, FieldType.isReference]
    first | (intro acts; rw [hr _ acts rfl rfl rfl]) | rw [hr _ _ rfl rfl rfl]
    exact Steps.refl _
  · show Q1_2 Z _ _ h0 n0 _ T10.heap _
    rw [e10]
    exact ⟨rfl, N4, rfl⟩
theorem ef_rm3_4 (m : MethodId)  : entryFrame m #[(.int (0 : Int32)), (.int (200 : Int32))] 2 = mkF m 0 #[.val (.int (0 : Int32)), .val (.int (200 : Int32))] [] := by first | (simp [entryFrame, mkF, argsToLocals, Value.category]; done) | rfl
def Q3_4 (Z : State) (a1 : Addr) (h0 : Heap) (n0 : Nat) (v : Option Value) (h : Heap) (L : List Loc) : Prop := (v = some (.ref a1) ∧ Fr n0 L ∧ h = h0)
set_option maxRecDepth 65536 in
set_option maxHeartbeats 40000000 in
theorem rm3_4 (l : Launch) (Z : State) (a0 : Array Value) (hw : ∀ d ∈ own_ws, d.before a0 Z = true) (ws : List Jvm.Cond) (a1 : Addr) (h0 : Heap) (n0 : Nat) (O0 : Old Z n0 h0) (S_2 : Sta Z Z.heap "com/example/ringstead/ringstead/node/History$Type" "INFO" "Lcom/example/ringstead/ringstead/node/History$Type;" (.ref a1)) :
    MetFree l M_3 (head1 (Jvm.Cond.code M_3 method_2_code 2 (some (.object "com/example/ringstead/ringstead/node/History$Type")) :: ws) ({ frames := 0, cells := 0, slots := 0, locals := 0 } : Room)) (fun a U => a = #[(.int (0 : Int32)), (.int (200 : Int32))] ∧ Z.Warmed39 U.vm ∧ U.heap = h0) (fun _ _ _ _ _ => True) (fun _ U o U' => ∃ v L, o = .returned v ∧ Q3_4 Z a1 h0 n0 v U'.heap L ∧ FrameEnd U o U' L ({ frames := 0, cells := 0, slots := 0, locals := 0 } : Room).cells ({ frames := 0, cells := 0, slots := 0, locals := 0 } : Room).slots) := by
  refine MetFree.of_bodySF (plainFor_of_name pn_2) hisR ?_
  intro p e s m args below meth c s₁ Bd hml0 hP hK
  obtain ⟨rfl, hZ, hh⟩ := hP
  have hx := Bd.exec
  have hby := Bd.bytes
  have hml : c.maxLocals = 2 := hml0
  have hown : s.vm.findClass "com/example/ringstead/ringstead/node/TypeOfPinLaw" = some m.cls := findClass_of_methodNamed Bd.named
  have hnm := (name_of_methodNamed Bd.named Bd.method).1
  have X0 : Stand p l e ({ frames := 0, cells := 0, slots := 0, locals := 0 } : Room) s m #[(.int (0 : Int32)), (.int (200 : Int32))] below meth c s₁ [] 0 0 := Stand.of_body Bd
  have e0 : s₁.heap = h0 := by rw [← hh, Bd.state]; rfl
  have N0 := Fr.nil n0
  have pre0 : ∀ t, Steps p.tables e below (s₁.setTop (mkF m 0 #[.val (.int (0 : Int32)), .val (.int (200 : Int32))] [])) t → Steps p.tables e below (s₁.setTop (entryFrame m #[(.int (0 : Int32)), (.int (200 : Int32))] 2)) t := fun t k => castTop (ef_rm3_4 m ) k
  obtain ⟨T3, X3, e3, st3⟩ := getS2 X0 hx hZ hown (host := "") (Or.inl (hw _ (gw 33 rfl))) Via.refl e0 (Sta.ext O0.2 S_2) (g := (mkF m 40 #[.val (.int (0 : Int32)), .val (.int (200 : Int32))] [])) rfl (hb hby d3_40)
  obtain ⟨fs, hr, hrun, hended, hW, hsame⟩ := X3.leave (v := some (.ref a1)) (fun h => by rw [Bd.returns] at h; cases h)
  refine ⟨_, _, pre0 _ ?_, hrun, hended, _, _, rfl, ?_, ⟨_, rfl⟩, hW, hsame.mono (by decide) (by decide)⟩
  · show Steps p.tables e below (s₁.setTop (mkF m 0 #[.val (.int (0 : Int32)), .val (.int (200 : Int32))] [])) _
    refine XS.iloadN X0.here hx rfl (hb hby d3_0) rfl ?_
    show Steps p.tables e below (s₁.setTop (mkF m 1 #[.val (.int (0 : Int32)), .val (.int (200 : Int32))] [(.int (200 : Int32))])) _
    refine XS.sipush X0.here hx rfl (hb hby d3_1) ?_
    show Steps p.tables e below (s₁.setTop (mkF m 4 #[.val (.int (0 : Int32)), .val (.int (200 : Int32))] [(.int (204 : Int32)), (.int (200 : Int32))])) _
    refine XS.icmpYes X0.here hx rfl (pc0 := 4) (pc' := 22) rfl (hb hby d3_4) rfl (feq (by decide +kernel : ¬ ((200 : Int32) = (204 : Int32)))).2 (by decide) (by decide) ?_
    show Steps p.tables e below (s₁.setTop (mkF m 22 #[.val (.int (0 : Int32)), .val (.int (200 : Int32))] [])) _
    refine XS.iloadN X0.here hx rfl (hb hby d3_22) rfl ?_
    show Steps p.tables e below (s₁.setTop (mkF m 23 #[.val (.int (0 : Int32)), .val (.int (200 : Int32))] [(.int (200 : Int32))])) _
    refine XS.sipush X0.here hx rfl (hb hby d3_23) ?_
    show Steps p.tables e below (s₁.setTop (mkF m 26 #[.val (.int (0 : Int32)), .val (.int (200 : Int32))] [(.int (200 : Int32)), (.int (200 : Int32))])) _
    refine XS.icmpNo X0.here hx rfl (hb hby d3_26) rfl (teq (by decide +kernel : (200 : Int32) = (200 : Int32))).2 ?_
    show Steps p.tables e below (s₁.setTop (mkF m 29 #[.val (.int (0 : Int32)), .val (.int (200 : Int32))] [])) _
    refine XS.iloadN X0.here hx rfl (hb hby d3_29) rfl ?_
    show Steps p.tables e below (s₁.setTop (mkF m 30 #[.val (.int (0 : Int32)), .val (.int (200 : Int32))] [(.int (0 : Int32))])) _
    refine XS.iconst X0.here hx rfl (hb hby d3_30) ?_
    show Steps p.tables e below (s₁.setTop (mkF m 31 #[.val (.int (0 : Int32)), .val (.int (200 : Int32))] [(.int (1 : Int32)), (.int (0 : Int32))])) _
    refine XS.icmpYes X0.here hx rfl (pc0 := 31) (pc' := 40) rfl (hb hby d3_31) rfl (feq (by decide +kernel : ¬ ((0 : Int32) = (1 : Int32)))).2 (by decide) (by decide) ?_
    show Steps p.tables e below (s₁.setTop (mkF m 40 #[.val (.int (0 : Int32)), .val (.int (200 : Int32))] [])) _
    refine st3 _ ?_
    show Steps p.tables e below (T3.setTop (mkF m 43 #[.val (.int (0 : Int32)), .val (.int (200 : Int32))] [(.ref a1)])) _
    jvm_step X3.here [X3.here.top, hx, (hb hby d3_43), X3.method', Bd.returns, Value.isRef, FieldType.isReference]
    first | (intro acts; rw [hr _ acts rfl rfl rfl]) | rw [hr _ _ rfl rfl rfl]
    exact Steps.refl _
  · show Q3_4 Z _ h0 n0 _ T3.heap _
    rw [e3]
    exact ⟨rfl, N0, rfl⟩
theorem ef_rm1_5 (m : MethodId) (x0 : Addr) : entryFrame m #[(.ref x0), (.int (204 : Int32))] 4 = mkF m 0 #[.val (.ref x0), .val (.int (204 : Int32)), .unset, .unset] [] := by first | (simp [entryFrame, mkF, argsToLocals, Value.category]; done) | rfl
def Q1_5 (Z : State) (a1 : Addr) (a8 : Addr) (h0 : Heap) (n0 : Nat) (v : Option Value) (h : Heap) (L : List Loc) : Prop := (v = some (.ref a8) ∧ Fr n0 L ∧ h = h0)
set_option maxRecDepth 65536 in
set_option maxHeartbeats 40000000 in
theorem rm1_5 (l : Launch) (Z : State) (a0 : Array Value) (hw : ∀ d ∈ own_ws, d.before a0 Z = true) (ws : List Jvm.Cond) (a1 : Addr) (a8 : Addr) (h0 : Heap) (n0 : Nat) (O0 : Old Z n0 h0) (E_2 : Exa Z Z.heap a1 "com/example/ringstead/ringstead/node/History$Operation") (F3 : Fld Z Z.heap a1 "java/lang/Enum" "ordinal" "I" (.int (0 : Int32))) (S_9 : Sta Z Z.heap "com/example/ringstead/ringstead/node/History$Type" "OK" "Lcom/example/ringstead/ringstead/node/History$Type;" (.ref a8)) :
    MetFree l M_2 (head1 (Jvm.Cond.code M_2 prog_19_method_5_code 4 (some (.object "com/example/ringstead/ringstead/node/History$Type")) :: ws) ({ frames := 1, cells := 0, slots := 0, locals := 12 } : Room)) (fun a U => a = #[(.ref a1), (.int (204 : Int32))] ∧ Z.Warmed39 U.vm ∧ U.heap = h0) (fun _ _ _ _ _ => True) (fun _ U o U' => ∃ v L, o = .returned v ∧ Q1_5 Z a1 a8 h0 n0 v U'.heap L ∧ FrameEnd U o U' L ({ frames := 1, cells := 0, slots := 0, locals := 12 } : Room).cells ({ frames := 1, cells := 0, slots := 0, locals := 12 } : Room).slots) := by
  refine MetFree.of_bodySF (plainFor_of_name pn_1) hisR ?_
  intro p e s m args below meth c s₁ Bd hml0 hP hK
  obtain ⟨rfl, hZ, hh⟩ := hP
  have hx := Bd.exec
  have hby := Bd.bytes
  have hml : c.maxLocals = 4 := hml0
  have hown : s.vm.findClass "com/example/ringstead/ringstead/node/History$Type" = some m.cls := findClass_of_methodNamed Bd.named
  have hnm := (name_of_methodNamed Bd.named Bd.method).1
  have X0 : Stand p l e ({ frames := 1, cells := 0, slots := 0, locals := 12 } : Room) s m #[(.ref a1), (.int (204 : Int32))] below meth c s₁ [] 0 0 := Stand.of_body Bd
  have e0 : s₁.heap = h0 := by rw [← hh, Bd.state]; rfl
  have N0 := Fr.nil n0
  have pre0 : ∀ t, Steps p.tables e below (s₁.setTop (mkF m 0 #[.val (.ref a1), .val (.int (204 : Int32)), .unset, .unset] [])) t → Steps p.tables e below (s₁.setTop (entryFrame m #[(.ref a1), (.int (204 : Int32))] 4)) t := fun t k => castTop (ef_rm1_5 m a1) k
  obtain ⟨cq4, kq4, q4a, q4b, q4c⟩ := isOf hZ e0 (Exa.ext O0.2 E_2)
  obtain ⟨_, _, ⟨T4, L4, k4, n4⟩, -, X4, ⟨Lc4, hQ4, l4, y4, z4⟩, st4⟩ := X0.virtualBackUp hx (owner := "java/lang/Enum") (x := M_1) (y := M_0) hown (mvT hZ (hw _ (gw 8 rfl))) (mvT hZ (hw _ (gw 9 rfl))) (mvT hZ (hw _ (gw 10 rfl))) (by decide) (mvT hZ (hw _ (gw 12 rfl))) (mvT hZ (hw _ (gw 11 rfl))) (backOf (W := 0) (rm2_3 l Z a0 hw [] a1 h0 n0  O0 F3) hZ (hw _ (gw 14 rfl)) (hw _ (gw 13 rfl)) (by decide) (by decide)) q4a q4c (g := (mkF m 1 #[.val (.ref a1), .val (.int (204 : Int32)), .unset, .unset] [(.ref a1)])) rfl (by rw [hml]; rfl) (Steps.refl _) (argsL := []) (rest := []) (lenOf pd_0 rfl) rfl (by show 2 * 0 + _ ≤ _; exact Nat.le_of_eq rfl) (hb hby d1_1) (fun _ _ => ⟨rfl, e0, (by decide : 0 + 0 ≤ _), (by decide : 0 + 0 ≤ _)⟩)
  dsimp only [Pt.U, Pt.locs, Pt.cells, Pt.slots] at X4 l4 y4 z4 st4 hQ4
  subst l4 y4 z4
  obtain ⟨rfl, u6, u7⟩ := hQ4
  have N4 := Fr.app N0 u6
  obtain ⟨T10, X10, e10, st10⟩ := getS2 X4 hx hZ hown (host := "") (Or.inl (hw _ (gw 28 rfl))) Via.refl u7 (Sta.ext O0.2 S_9) (g := (mkF m 103 #[.val (.ref a1), .val (.int (204 : Int32)), .val (.int (1 : Int32)), .unset] [])) rfl (hb hby d1_103)
  obtain ⟨fs, hr, hrun, hended, hW, hsame⟩ := X10.leave (v := some (.ref a8)) (fun h => by rw [Bd.returns] at h; cases h)
  refine ⟨_, _, pre0 _ ?_, hrun, hended, _, _, rfl, ?_, ⟨_, rfl⟩, hW, hsame.mono (by decide) (by decide)⟩
  · show Steps p.tables e below (s₁.setTop (mkF m 0 #[.val (.ref a1), .val (.int (204 : Int32)), .unset, .unset] [])) _
    refine XS.aloadN X0.here hx rfl (hb hby d1_0) rfl rfl ?_
    show Steps p.tables e below (s₁.setTop (mkF m 1 #[.val (.ref a1), .val (.int (204 : Int32)), .unset, .unset] [(.ref a1)])) _
    refine st4.trans ?_
    show Steps p.tables e below (T4.setTop (mkF m 4 #[.val (.ref a1), .val (.int (204 : Int32)), .unset, .unset] [(.int (0 : Int32))])) _
    refine XS.tswIn X4.here hx rfl (pc0 := 4) (pc' := 42) rfl (hb hby d1_4) rfl (by decide) (o := 38) rfl (by decide) (by decide) ?_
    show Steps p.tables e below (T4.setTop (mkF m 42 #[.val (.ref a1), .val (.int (204 : Int32)), .unset, .unset] [])) _
    refine XS.iloadN X4.here hx rfl (hb hby d1_42) rfl ?_
    show Steps p.tables e below (T4.setTop (mkF m 43 #[.val (.ref a1), .val (.int (204 : Int32)), .unset, .unset] [(.int (204 : Int32))])) _
    refine XS.sipush X4.here hx rfl (hb hby d1_43) ?_
    show Steps p.tables e below (T4.setTop (mkF m 46 #[.val (.ref a1), .val (.int (204 : Int32)), .unset, .unset] [(.int (204 : Int32)), (.int (204 : Int32))])) _
    refine XS.icmpNo X4.here hx rfl (hb hby d1_46) rfl (teq (by decide +kernel : (204 : Int32) = (204 : Int32))).2 ?_
    show Steps p.tables e below (T4.setTop (mkF m 49 #[.val (.ref a1), .val (.int (204 : Int32)), .unset, .unset] [])) _
    refine XS.iconst X4.here hx rfl (hb hby d1_49) ?_
    show Steps p.tables e below (T4.setTop (mkF m 50 #[.val (.ref a1), .val (.int (204 : Int32)), .unset, .unset] [(.int (1 : Int32))])) _
    refine XS.goto X4.here hx rfl (pc0 := 50) (pc' := 98) rfl (hb hby d1_50) (by decide) (by decide) ?_
    show Steps p.tables e below (T4.setTop (mkF m 98 #[.val (.ref a1), .val (.int (204 : Int32)), .unset, .unset] [(.int (1 : Int32))])) _
    refine XS.istoreN X4.here hx rfl (hb hby d1_98) rfl (l' := #[.val (.ref a1), .val (.int (204 : Int32)), .val (.int (1 : Int32)), .unset]) rfl ?_
    show Steps p.tables e below (T4.setTop (mkF m 99 #[.val (.ref a1), .val (.int (204 : Int32)), .val (.int (1 : Int32)), .unset] [])) _
    refine XS.iloadN X4.here hx rfl (hb hby d1_99) rfl ?_
    show Steps p.tables e below (T4.setTop (mkF m 100 #[.val (.ref a1), .val (.int (204 : Int32)), .val (.int (1 : Int32)), .unset] [(.int (1 : Int32))])) _
    refine XS.ifNo X4.here hx rfl (hb hby d1_100) rfl ((if0 _ _).trans (feq (by decide +kernel : ¬ ((1 : Int32) = (0 : Int32)))).1) ?_
    show Steps p.tables e below (T4.setTop (mkF m 103 #[.val (.ref a1), .val (.int (204 : Int32)), .val (.int (1 : Int32)), .unset] [])) _
    refine st10 _ ?_
    show Steps p.tables e below (T10.setTop (mkF m 106 #[.val (.ref a1), .val (.int (204 : Int32)), .val (.int (1 : Int32)), .unset] [(.ref a8)])) _
    refine XS.astoreN X10.here hx rfl (hb hby d1_106) rfl rfl (l' := #[.val (.ref a1), .val (.int (204 : Int32)), .val (.int (1 : Int32)), .val (.ref a8)]) rfl ?_
    show Steps p.tables e below (T10.setTop (mkF m 107 #[.val (.ref a1), .val (.int (204 : Int32)), .val (.int (1 : Int32)), .val (.ref a8)] [])) _
    refine XS.goto X10.here hx rfl (pc0 := 107) (pc' := 135) rfl (hb hby d1_107) (by decide) (by decide) ?_
    show Steps p.tables e below (T10.setTop (mkF m 135 #[.val (.ref a1), .val (.int (204 : Int32)), .val (.int (1 : Int32)), .val (.ref a8)] [])) _
    refine XS.aloadN X10.here hx rfl (hb hby d1_135) rfl rfl ?_
    show Steps p.tables e below (T10.setTop (mkF m 136 #[.val (.ref a1), .val (.int (204 : Int32)), .val (.int (1 : Int32)), .val (.ref a8)] [(.ref a8)])) _
    jvm_step X10.here [X10.here.top, hx, (hb hby d1_136), X10.method', Bd.returns, Value.isRef, FieldType.isReference]
    first | (intro acts; rw [hr _ acts rfl rfl rfl]) | rw [hr _ _ rfl rfl rfl]
    exact Steps.refl _
  · show Q1_5 Z _ _ h0 n0 _ T10.heap _
    rw [e10]
    exact ⟨rfl, N4, rfl⟩
theorem ef_rm3_6 (m : MethodId)  : entryFrame m #[(.int (0 : Int32)), (.int (204 : Int32))] 2 = mkF m 0 #[.val (.int (0 : Int32)), .val (.int (204 : Int32))] [] := by first | (simp [entryFrame, mkF, argsToLocals, Value.category]; done) | rfl
def Q3_6 (Z : State) (a1 : Addr) (h0 : Heap) (n0 : Nat) (v : Option Value) (h : Heap) (L : List Loc) : Prop := (v = some (.ref a1) ∧ Fr n0 L ∧ h = h0)
set_option maxRecDepth 65536 in
set_option maxHeartbeats 40000000 in
theorem rm3_6 (l : Launch) (Z : State) (a0 : Array Value) (hw : ∀ d ∈ own_ws, d.before a0 Z = true) (ws : List Jvm.Cond) (a1 : Addr) (h0 : Heap) (n0 : Nat) (O0 : Old Z n0 h0) (S_2 : Sta Z Z.heap "com/example/ringstead/ringstead/node/History$Type" "OK" "Lcom/example/ringstead/ringstead/node/History$Type;" (.ref a1)) :
    MetFree l M_3 (head1 (Jvm.Cond.code M_3 method_2_code 2 (some (.object "com/example/ringstead/ringstead/node/History$Type")) :: ws) ({ frames := 0, cells := 0, slots := 0, locals := 0 } : Room)) (fun a U => a = #[(.int (0 : Int32)), (.int (204 : Int32))] ∧ Z.Warmed39 U.vm ∧ U.heap = h0) (fun _ _ _ _ _ => True) (fun _ U o U' => ∃ v L, o = .returned v ∧ Q3_6 Z a1 h0 n0 v U'.heap L ∧ FrameEnd U o U' L ({ frames := 0, cells := 0, slots := 0, locals := 0 } : Room).cells ({ frames := 0, cells := 0, slots := 0, locals := 0 } : Room).slots) := by
  refine MetFree.of_bodySF (plainFor_of_name pn_2) hisR ?_
  intro p e s m args below meth c s₁ Bd hml0 hP hK
  obtain ⟨rfl, hZ, hh⟩ := hP
  have hx := Bd.exec
  have hby := Bd.bytes
  have hml : c.maxLocals = 2 := hml0
  have hown : s.vm.findClass "com/example/ringstead/ringstead/node/TypeOfPinLaw" = some m.cls := findClass_of_methodNamed Bd.named
  have hnm := (name_of_methodNamed Bd.named Bd.method).1
  have X0 : Stand p l e ({ frames := 0, cells := 0, slots := 0, locals := 0 } : Room) s m #[(.int (0 : Int32)), (.int (204 : Int32))] below meth c s₁ [] 0 0 := Stand.of_body Bd
  have e0 : s₁.heap = h0 := by rw [← hh, Bd.state]; rfl
  have N0 := Fr.nil n0
  have pre0 : ∀ t, Steps p.tables e below (s₁.setTop (mkF m 0 #[.val (.int (0 : Int32)), .val (.int (204 : Int32))] [])) t → Steps p.tables e below (s₁.setTop (entryFrame m #[(.int (0 : Int32)), (.int (204 : Int32))] 2)) t := fun t k => castTop (ef_rm3_6 m ) k
  obtain ⟨T3, X3, e3, st3⟩ := getS2 X0 hx hZ hown (host := "") (Or.inl (hw _ (gw 30 rfl))) Via.refl e0 (Sta.ext O0.2 S_2) (g := (mkF m 18 #[.val (.int (0 : Int32)), .val (.int (204 : Int32))] [])) rfl (hb hby d3_18)
  obtain ⟨fs, hr, hrun, hended, hW, hsame⟩ := X3.leave (v := some (.ref a1)) (fun h => by rw [Bd.returns] at h; cases h)
  refine ⟨_, _, pre0 _ ?_, hrun, hended, _, _, rfl, ?_, ⟨_, rfl⟩, hW, hsame.mono (by decide) (by decide)⟩
  · show Steps p.tables e below (s₁.setTop (mkF m 0 #[.val (.int (0 : Int32)), .val (.int (204 : Int32))] [])) _
    refine XS.iloadN X0.here hx rfl (hb hby d3_0) rfl ?_
    show Steps p.tables e below (s₁.setTop (mkF m 1 #[.val (.int (0 : Int32)), .val (.int (204 : Int32))] [(.int (204 : Int32))])) _
    refine XS.sipush X0.here hx rfl (hb hby d3_1) ?_
    show Steps p.tables e below (s₁.setTop (mkF m 4 #[.val (.int (0 : Int32)), .val (.int (204 : Int32))] [(.int (204 : Int32)), (.int (204 : Int32))])) _
    refine XS.icmpNo X0.here hx rfl (hb hby d3_4) rfl (teq (by decide +kernel : (204 : Int32) = (204 : Int32))).2 ?_
    show Steps p.tables e below (s₁.setTop (mkF m 7 #[.val (.int (0 : Int32)), .val (.int (204 : Int32))] [])) _
    refine XS.iloadN X0.here hx rfl (hb hby d3_7) rfl ?_
    show Steps p.tables e below (s₁.setTop (mkF m 8 #[.val (.int (0 : Int32)), .val (.int (204 : Int32))] [(.int (0 : Int32))])) _
    refine XS.iconst X0.here hx rfl (hb hby d3_8) ?_
    show Steps p.tables e below (s₁.setTop (mkF m 9 #[.val (.int (0 : Int32)), .val (.int (204 : Int32))] [(.int (1 : Int32)), (.int (0 : Int32))])) _
    refine XS.icmpYes X0.here hx rfl (pc0 := 9) (pc' := 18) rfl (hb hby d3_9) rfl (feq (by decide +kernel : ¬ ((0 : Int32) = (1 : Int32)))).2 (by decide) (by decide) ?_
    show Steps p.tables e below (s₁.setTop (mkF m 18 #[.val (.int (0 : Int32)), .val (.int (204 : Int32))] [])) _
    refine st3 _ ?_
    show Steps p.tables e below (T3.setTop (mkF m 21 #[.val (.int (0 : Int32)), .val (.int (204 : Int32))] [(.ref a1)])) _
    jvm_step X3.here [X3.here.top, hx, (hb hby d3_21), X3.method', Bd.returns, Value.isRef, FieldType.isReference]
    first | (intro acts; rw [hr _ acts rfl rfl rfl]) | rw [hr _ _ rfl rfl rfl]
    exact Steps.refl _
  · show Q3_6 Z _ h0 n0 _ T3.heap _
    rw [e3]
    exact ⟨rfl, N0, rfl⟩
theorem ef_rm1_7 (m : MethodId) (x0 : Addr) : entryFrame m #[(.ref x0), (.int (404 : Int32))] 4 = mkF m 0 #[.val (.ref x0), .val (.int (404 : Int32)), .unset, .unset] [] := by first | (simp [entryFrame, mkF, argsToLocals, Value.category]; done) | rfl
def Q1_7 (Z : State) (a1 : Addr) (a8 : Addr) (h0 : Heap) (n0 : Nat) (v : Option Value) (h : Heap) (L : List Loc) : Prop := (v = some (.ref a8) ∧ Fr n0 L ∧ h = h0)
set_option maxRecDepth 65536 in
set_option maxHeartbeats 40000000 in
theorem rm1_7 (l : Launch) (Z : State) (a0 : Array Value) (hw : ∀ d ∈ own_ws, d.before a0 Z = true) (ws : List Jvm.Cond) (a1 : Addr) (a8 : Addr) (h0 : Heap) (n0 : Nat) (O0 : Old Z n0 h0) (E_2 : Exa Z Z.heap a1 "com/example/ringstead/ringstead/node/History$Operation") (F3 : Fld Z Z.heap a1 "java/lang/Enum" "ordinal" "I" (.int (0 : Int32))) (S_9 : Sta Z Z.heap "com/example/ringstead/ringstead/node/History$Type" "INFO" "Lcom/example/ringstead/ringstead/node/History$Type;" (.ref a8)) :
    MetFree l M_2 (head1 (Jvm.Cond.code M_2 prog_19_method_5_code 4 (some (.object "com/example/ringstead/ringstead/node/History$Type")) :: ws) ({ frames := 1, cells := 0, slots := 0, locals := 12 } : Room)) (fun a U => a = #[(.ref a1), (.int (404 : Int32))] ∧ Z.Warmed39 U.vm ∧ U.heap = h0) (fun _ _ _ _ _ => True) (fun _ U o U' => ∃ v L, o = .returned v ∧ Q1_7 Z a1 a8 h0 n0 v U'.heap L ∧ FrameEnd U o U' L ({ frames := 1, cells := 0, slots := 0, locals := 12 } : Room).cells ({ frames := 1, cells := 0, slots := 0, locals := 12 } : Room).slots) := by
  refine MetFree.of_bodySF (plainFor_of_name pn_1) hisR ?_
  intro p e s m args below meth c s₁ Bd hml0 hP hK
  obtain ⟨rfl, hZ, hh⟩ := hP
  have hx := Bd.exec
  have hby := Bd.bytes
  have hml : c.maxLocals = 4 := hml0
  have hown : s.vm.findClass "com/example/ringstead/ringstead/node/History$Type" = some m.cls := findClass_of_methodNamed Bd.named
  have hnm := (name_of_methodNamed Bd.named Bd.method).1
  have X0 : Stand p l e ({ frames := 1, cells := 0, slots := 0, locals := 12 } : Room) s m #[(.ref a1), (.int (404 : Int32))] below meth c s₁ [] 0 0 := Stand.of_body Bd
  have e0 : s₁.heap = h0 := by rw [← hh, Bd.state]; rfl
  have N0 := Fr.nil n0
  have pre0 : ∀ t, Steps p.tables e below (s₁.setTop (mkF m 0 #[.val (.ref a1), .val (.int (404 : Int32)), .unset, .unset] [])) t → Steps p.tables e below (s₁.setTop (entryFrame m #[(.ref a1), (.int (404 : Int32))] 4)) t := fun t k => castTop (ef_rm1_7 m a1) k
  obtain ⟨cq4, kq4, q4a, q4b, q4c⟩ := isOf hZ e0 (Exa.ext O0.2 E_2)
  obtain ⟨_, _, ⟨T4, L4, k4, n4⟩, -, X4, ⟨Lc4, hQ4, l4, y4, z4⟩, st4⟩ := X0.virtualBackUp hx (owner := "java/lang/Enum") (x := M_1) (y := M_0) hown (mvT hZ (hw _ (gw 8 rfl))) (mvT hZ (hw _ (gw 9 rfl))) (mvT hZ (hw _ (gw 10 rfl))) (by decide) (mvT hZ (hw _ (gw 12 rfl))) (mvT hZ (hw _ (gw 11 rfl))) (backOf (W := 0) (rm2_3 l Z a0 hw [] a1 h0 n0  O0 F3) hZ (hw _ (gw 14 rfl)) (hw _ (gw 13 rfl)) (by decide) (by decide)) q4a q4c (g := (mkF m 1 #[.val (.ref a1), .val (.int (404 : Int32)), .unset, .unset] [(.ref a1)])) rfl (by rw [hml]; rfl) (Steps.refl _) (argsL := []) (rest := []) (lenOf pd_0 rfl) rfl (by show 2 * 0 + _ ≤ _; exact Nat.le_of_eq rfl) (hb hby d1_1) (fun _ _ => ⟨rfl, e0, (by decide : 0 + 0 ≤ _), (by decide : 0 + 0 ≤ _)⟩)
  dsimp only [Pt.U, Pt.locs, Pt.cells, Pt.slots] at X4 l4 y4 z4 st4 hQ4
  subst l4 y4 z4
  obtain ⟨rfl, u6, u7⟩ := hQ4
  have N4 := Fr.app N0 u6
  obtain ⟨T10, X10, e10, st10⟩ := getS2 X4 hx hZ hown (host := "") (Or.inl (hw _ (gw 31 rfl))) Via.refl u7 (Sta.ext O0.2 S_9) (g := (mkF m 131 #[.val (.ref a1), .val (.int (404 : Int32)), .val (.int (0 : Int32)), .unset] [])) rfl (hb hby d1_131)
  obtain ⟨fs, hr, hrun, hended, hW, hsame⟩ := X10.leave (v := some (.ref a8)) (fun h => by rw [Bd.returns] at h; cases h)
  refine ⟨_, _, pre0 _ ?_, hrun, hended, _, _, rfl, ?_, ⟨_, rfl⟩, hW, hsame.mono (by decide) (by decide)⟩
  · show Steps p.tables e below (s₁.setTop (mkF m 0 #[.val (.ref a1), .val (.int (404 : Int32)), .unset, .unset] [])) _
    refine XS.aloadN X0.here hx rfl (hb hby d1_0) rfl rfl ?_
    show Steps p.tables e below (s₁.setTop (mkF m 1 #[.val (.ref a1), .val (.int (404 : Int32)), .unset, .unset] [(.ref a1)])) _
    refine st4.trans ?_
    show Steps p.tables e below (T4.setTop (mkF m 4 #[.val (.ref a1), .val (.int (404 : Int32)), .unset, .unset] [(.int (0 : Int32))])) _
    refine XS.tswIn X4.here hx rfl (pc0 := 4) (pc' := 42) rfl (hb hby d1_4) rfl (by decide) (o := 38) rfl (by decide) (by decide) ?_
    show Steps p.tables e below (T4.setTop (mkF m 42 #[.val (.ref a1), .val (.int (404 : Int32)), .unset, .unset] [])) _
    refine XS.iloadN X4.here hx rfl (hb hby d1_42) rfl ?_
    show Steps p.tables e below (T4.setTop (mkF m 43 #[.val (.ref a1), .val (.int (404 : Int32)), .unset, .unset] [(.int (404 : Int32))])) _
    refine XS.sipush X4.here hx rfl (hb hby d1_43) ?_
    show Steps p.tables e below (T4.setTop (mkF m 46 #[.val (.ref a1), .val (.int (404 : Int32)), .unset, .unset] [(.int (204 : Int32)), (.int (404 : Int32))])) _
    refine XS.icmpYes X4.here hx rfl (pc0 := 46) (pc' := 53) rfl (hb hby d1_46) rfl (feq (by decide +kernel : ¬ ((404 : Int32) = (204 : Int32)))).2 (by decide) (by decide) ?_
    show Steps p.tables e below (T4.setTop (mkF m 53 #[.val (.ref a1), .val (.int (404 : Int32)), .unset, .unset] [])) _
    refine XS.iconst X4.here hx rfl (hb hby d1_53) ?_
    show Steps p.tables e below (T4.setTop (mkF m 54 #[.val (.ref a1), .val (.int (404 : Int32)), .unset, .unset] [(.int (0 : Int32))])) _
    refine XS.goto X4.here hx rfl (pc0 := 54) (pc' := 98) rfl (hb hby d1_54) (by decide) (by decide) ?_
    show Steps p.tables e below (T4.setTop (mkF m 98 #[.val (.ref a1), .val (.int (404 : Int32)), .unset, .unset] [(.int (0 : Int32))])) _
    refine XS.istoreN X4.here hx rfl (hb hby d1_98) rfl (l' := #[.val (.ref a1), .val (.int (404 : Int32)), .val (.int (0 : Int32)), .unset]) rfl ?_
    show Steps p.tables e below (T4.setTop (mkF m 99 #[.val (.ref a1), .val (.int (404 : Int32)), .val (.int (0 : Int32)), .unset] [])) _
    refine XS.iloadN X4.here hx rfl (hb hby d1_99) rfl ?_
    show Steps p.tables e below (T4.setTop (mkF m 100 #[.val (.ref a1), .val (.int (404 : Int32)), .val (.int (0 : Int32)), .unset] [(.int (0 : Int32))])) _
    refine XS.ifYes X4.here hx rfl (pc0 := 100) (pc' := 110) rfl (hb hby d1_100) rfl ((if0 _ _).trans (teq (by decide +kernel : (0 : Int32) = (0 : Int32))).1) (by decide) (by decide) ?_
    show Steps p.tables e below (T4.setTop (mkF m 110 #[.val (.ref a1), .val (.int (404 : Int32)), .val (.int (0 : Int32)), .unset] [])) _
    refine XS.iloadN X4.here hx rfl (hb hby d1_110) rfl ?_
    show Steps p.tables e below (T4.setTop (mkF m 111 #[.val (.ref a1), .val (.int (404 : Int32)), .val (.int (0 : Int32)), .unset] [(.int (404 : Int32))])) _
    refine XS.sipush X4.here hx rfl (hb hby d1_111) ?_
    show Steps p.tables e below (T4.setTop (mkF m 114 #[.val (.ref a1), .val (.int (404 : Int32)), .val (.int (0 : Int32)), .unset] [(.int (400 : Int32)), (.int (404 : Int32))])) _
    refine XS.icmpNo X4.here hx rfl (hb hby d1_114) rfl (feq (by decide +kernel : ¬ ((404 : Int32) = (400 : Int32)))).1 ?_
    show Steps p.tables e below (T4.setTop (mkF m 117 #[.val (.ref a1), .val (.int (404 : Int32)), .val (.int (0 : Int32)), .unset] [])) _
    refine XS.iloadN X4.here hx rfl (hb hby d1_117) rfl ?_
    show Steps p.tables e below (T4.setTop (mkF m 118 #[.val (.ref a1), .val (.int (404 : Int32)), .val (.int (0 : Int32)), .unset] [(.int (404 : Int32))])) _
    refine XS.sipush X4.here hx rfl (hb hby d1_118) ?_
    show Steps p.tables e below (T4.setTop (mkF m 121 #[.val (.ref a1), .val (.int (404 : Int32)), .val (.int (0 : Int32)), .unset] [(.int (413 : Int32)), (.int (404 : Int32))])) _
    refine XS.icmpYes X4.here hx rfl (pc0 := 121) (pc' := 131) rfl (hb hby d1_121) rfl (feq (by decide +kernel : ¬ ((404 : Int32) = (413 : Int32)))).2 (by decide) (by decide) ?_
    show Steps p.tables e below (T4.setTop (mkF m 131 #[.val (.ref a1), .val (.int (404 : Int32)), .val (.int (0 : Int32)), .unset] [])) _
    refine st10 _ ?_
    show Steps p.tables e below (T10.setTop (mkF m 134 #[.val (.ref a1), .val (.int (404 : Int32)), .val (.int (0 : Int32)), .unset] [(.ref a8)])) _
    refine XS.astoreN X10.here hx rfl (hb hby d1_134) rfl rfl (l' := #[.val (.ref a1), .val (.int (404 : Int32)), .val (.int (0 : Int32)), .val (.ref a8)]) rfl ?_
    show Steps p.tables e below (T10.setTop (mkF m 135 #[.val (.ref a1), .val (.int (404 : Int32)), .val (.int (0 : Int32)), .val (.ref a8)] [])) _
    refine XS.aloadN X10.here hx rfl (hb hby d1_135) rfl rfl ?_
    show Steps p.tables e below (T10.setTop (mkF m 136 #[.val (.ref a1), .val (.int (404 : Int32)), .val (.int (0 : Int32)), .val (.ref a8)] [(.ref a8)])) _
    jvm_step X10.here [X10.here.top, hx, (hb hby d1_136), X10.method', Bd.returns, Value.isRef, FieldType.isReference]
    first | (intro acts; rw [hr _ acts rfl rfl rfl]) | rw [hr _ _ rfl rfl rfl]
    exact Steps.refl _
  · show Q1_7 Z _ _ h0 n0 _ T10.heap _
    rw [e10]
    exact ⟨rfl, N4, rfl⟩
theorem ef_rm3_8 (m : MethodId)  : entryFrame m #[(.int (0 : Int32)), (.int (404 : Int32))] 2 = mkF m 0 #[.val (.int (0 : Int32)), .val (.int (404 : Int32))] [] := by first | (simp [entryFrame, mkF, argsToLocals, Value.category]; done) | rfl
def Q3_8 (Z : State) (a1 : Addr) (h0 : Heap) (n0 : Nat) (v : Option Value) (h : Heap) (L : List Loc) : Prop := (v = some (.ref a1) ∧ Fr n0 L ∧ h = h0)
set_option maxRecDepth 65536 in
set_option maxHeartbeats 40000000 in
theorem rm3_8 (l : Launch) (Z : State) (a0 : Array Value) (hw : ∀ d ∈ own_ws, d.before a0 Z = true) (ws : List Jvm.Cond) (a1 : Addr) (h0 : Heap) (n0 : Nat) (O0 : Old Z n0 h0) (S_2 : Sta Z Z.heap "com/example/ringstead/ringstead/node/History$Type" "INFO" "Lcom/example/ringstead/ringstead/node/History$Type;" (.ref a1)) :
    MetFree l M_3 (head1 (Jvm.Cond.code M_3 method_2_code 2 (some (.object "com/example/ringstead/ringstead/node/History$Type")) :: ws) ({ frames := 0, cells := 0, slots := 0, locals := 0 } : Room)) (fun a U => a = #[(.int (0 : Int32)), (.int (404 : Int32))] ∧ Z.Warmed39 U.vm ∧ U.heap = h0) (fun _ _ _ _ _ => True) (fun _ U o U' => ∃ v L, o = .returned v ∧ Q3_8 Z a1 h0 n0 v U'.heap L ∧ FrameEnd U o U' L ({ frames := 0, cells := 0, slots := 0, locals := 0 } : Room).cells ({ frames := 0, cells := 0, slots := 0, locals := 0 } : Room).slots) := by
  refine MetFree.of_bodySF (plainFor_of_name pn_2) hisR ?_
  intro p e s m args below meth c s₁ Bd hml0 hP hK
  obtain ⟨rfl, hZ, hh⟩ := hP
  have hx := Bd.exec
  have hby := Bd.bytes
  have hml : c.maxLocals = 2 := hml0
  have hown : s.vm.findClass "com/example/ringstead/ringstead/node/TypeOfPinLaw" = some m.cls := findClass_of_methodNamed Bd.named
  have hnm := (name_of_methodNamed Bd.named Bd.method).1
  have X0 : Stand p l e ({ frames := 0, cells := 0, slots := 0, locals := 0 } : Room) s m #[(.int (0 : Int32)), (.int (404 : Int32))] below meth c s₁ [] 0 0 := Stand.of_body Bd
  have e0 : s₁.heap = h0 := by rw [← hh, Bd.state]; rfl
  have N0 := Fr.nil n0
  have pre0 : ∀ t, Steps p.tables e below (s₁.setTop (mkF m 0 #[.val (.int (0 : Int32)), .val (.int (404 : Int32))] [])) t → Steps p.tables e below (s₁.setTop (entryFrame m #[(.int (0 : Int32)), (.int (404 : Int32))] 2)) t := fun t k => castTop (ef_rm3_8 m ) k
  obtain ⟨T3, X3, e3, st3⟩ := getS2 X0 hx hZ hown (host := "") (Or.inl (hw _ (gw 33 rfl))) Via.refl e0 (Sta.ext O0.2 S_2) (g := (mkF m 55 #[.val (.int (0 : Int32)), .val (.int (404 : Int32))] [])) rfl (hb hby d3_55)
  obtain ⟨fs, hr, hrun, hended, hW, hsame⟩ := X3.leave (v := some (.ref a1)) (fun h => by rw [Bd.returns] at h; cases h)
  refine ⟨_, _, pre0 _ ?_, hrun, hended, _, _, rfl, ?_, ⟨_, rfl⟩, hW, hsame.mono (by decide) (by decide)⟩
  · show Steps p.tables e below (s₁.setTop (mkF m 0 #[.val (.int (0 : Int32)), .val (.int (404 : Int32))] [])) _
    refine XS.iloadN X0.here hx rfl (hb hby d3_0) rfl ?_
    show Steps p.tables e below (s₁.setTop (mkF m 1 #[.val (.int (0 : Int32)), .val (.int (404 : Int32))] [(.int (404 : Int32))])) _
    refine XS.sipush X0.here hx rfl (hb hby d3_1) ?_
    show Steps p.tables e below (s₁.setTop (mkF m 4 #[.val (.int (0 : Int32)), .val (.int (404 : Int32))] [(.int (204 : Int32)), (.int (404 : Int32))])) _
    refine XS.icmpYes X0.here hx rfl (pc0 := 4) (pc' := 22) rfl (hb hby d3_4) rfl (feq (by decide +kernel : ¬ ((404 : Int32) = (204 : Int32)))).2 (by decide) (by decide) ?_
    show Steps p.tables e below (s₁.setTop (mkF m 22 #[.val (.int (0 : Int32)), .val (.int (404 : Int32))] [])) _
    refine XS.iloadN X0.here hx rfl (hb hby d3_22) rfl ?_
    show Steps p.tables e below (s₁.setTop (mkF m 23 #[.val (.int (0 : Int32)), .val (.int (404 : Int32))] [(.int (404 : Int32))])) _
    refine XS.sipush X0.here hx rfl (hb hby d3_23) ?_
    show Steps p.tables e below (s₁.setTop (mkF m 26 #[.val (.int (0 : Int32)), .val (.int (404 : Int32))] [(.int (200 : Int32)), (.int (404 : Int32))])) _
    refine XS.icmpYes X0.here hx rfl (pc0 := 26) (pc' := 44) rfl (hb hby d3_26) rfl (feq (by decide +kernel : ¬ ((404 : Int32) = (200 : Int32)))).2 (by decide) (by decide) ?_
    show Steps p.tables e below (s₁.setTop (mkF m 44 #[.val (.int (0 : Int32)), .val (.int (404 : Int32))] [])) _
    refine XS.iloadN X0.here hx rfl (hb hby d3_44) rfl ?_
    show Steps p.tables e below (s₁.setTop (mkF m 45 #[.val (.int (0 : Int32)), .val (.int (404 : Int32))] [(.int (404 : Int32))])) _
    refine XS.sipush X0.here hx rfl (hb hby d3_45) ?_
    show Steps p.tables e below (s₁.setTop (mkF m 48 #[.val (.int (0 : Int32)), .val (.int (404 : Int32))] [(.int (404 : Int32)), (.int (404 : Int32))])) _
    refine XS.icmpNo X0.here hx rfl (hb hby d3_48) rfl (teq (by decide +kernel : (404 : Int32) = (404 : Int32))).2 ?_
    show Steps p.tables e below (s₁.setTop (mkF m 51 #[.val (.int (0 : Int32)), .val (.int (404 : Int32))] [])) _
    refine XS.iloadN X0.here hx rfl (hb hby d3_51) rfl ?_
    show Steps p.tables e below (s₁.setTop (mkF m 52 #[.val (.int (0 : Int32)), .val (.int (404 : Int32))] [(.int (0 : Int32))])) _
    refine XS.ifNo X0.here hx rfl (hb hby d3_52) rfl ((if0 _ _).trans (teq (by decide +kernel : (0 : Int32) = (0 : Int32))).2) ?_
    show Steps p.tables e below (s₁.setTop (mkF m 55 #[.val (.int (0 : Int32)), .val (.int (404 : Int32))] [])) _
    refine st3 _ ?_
    show Steps p.tables e below (T3.setTop (mkF m 58 #[.val (.int (0 : Int32)), .val (.int (404 : Int32))] [(.ref a1)])) _
    refine XS.goto X3.here hx rfl (pc0 := 58) (pc' := 64) rfl (hb hby d3_58) (by decide) (by decide) ?_
    show Steps p.tables e below (T3.setTop (mkF m 64 #[.val (.int (0 : Int32)), .val (.int (404 : Int32))] [(.ref a1)])) _
    jvm_step X3.here [X3.here.top, hx, (hb hby d3_64), X3.method', Bd.returns, Value.isRef, FieldType.isReference]
    first | (intro acts; rw [hr _ acts rfl rfl rfl]) | rw [hr _ _ rfl rfl rfl]
    exact Steps.refl _
  · show Q3_8 Z _ h0 n0 _ T3.heap _
    rw [e3]
    exact ⟨rfl, N0, rfl⟩
theorem ef_rm1_9 (m : MethodId) (x0 : Addr) : entryFrame m #[(.ref x0), (.int (400 : Int32))] 4 = mkF m 0 #[.val (.ref x0), .val (.int (400 : Int32)), .unset, .unset] [] := by first | (simp [entryFrame, mkF, argsToLocals, Value.category]; done) | rfl
def Q1_9 (Z : State) (a1 : Addr) (a8 : Addr) (h0 : Heap) (n0 : Nat) (v : Option Value) (h : Heap) (L : List Loc) : Prop := (v = some (.ref a8) ∧ Fr n0 L ∧ h = h0)
set_option maxRecDepth 65536 in
set_option maxHeartbeats 40000000 in
theorem rm1_9 (l : Launch) (Z : State) (a0 : Array Value) (hw : ∀ d ∈ own_ws, d.before a0 Z = true) (ws : List Jvm.Cond) (a1 : Addr) (a8 : Addr) (h0 : Heap) (n0 : Nat) (O0 : Old Z n0 h0) (E_2 : Exa Z Z.heap a1 "com/example/ringstead/ringstead/node/History$Operation") (F3 : Fld Z Z.heap a1 "java/lang/Enum" "ordinal" "I" (.int (0 : Int32))) (S_9 : Sta Z Z.heap "com/example/ringstead/ringstead/node/History$Type" "FAIL" "Lcom/example/ringstead/ringstead/node/History$Type;" (.ref a8)) :
    MetFree l M_2 (head1 (Jvm.Cond.code M_2 prog_19_method_5_code 4 (some (.object "com/example/ringstead/ringstead/node/History$Type")) :: ws) ({ frames := 1, cells := 0, slots := 0, locals := 12 } : Room)) (fun a U => a = #[(.ref a1), (.int (400 : Int32))] ∧ Z.Warmed39 U.vm ∧ U.heap = h0) (fun _ _ _ _ _ => True) (fun _ U o U' => ∃ v L, o = .returned v ∧ Q1_9 Z a1 a8 h0 n0 v U'.heap L ∧ FrameEnd U o U' L ({ frames := 1, cells := 0, slots := 0, locals := 12 } : Room).cells ({ frames := 1, cells := 0, slots := 0, locals := 12 } : Room).slots) := by
  refine MetFree.of_bodySF (plainFor_of_name pn_1) hisR ?_
  intro p e s m args below meth c s₁ Bd hml0 hP hK
  obtain ⟨rfl, hZ, hh⟩ := hP
  have hx := Bd.exec
  have hby := Bd.bytes
  have hml : c.maxLocals = 4 := hml0
  have hown : s.vm.findClass "com/example/ringstead/ringstead/node/History$Type" = some m.cls := findClass_of_methodNamed Bd.named
  have hnm := (name_of_methodNamed Bd.named Bd.method).1
  have X0 : Stand p l e ({ frames := 1, cells := 0, slots := 0, locals := 12 } : Room) s m #[(.ref a1), (.int (400 : Int32))] below meth c s₁ [] 0 0 := Stand.of_body Bd
  have e0 : s₁.heap = h0 := by rw [← hh, Bd.state]; rfl
  have N0 := Fr.nil n0
  have pre0 : ∀ t, Steps p.tables e below (s₁.setTop (mkF m 0 #[.val (.ref a1), .val (.int (400 : Int32)), .unset, .unset] [])) t → Steps p.tables e below (s₁.setTop (entryFrame m #[(.ref a1), (.int (400 : Int32))] 4)) t := fun t k => castTop (ef_rm1_9 m a1) k
  obtain ⟨cq4, kq4, q4a, q4b, q4c⟩ := isOf hZ e0 (Exa.ext O0.2 E_2)
  obtain ⟨_, _, ⟨T4, L4, k4, n4⟩, -, X4, ⟨Lc4, hQ4, l4, y4, z4⟩, st4⟩ := X0.virtualBackUp hx (owner := "java/lang/Enum") (x := M_1) (y := M_0) hown (mvT hZ (hw _ (gw 8 rfl))) (mvT hZ (hw _ (gw 9 rfl))) (mvT hZ (hw _ (gw 10 rfl))) (by decide) (mvT hZ (hw _ (gw 12 rfl))) (mvT hZ (hw _ (gw 11 rfl))) (backOf (W := 0) (rm2_3 l Z a0 hw [] a1 h0 n0  O0 F3) hZ (hw _ (gw 14 rfl)) (hw _ (gw 13 rfl)) (by decide) (by decide)) q4a q4c (g := (mkF m 1 #[.val (.ref a1), .val (.int (400 : Int32)), .unset, .unset] [(.ref a1)])) rfl (by rw [hml]; rfl) (Steps.refl _) (argsL := []) (rest := []) (lenOf pd_0 rfl) rfl (by show 2 * 0 + _ ≤ _; exact Nat.le_of_eq rfl) (hb hby d1_1) (fun _ _ => ⟨rfl, e0, (by decide : 0 + 0 ≤ _), (by decide : 0 + 0 ≤ _)⟩)
  dsimp only [Pt.U, Pt.locs, Pt.cells, Pt.slots] at X4 l4 y4 z4 st4 hQ4
  subst l4 y4 z4
  obtain ⟨rfl, u6, u7⟩ := hQ4
  have N4 := Fr.app N0 u6
  obtain ⟨T10, X10, e10, st10⟩ := getS2 X4 hx hZ hown (host := "") (Or.inl (hw _ (gw 17 rfl))) Via.refl u7 (Sta.ext O0.2 S_9) (g := (mkF m 124 #[.val (.ref a1), .val (.int (400 : Int32)), .val (.int (0 : Int32)), .unset] [])) rfl (hb hby d1_124)
  obtain ⟨fs, hr, hrun, hended, hW, hsame⟩ := X10.leave (v := some (.ref a8)) (fun h => by rw [Bd.returns] at h; cases h)
  refine ⟨_, _, pre0 _ ?_, hrun, hended, _, _, rfl, ?_, ⟨_, rfl⟩, hW, hsame.mono (by decide) (by decide)⟩
  · show Steps p.tables e below (s₁.setTop (mkF m 0 #[.val (.ref a1), .val (.int (400 : Int32)), .unset, .unset] [])) _
    refine XS.aloadN X0.here hx rfl (hb hby d1_0) rfl rfl ?_
    show Steps p.tables e below (s₁.setTop (mkF m 1 #[.val (.ref a1), .val (.int (400 : Int32)), .unset, .unset] [(.ref a1)])) _
    refine st4.trans ?_
    show Steps p.tables e below (T4.setTop (mkF m 4 #[.val (.ref a1), .val (.int (400 : Int32)), .unset, .unset] [(.int (0 : Int32))])) _
    refine XS.tswIn X4.here hx rfl (pc0 := 4) (pc' := 42) rfl (hb hby d1_4) rfl (by decide) (o := 38) rfl (by decide) (by decide) ?_
    show Steps p.tables e below (T4.setTop (mkF m 42 #[.val (.ref a1), .val (.int (400 : Int32)), .unset, .unset] [])) _
    refine XS.iloadN X4.here hx rfl (hb hby d1_42) rfl ?_
    show Steps p.tables e below (T4.setTop (mkF m 43 #[.val (.ref a1), .val (.int (400 : Int32)), .unset, .unset] [(.int (400 : Int32))])) _
    refine XS.sipush X4.here hx rfl (hb hby d1_43) ?_
    show Steps p.tables e below (T4.setTop (mkF m 46 #[.val (.ref a1), .val (.int (400 : Int32)), .unset, .unset] [(.int (204 : Int32)), (.int (400 : Int32))])) _
    refine XS.icmpYes X4.here hx rfl (pc0 := 46) (pc' := 53) rfl (hb hby d1_46) rfl (feq (by decide +kernel : ¬ ((400 : Int32) = (204 : Int32)))).2 (by decide) (by decide) ?_
    show Steps p.tables e below (T4.setTop (mkF m 53 #[.val (.ref a1), .val (.int (400 : Int32)), .unset, .unset] [])) _
    refine XS.iconst X4.here hx rfl (hb hby d1_53) ?_
    show Steps p.tables e below (T4.setTop (mkF m 54 #[.val (.ref a1), .val (.int (400 : Int32)), .unset, .unset] [(.int (0 : Int32))])) _
    refine XS.goto X4.here hx rfl (pc0 := 54) (pc' := 98) rfl (hb hby d1_54) (by decide) (by decide) ?_
    show Steps p.tables e below (T4.setTop (mkF m 98 #[.val (.ref a1), .val (.int (400 : Int32)), .unset, .unset] [(.int (0 : Int32))])) _
    refine XS.istoreN X4.here hx rfl (hb hby d1_98) rfl (l' := #[.val (.ref a1), .val (.int (400 : Int32)), .val (.int (0 : Int32)), .unset]) rfl ?_
    show Steps p.tables e below (T4.setTop (mkF m 99 #[.val (.ref a1), .val (.int (400 : Int32)), .val (.int (0 : Int32)), .unset] [])) _
    refine XS.iloadN X4.here hx rfl (hb hby d1_99) rfl ?_
    show Steps p.tables e below (T4.setTop (mkF m 100 #[.val (.ref a1), .val (.int (400 : Int32)), .val (.int (0 : Int32)), .unset] [(.int (0 : Int32))])) _
    refine XS.ifYes X4.here hx rfl (pc0 := 100) (pc' := 110) rfl (hb hby d1_100) rfl ((if0 _ _).trans (teq (by decide +kernel : (0 : Int32) = (0 : Int32))).1) (by decide) (by decide) ?_
    show Steps p.tables e below (T4.setTop (mkF m 110 #[.val (.ref a1), .val (.int (400 : Int32)), .val (.int (0 : Int32)), .unset] [])) _
    refine XS.iloadN X4.here hx rfl (hb hby d1_110) rfl ?_
    show Steps p.tables e below (T4.setTop (mkF m 111 #[.val (.ref a1), .val (.int (400 : Int32)), .val (.int (0 : Int32)), .unset] [(.int (400 : Int32))])) _
    refine XS.sipush X4.here hx rfl (hb hby d1_111) ?_
    show Steps p.tables e below (T4.setTop (mkF m 114 #[.val (.ref a1), .val (.int (400 : Int32)), .val (.int (0 : Int32)), .unset] [(.int (400 : Int32)), (.int (400 : Int32))])) _
    refine XS.icmpYes X4.here hx rfl (pc0 := 114) (pc' := 124) rfl (hb hby d1_114) rfl (teq (by decide +kernel : (400 : Int32) = (400 : Int32))).1 (by decide) (by decide) ?_
    show Steps p.tables e below (T4.setTop (mkF m 124 #[.val (.ref a1), .val (.int (400 : Int32)), .val (.int (0 : Int32)), .unset] [])) _
    refine st10 _ ?_
    show Steps p.tables e below (T10.setTop (mkF m 127 #[.val (.ref a1), .val (.int (400 : Int32)), .val (.int (0 : Int32)), .unset] [(.ref a8)])) _
    refine XS.astoreN X10.here hx rfl (hb hby d1_127) rfl rfl (l' := #[.val (.ref a1), .val (.int (400 : Int32)), .val (.int (0 : Int32)), .val (.ref a8)]) rfl ?_
    show Steps p.tables e below (T10.setTop (mkF m 128 #[.val (.ref a1), .val (.int (400 : Int32)), .val (.int (0 : Int32)), .val (.ref a8)] [])) _
    refine XS.goto X10.here hx rfl (pc0 := 128) (pc' := 135) rfl (hb hby d1_128) (by decide) (by decide) ?_
    show Steps p.tables e below (T10.setTop (mkF m 135 #[.val (.ref a1), .val (.int (400 : Int32)), .val (.int (0 : Int32)), .val (.ref a8)] [])) _
    refine XS.aloadN X10.here hx rfl (hb hby d1_135) rfl rfl ?_
    show Steps p.tables e below (T10.setTop (mkF m 136 #[.val (.ref a1), .val (.int (400 : Int32)), .val (.int (0 : Int32)), .val (.ref a8)] [(.ref a8)])) _
    jvm_step X10.here [X10.here.top, hx, (hb hby d1_136), X10.method', Bd.returns, Value.isRef, FieldType.isReference]
    first | (intro acts; rw [hr _ acts rfl rfl rfl]) | rw [hr _ _ rfl rfl rfl]
    exact Steps.refl _
  · show Q1_9 Z _ _ h0 n0 _ T10.heap _
    rw [e10]
    exact ⟨rfl, N4, rfl⟩
theorem ef_rm3_10 (m : MethodId)  : entryFrame m #[(.int (0 : Int32)), (.int (400 : Int32))] 2 = mkF m 0 #[.val (.int (0 : Int32)), .val (.int (400 : Int32))] [] := by first | (simp [entryFrame, mkF, argsToLocals, Value.category]; done) | rfl
def Q3_10 (Z : State) (a1 : Addr) (h0 : Heap) (n0 : Nat) (v : Option Value) (h : Heap) (L : List Loc) : Prop := (v = some (.ref a1) ∧ Fr n0 L ∧ h = h0)
set_option maxRecDepth 65536 in
set_option maxHeartbeats 40000000 in
theorem rm3_10 (l : Launch) (Z : State) (a0 : Array Value) (hw : ∀ d ∈ own_ws, d.before a0 Z = true) (ws : List Jvm.Cond) (a1 : Addr) (h0 : Heap) (n0 : Nat) (O0 : Old Z n0 h0) (S_2 : Sta Z Z.heap "com/example/ringstead/ringstead/node/History$Type" "FAIL" "Lcom/example/ringstead/ringstead/node/History$Type;" (.ref a1)) :
    MetFree l M_3 (head1 (Jvm.Cond.code M_3 method_2_code 2 (some (.object "com/example/ringstead/ringstead/node/History$Type")) :: ws) ({ frames := 0, cells := 0, slots := 0, locals := 0 } : Room)) (fun a U => a = #[(.int (0 : Int32)), (.int (400 : Int32))] ∧ Z.Warmed39 U.vm ∧ U.heap = h0) (fun _ _ _ _ _ => True) (fun _ U o U' => ∃ v L, o = .returned v ∧ Q3_10 Z a1 h0 n0 v U'.heap L ∧ FrameEnd U o U' L ({ frames := 0, cells := 0, slots := 0, locals := 0 } : Room).cells ({ frames := 0, cells := 0, slots := 0, locals := 0 } : Room).slots) := by
  refine MetFree.of_bodySF (plainFor_of_name pn_2) hisR ?_
  intro p e s m args below meth c s₁ Bd hml0 hP hK
  obtain ⟨rfl, hZ, hh⟩ := hP
  have hx := Bd.exec
  have hby := Bd.bytes
  have hml : c.maxLocals = 2 := hml0
  have hown : s.vm.findClass "com/example/ringstead/ringstead/node/TypeOfPinLaw" = some m.cls := findClass_of_methodNamed Bd.named
  have hnm := (name_of_methodNamed Bd.named Bd.method).1
  have X0 : Stand p l e ({ frames := 0, cells := 0, slots := 0, locals := 0 } : Room) s m #[(.int (0 : Int32)), (.int (400 : Int32))] below meth c s₁ [] 0 0 := Stand.of_body Bd
  have e0 : s₁.heap = h0 := by rw [← hh, Bd.state]; rfl
  have N0 := Fr.nil n0
  have pre0 : ∀ t, Steps p.tables e below (s₁.setTop (mkF m 0 #[.val (.int (0 : Int32)), .val (.int (400 : Int32))] [])) t → Steps p.tables e below (s₁.setTop (entryFrame m #[(.int (0 : Int32)), (.int (400 : Int32))] 2)) t := fun t k => castTop (ef_rm3_10 m ) k
  obtain ⟨T3, X3, e3, st3⟩ := getS2 X0 hx hZ hown (host := "") (Or.inl (hw _ (gw 23 rfl))) Via.refl e0 (Sta.ext O0.2 S_2) (g := (mkF m 79 #[.val (.int (0 : Int32)), .val (.int (400 : Int32))] [])) rfl (hb hby d3_79)
  obtain ⟨fs, hr, hrun, hended, hW, hsame⟩ := X3.leave (v := some (.ref a1)) (fun h => by rw [Bd.returns] at h; cases h)
  refine ⟨_, _, pre0 _ ?_, hrun, hended, _, _, rfl, ?_, ⟨_, rfl⟩, hW, hsame.mono (by decide) (by decide)⟩
  · show Steps p.tables e below (s₁.setTop (mkF m 0 #[.val (.int (0 : Int32)), .val (.int (400 : Int32))] [])) _
    refine XS.iloadN X0.here hx rfl (hb hby d3_0) rfl ?_
    show Steps p.tables e below (s₁.setTop (mkF m 1 #[.val (.int (0 : Int32)), .val (.int (400 : Int32))] [(.int (400 : Int32))])) _
    refine XS.sipush X0.here hx rfl (hb hby d3_1) ?_
    show Steps p.tables e below (s₁.setTop (mkF m 4 #[.val (.int (0 : Int32)), .val (.int (400 : Int32))] [(.int (204 : Int32)), (.int (400 : Int32))])) _
    refine XS.icmpYes X0.here hx rfl (pc0 := 4) (pc' := 22) rfl (hb hby d3_4) rfl (feq (by decide +kernel : ¬ ((400 : Int32) = (204 : Int32)))).2 (by decide) (by decide) ?_
    show Steps p.tables e below (s₁.setTop (mkF m 22 #[.val (.int (0 : Int32)), .val (.int (400 : Int32))] [])) _
    refine XS.iloadN X0.here hx rfl (hb hby d3_22) rfl ?_
    show Steps p.tables e below (s₁.setTop (mkF m 23 #[.val (.int (0 : Int32)), .val (.int (400 : Int32))] [(.int (400 : Int32))])) _
    refine XS.sipush X0.here hx rfl (hb hby d3_23) ?_
    show Steps p.tables e below (s₁.setTop (mkF m 26 #[.val (.int (0 : Int32)), .val (.int (400 : Int32))] [(.int (200 : Int32)), (.int (400 : Int32))])) _
    refine XS.icmpYes X0.here hx rfl (pc0 := 26) (pc' := 44) rfl (hb hby d3_26) rfl (feq (by decide +kernel : ¬ ((400 : Int32) = (200 : Int32)))).2 (by decide) (by decide) ?_
    show Steps p.tables e below (s₁.setTop (mkF m 44 #[.val (.int (0 : Int32)), .val (.int (400 : Int32))] [])) _
    refine XS.iloadN X0.here hx rfl (hb hby d3_44) rfl ?_
    show Steps p.tables e below (s₁.setTop (mkF m 45 #[.val (.int (0 : Int32)), .val (.int (400 : Int32))] [(.int (400 : Int32))])) _
    refine XS.sipush X0.here hx rfl (hb hby d3_45) ?_
    show Steps p.tables e below (s₁.setTop (mkF m 48 #[.val (.int (0 : Int32)), .val (.int (400 : Int32))] [(.int (404 : Int32)), (.int (400 : Int32))])) _
    refine XS.icmpYes X0.here hx rfl (pc0 := 48) (pc' := 65) rfl (hb hby d3_48) rfl (feq (by decide +kernel : ¬ ((400 : Int32) = (404 : Int32)))).2 (by decide) (by decide) ?_
    show Steps p.tables e below (s₁.setTop (mkF m 65 #[.val (.int (0 : Int32)), .val (.int (400 : Int32))] [])) _
    refine XS.iloadN X0.here hx rfl (hb hby d3_65) rfl ?_
    show Steps p.tables e below (s₁.setTop (mkF m 66 #[.val (.int (0 : Int32)), .val (.int (400 : Int32))] [(.int (400 : Int32))])) _
    refine XS.sipush X0.here hx rfl (hb hby d3_66) ?_
    show Steps p.tables e below (s₁.setTop (mkF m 69 #[.val (.int (0 : Int32)), .val (.int (400 : Int32))] [(.int (400 : Int32)), (.int (400 : Int32))])) _
    refine XS.icmpYes X0.here hx rfl (pc0 := 69) (pc' := 79) rfl (hb hby d3_69) rfl (teq (by decide +kernel : (400 : Int32) = (400 : Int32))).1 (by decide) (by decide) ?_
    show Steps p.tables e below (s₁.setTop (mkF m 79 #[.val (.int (0 : Int32)), .val (.int (400 : Int32))] [])) _
    refine st3 _ ?_
    show Steps p.tables e below (T3.setTop (mkF m 82 #[.val (.int (0 : Int32)), .val (.int (400 : Int32))] [(.ref a1)])) _
    jvm_step X3.here [X3.here.top, hx, (hb hby d3_82), X3.method', Bd.returns, Value.isRef, FieldType.isReference]
    first | (intro acts; rw [hr _ acts rfl rfl rfl]) | rw [hr _ _ rfl rfl rfl]
    exact Steps.refl _
  · show Q3_10 Z _ h0 n0 _ T3.heap _
    rw [e3]
    exact ⟨rfl, N0, rfl⟩
theorem ef_rm1_11 (m : MethodId) (x0 : Addr) : entryFrame m #[(.ref x0), (.int (413 : Int32))] 4 = mkF m 0 #[.val (.ref x0), .val (.int (413 : Int32)), .unset, .unset] [] := by first | (simp [entryFrame, mkF, argsToLocals, Value.category]; done) | rfl
def Q1_11 (Z : State) (a1 : Addr) (a8 : Addr) (h0 : Heap) (n0 : Nat) (v : Option Value) (h : Heap) (L : List Loc) : Prop := (v = some (.ref a8) ∧ Fr n0 L ∧ h = h0)
set_option maxRecDepth 65536 in
set_option maxHeartbeats 40000000 in
theorem rm1_11 (l : Launch) (Z : State) (a0 : Array Value) (hw : ∀ d ∈ own_ws, d.before a0 Z = true) (ws : List Jvm.Cond) (a1 : Addr) (a8 : Addr) (h0 : Heap) (n0 : Nat) (O0 : Old Z n0 h0) (E_2 : Exa Z Z.heap a1 "com/example/ringstead/ringstead/node/History$Operation") (F3 : Fld Z Z.heap a1 "java/lang/Enum" "ordinal" "I" (.int (0 : Int32))) (S_9 : Sta Z Z.heap "com/example/ringstead/ringstead/node/History$Type" "FAIL" "Lcom/example/ringstead/ringstead/node/History$Type;" (.ref a8)) :
    MetFree l M_2 (head1 (Jvm.Cond.code M_2 prog_19_method_5_code 4 (some (.object "com/example/ringstead/ringstead/node/History$Type")) :: ws) ({ frames := 1, cells := 0, slots := 0, locals := 12 } : Room)) (fun a U => a = #[(.ref a1), (.int (413 : Int32))] ∧ Z.Warmed39 U.vm ∧ U.heap = h0) (fun _ _ _ _ _ => True) (fun _ U o U' => ∃ v L, o = .returned v ∧ Q1_11 Z a1 a8 h0 n0 v U'.heap L ∧ FrameEnd U o U' L ({ frames := 1, cells := 0, slots := 0, locals := 12 } : Room).cells ({ frames := 1, cells := 0, slots := 0, locals := 12 } : Room).slots) := by
  refine MetFree.of_bodySF (plainFor_of_name pn_1) hisR ?_
  intro p e s m args below meth c s₁ Bd hml0 hP hK
  obtain ⟨rfl, hZ, hh⟩ := hP
  have hx := Bd.exec
  have hby := Bd.bytes
  have hml : c.maxLocals = 4 := hml0
  have hown : s.vm.findClass "com/example/ringstead/ringstead/node/History$Type" = some m.cls := findClass_of_methodNamed Bd.named
  have hnm := (name_of_methodNamed Bd.named Bd.method).1
  have X0 : Stand p l e ({ frames := 1, cells := 0, slots := 0, locals := 12 } : Room) s m #[(.ref a1), (.int (413 : Int32))] below meth c s₁ [] 0 0 := Stand.of_body Bd
  have e0 : s₁.heap = h0 := by rw [← hh, Bd.state]; rfl
  have N0 := Fr.nil n0
  have pre0 : ∀ t, Steps p.tables e below (s₁.setTop (mkF m 0 #[.val (.ref a1), .val (.int (413 : Int32)), .unset, .unset] [])) t → Steps p.tables e below (s₁.setTop (entryFrame m #[(.ref a1), (.int (413 : Int32))] 4)) t := fun t k => castTop (ef_rm1_11 m a1) k
  obtain ⟨cq4, kq4, q4a, q4b, q4c⟩ := isOf hZ e0 (Exa.ext O0.2 E_2)
  obtain ⟨_, _, ⟨T4, L4, k4, n4⟩, -, X4, ⟨Lc4, hQ4, l4, y4, z4⟩, st4⟩ := X0.virtualBackUp hx (owner := "java/lang/Enum") (x := M_1) (y := M_0) hown (mvT hZ (hw _ (gw 8 rfl))) (mvT hZ (hw _ (gw 9 rfl))) (mvT hZ (hw _ (gw 10 rfl))) (by decide) (mvT hZ (hw _ (gw 12 rfl))) (mvT hZ (hw _ (gw 11 rfl))) (backOf (W := 0) (rm2_3 l Z a0 hw [] a1 h0 n0  O0 F3) hZ (hw _ (gw 14 rfl)) (hw _ (gw 13 rfl)) (by decide) (by decide)) q4a q4c (g := (mkF m 1 #[.val (.ref a1), .val (.int (413 : Int32)), .unset, .unset] [(.ref a1)])) rfl (by rw [hml]; rfl) (Steps.refl _) (argsL := []) (rest := []) (lenOf pd_0 rfl) rfl (by show 2 * 0 + _ ≤ _; exact Nat.le_of_eq rfl) (hb hby d1_1) (fun _ _ => ⟨rfl, e0, (by decide : 0 + 0 ≤ _), (by decide : 0 + 0 ≤ _)⟩)
  dsimp only [Pt.U, Pt.locs, Pt.cells, Pt.slots] at X4 l4 y4 z4 st4 hQ4
  subst l4 y4 z4
  obtain ⟨rfl, u6, u7⟩ := hQ4
  have N4 := Fr.app N0 u6
  obtain ⟨T10, X10, e10, st10⟩ := getS2 X4 hx hZ hown (host := "") (Or.inl (hw _ (gw 17 rfl))) Via.refl u7 (Sta.ext O0.2 S_9) (g := (mkF m 124 #[.val (.ref a1), .val (.int (413 : Int32)), .val (.int (0 : Int32)), .unset] [])) rfl (hb hby d1_124)
  obtain ⟨fs, hr, hrun, hended, hW, hsame⟩ := X10.leave (v := some (.ref a8)) (fun h => by rw [Bd.returns] at h; cases h)
  refine ⟨_, _, pre0 _ ?_, hrun, hended, _, _, rfl, ?_, ⟨_, rfl⟩, hW, hsame.mono (by decide) (by decide)⟩
  · show Steps p.tables e below (s₁.setTop (mkF m 0 #[.val (.ref a1), .val (.int (413 : Int32)), .unset, .unset] [])) _
    refine XS.aloadN X0.here hx rfl (hb hby d1_0) rfl rfl ?_
    show Steps p.tables e below (s₁.setTop (mkF m 1 #[.val (.ref a1), .val (.int (413 : Int32)), .unset, .unset] [(.ref a1)])) _
    refine st4.trans ?_
    show Steps p.tables e below (T4.setTop (mkF m 4 #[.val (.ref a1), .val (.int (413 : Int32)), .unset, .unset] [(.int (0 : Int32))])) _
    refine XS.tswIn X4.here hx rfl (pc0 := 4) (pc' := 42) rfl (hb hby d1_4) rfl (by decide) (o := 38) rfl (by decide) (by decide) ?_
    show Steps p.tables e below (T4.setTop (mkF m 42 #[.val (.ref a1), .val (.int (413 : Int32)), .unset, .unset] [])) _
    refine XS.iloadN X4.here hx rfl (hb hby d1_42) rfl ?_
    show Steps p.tables e below (T4.setTop (mkF m 43 #[.val (.ref a1), .val (.int (413 : Int32)), .unset, .unset] [(.int (413 : Int32))])) _
    refine XS.sipush X4.here hx rfl (hb hby d1_43) ?_
    show Steps p.tables e below (T4.setTop (mkF m 46 #[.val (.ref a1), .val (.int (413 : Int32)), .unset, .unset] [(.int (204 : Int32)), (.int (413 : Int32))])) _
    refine XS.icmpYes X4.here hx rfl (pc0 := 46) (pc' := 53) rfl (hb hby d1_46) rfl (feq (by decide +kernel : ¬ ((413 : Int32) = (204 : Int32)))).2 (by decide) (by decide) ?_
    show Steps p.tables e below (T4.setTop (mkF m 53 #[.val (.ref a1), .val (.int (413 : Int32)), .unset, .unset] [])) _
    refine XS.iconst X4.here hx rfl (hb hby d1_53) ?_
    show Steps p.tables e below (T4.setTop (mkF m 54 #[.val (.ref a1), .val (.int (413 : Int32)), .unset, .unset] [(.int (0 : Int32))])) _
    refine XS.goto X4.here hx rfl (pc0 := 54) (pc' := 98) rfl (hb hby d1_54) (by decide) (by decide) ?_
    show Steps p.tables e below (T4.setTop (mkF m 98 #[.val (.ref a1), .val (.int (413 : Int32)), .unset, .unset] [(.int (0 : Int32))])) _
    refine XS.istoreN X4.here hx rfl (hb hby d1_98) rfl (l' := #[.val (.ref a1), .val (.int (413 : Int32)), .val (.int (0 : Int32)), .unset]) rfl ?_
    show Steps p.tables e below (T4.setTop (mkF m 99 #[.val (.ref a1), .val (.int (413 : Int32)), .val (.int (0 : Int32)), .unset] [])) _
    refine XS.iloadN X4.here hx rfl (hb hby d1_99) rfl ?_
    show Steps p.tables e below (T4.setTop (mkF m 100 #[.val (.ref a1), .val (.int (413 : Int32)), .val (.int (0 : Int32)), .unset] [(.int (0 : Int32))])) _
    refine XS.ifYes X4.here hx rfl (pc0 := 100) (pc' := 110) rfl (hb hby d1_100) rfl ((if0 _ _).trans (teq (by decide +kernel : (0 : Int32) = (0 : Int32))).1) (by decide) (by decide) ?_
    show Steps p.tables e below (T4.setTop (mkF m 110 #[.val (.ref a1), .val (.int (413 : Int32)), .val (.int (0 : Int32)), .unset] [])) _
    refine XS.iloadN X4.here hx rfl (hb hby d1_110) rfl ?_
    show Steps p.tables e below (T4.setTop (mkF m 111 #[.val (.ref a1), .val (.int (413 : Int32)), .val (.int (0 : Int32)), .unset] [(.int (413 : Int32))])) _
    refine XS.sipush X4.here hx rfl (hb hby d1_111) ?_
    show Steps p.tables e below (T4.setTop (mkF m 114 #[.val (.ref a1), .val (.int (413 : Int32)), .val (.int (0 : Int32)), .unset] [(.int (400 : Int32)), (.int (413 : Int32))])) _
    refine XS.icmpNo X4.here hx rfl (hb hby d1_114) rfl (feq (by decide +kernel : ¬ ((413 : Int32) = (400 : Int32)))).1 ?_
    show Steps p.tables e below (T4.setTop (mkF m 117 #[.val (.ref a1), .val (.int (413 : Int32)), .val (.int (0 : Int32)), .unset] [])) _
    refine XS.iloadN X4.here hx rfl (hb hby d1_117) rfl ?_
    show Steps p.tables e below (T4.setTop (mkF m 118 #[.val (.ref a1), .val (.int (413 : Int32)), .val (.int (0 : Int32)), .unset] [(.int (413 : Int32))])) _
    refine XS.sipush X4.here hx rfl (hb hby d1_118) ?_
    show Steps p.tables e below (T4.setTop (mkF m 121 #[.val (.ref a1), .val (.int (413 : Int32)), .val (.int (0 : Int32)), .unset] [(.int (413 : Int32)), (.int (413 : Int32))])) _
    refine XS.icmpNo X4.here hx rfl (hb hby d1_121) rfl (teq (by decide +kernel : (413 : Int32) = (413 : Int32))).2 ?_
    show Steps p.tables e below (T4.setTop (mkF m 124 #[.val (.ref a1), .val (.int (413 : Int32)), .val (.int (0 : Int32)), .unset] [])) _
    refine st10 _ ?_
    show Steps p.tables e below (T10.setTop (mkF m 127 #[.val (.ref a1), .val (.int (413 : Int32)), .val (.int (0 : Int32)), .unset] [(.ref a8)])) _
    refine XS.astoreN X10.here hx rfl (hb hby d1_127) rfl rfl (l' := #[.val (.ref a1), .val (.int (413 : Int32)), .val (.int (0 : Int32)), .val (.ref a8)]) rfl ?_
    show Steps p.tables e below (T10.setTop (mkF m 128 #[.val (.ref a1), .val (.int (413 : Int32)), .val (.int (0 : Int32)), .val (.ref a8)] [])) _
    refine XS.goto X10.here hx rfl (pc0 := 128) (pc' := 135) rfl (hb hby d1_128) (by decide) (by decide) ?_
    show Steps p.tables e below (T10.setTop (mkF m 135 #[.val (.ref a1), .val (.int (413 : Int32)), .val (.int (0 : Int32)), .val (.ref a8)] [])) _
    refine XS.aloadN X10.here hx rfl (hb hby d1_135) rfl rfl ?_
    show Steps p.tables e below (T10.setTop (mkF m 136 #[.val (.ref a1), .val (.int (413 : Int32)), .val (.int (0 : Int32)), .val (.ref a8)] [(.ref a8)])) _
    jvm_step X10.here [X10.here.top, hx, (hb hby d1_136), X10.method', Bd.returns, Value.isRef, FieldType.isReference]
    first | (intro acts; rw [hr _ acts rfl rfl rfl]) | rw [hr _ _ rfl rfl rfl]
    exact Steps.refl _
  · show Q1_11 Z _ _ h0 n0 _ T10.heap _
    rw [e10]
    exact ⟨rfl, N4, rfl⟩
theorem ef_rm3_12 (m : MethodId)  : entryFrame m #[(.int (0 : Int32)), (.int (413 : Int32))] 2 = mkF m 0 #[.val (.int (0 : Int32)), .val (.int (413 : Int32))] [] := by first | (simp [entryFrame, mkF, argsToLocals, Value.category]; done) | rfl
def Q3_12 (Z : State) (a1 : Addr) (h0 : Heap) (n0 : Nat) (v : Option Value) (h : Heap) (L : List Loc) : Prop := (v = some (.ref a1) ∧ Fr n0 L ∧ h = h0)
set_option maxRecDepth 65536 in
set_option maxHeartbeats 40000000 in
theorem rm3_12 (l : Launch) (Z : State) (a0 : Array Value) (hw : ∀ d ∈ own_ws, d.before a0 Z = true) (ws : List Jvm.Cond) (a1 : Addr) (h0 : Heap) (n0 : Nat) (O0 : Old Z n0 h0) (S_2 : Sta Z Z.heap "com/example/ringstead/ringstead/node/History$Type" "FAIL" "Lcom/example/ringstead/ringstead/node/History$Type;" (.ref a1)) :
    MetFree l M_3 (head1 (Jvm.Cond.code M_3 method_2_code 2 (some (.object "com/example/ringstead/ringstead/node/History$Type")) :: ws) ({ frames := 0, cells := 0, slots := 0, locals := 0 } : Room)) (fun a U => a = #[(.int (0 : Int32)), (.int (413 : Int32))] ∧ Z.Warmed39 U.vm ∧ U.heap = h0) (fun _ _ _ _ _ => True) (fun _ U o U' => ∃ v L, o = .returned v ∧ Q3_12 Z a1 h0 n0 v U'.heap L ∧ FrameEnd U o U' L ({ frames := 0, cells := 0, slots := 0, locals := 0 } : Room).cells ({ frames := 0, cells := 0, slots := 0, locals := 0 } : Room).slots) := by
  refine MetFree.of_bodySF (plainFor_of_name pn_2) hisR ?_
  intro p e s m args below meth c s₁ Bd hml0 hP hK
  obtain ⟨rfl, hZ, hh⟩ := hP
  have hx := Bd.exec
  have hby := Bd.bytes
  have hml : c.maxLocals = 2 := hml0
  have hown : s.vm.findClass "com/example/ringstead/ringstead/node/TypeOfPinLaw" = some m.cls := findClass_of_methodNamed Bd.named
  have hnm := (name_of_methodNamed Bd.named Bd.method).1
  have X0 : Stand p l e ({ frames := 0, cells := 0, slots := 0, locals := 0 } : Room) s m #[(.int (0 : Int32)), (.int (413 : Int32))] below meth c s₁ [] 0 0 := Stand.of_body Bd
  have e0 : s₁.heap = h0 := by rw [← hh, Bd.state]; rfl
  have N0 := Fr.nil n0
  have pre0 : ∀ t, Steps p.tables e below (s₁.setTop (mkF m 0 #[.val (.int (0 : Int32)), .val (.int (413 : Int32))] [])) t → Steps p.tables e below (s₁.setTop (entryFrame m #[(.int (0 : Int32)), (.int (413 : Int32))] 2)) t := fun t k => castTop (ef_rm3_12 m ) k
  obtain ⟨T3, X3, e3, st3⟩ := getS2 X0 hx hZ hown (host := "") (Or.inl (hw _ (gw 23 rfl))) Via.refl e0 (Sta.ext O0.2 S_2) (g := (mkF m 79 #[.val (.int (0 : Int32)), .val (.int (413 : Int32))] [])) rfl (hb hby d3_79)
  obtain ⟨fs, hr, hrun, hended, hW, hsame⟩ := X3.leave (v := some (.ref a1)) (fun h => by rw [Bd.returns] at h; cases h)
  refine ⟨_, _, pre0 _ ?_, hrun, hended, _, _, rfl, ?_, ⟨_, rfl⟩, hW, hsame.mono (by decide) (by decide)⟩
  · show Steps p.tables e below (s₁.setTop (mkF m 0 #[.val (.int (0 : Int32)), .val (.int (413 : Int32))] [])) _
    refine XS.iloadN X0.here hx rfl (hb hby d3_0) rfl ?_
    show Steps p.tables e below (s₁.setTop (mkF m 1 #[.val (.int (0 : Int32)), .val (.int (413 : Int32))] [(.int (413 : Int32))])) _
    refine XS.sipush X0.here hx rfl (hb hby d3_1) ?_
    show Steps p.tables e below (s₁.setTop (mkF m 4 #[.val (.int (0 : Int32)), .val (.int (413 : Int32))] [(.int (204 : Int32)), (.int (413 : Int32))])) _
    refine XS.icmpYes X0.here hx rfl (pc0 := 4) (pc' := 22) rfl (hb hby d3_4) rfl (feq (by decide +kernel : ¬ ((413 : Int32) = (204 : Int32)))).2 (by decide) (by decide) ?_
    show Steps p.tables e below (s₁.setTop (mkF m 22 #[.val (.int (0 : Int32)), .val (.int (413 : Int32))] [])) _
    refine XS.iloadN X0.here hx rfl (hb hby d3_22) rfl ?_
    show Steps p.tables e below (s₁.setTop (mkF m 23 #[.val (.int (0 : Int32)), .val (.int (413 : Int32))] [(.int (413 : Int32))])) _
    refine XS.sipush X0.here hx rfl (hb hby d3_23) ?_
    show Steps p.tables e below (s₁.setTop (mkF m 26 #[.val (.int (0 : Int32)), .val (.int (413 : Int32))] [(.int (200 : Int32)), (.int (413 : Int32))])) _
    refine XS.icmpYes X0.here hx rfl (pc0 := 26) (pc' := 44) rfl (hb hby d3_26) rfl (feq (by decide +kernel : ¬ ((413 : Int32) = (200 : Int32)))).2 (by decide) (by decide) ?_
    show Steps p.tables e below (s₁.setTop (mkF m 44 #[.val (.int (0 : Int32)), .val (.int (413 : Int32))] [])) _
    refine XS.iloadN X0.here hx rfl (hb hby d3_44) rfl ?_
    show Steps p.tables e below (s₁.setTop (mkF m 45 #[.val (.int (0 : Int32)), .val (.int (413 : Int32))] [(.int (413 : Int32))])) _
    refine XS.sipush X0.here hx rfl (hb hby d3_45) ?_
    show Steps p.tables e below (s₁.setTop (mkF m 48 #[.val (.int (0 : Int32)), .val (.int (413 : Int32))] [(.int (404 : Int32)), (.int (413 : Int32))])) _
    refine XS.icmpYes X0.here hx rfl (pc0 := 48) (pc' := 65) rfl (hb hby d3_48) rfl (feq (by decide +kernel : ¬ ((413 : Int32) = (404 : Int32)))).2 (by decide) (by decide) ?_
    show Steps p.tables e below (s₁.setTop (mkF m 65 #[.val (.int (0 : Int32)), .val (.int (413 : Int32))] [])) _
    refine XS.iloadN X0.here hx rfl (hb hby d3_65) rfl ?_
    show Steps p.tables e below (s₁.setTop (mkF m 66 #[.val (.int (0 : Int32)), .val (.int (413 : Int32))] [(.int (413 : Int32))])) _
    refine XS.sipush X0.here hx rfl (hb hby d3_66) ?_
    show Steps p.tables e below (s₁.setTop (mkF m 69 #[.val (.int (0 : Int32)), .val (.int (413 : Int32))] [(.int (400 : Int32)), (.int (413 : Int32))])) _
    refine XS.icmpNo X0.here hx rfl (hb hby d3_69) rfl (feq (by decide +kernel : ¬ ((413 : Int32) = (400 : Int32)))).1 ?_
    show Steps p.tables e below (s₁.setTop (mkF m 72 #[.val (.int (0 : Int32)), .val (.int (413 : Int32))] [])) _
    refine XS.iloadN X0.here hx rfl (hb hby d3_72) rfl ?_
    show Steps p.tables e below (s₁.setTop (mkF m 73 #[.val (.int (0 : Int32)), .val (.int (413 : Int32))] [(.int (413 : Int32))])) _
    refine XS.sipush X0.here hx rfl (hb hby d3_73) ?_
    show Steps p.tables e below (s₁.setTop (mkF m 76 #[.val (.int (0 : Int32)), .val (.int (413 : Int32))] [(.int (413 : Int32)), (.int (413 : Int32))])) _
    refine XS.icmpNo X0.here hx rfl (hb hby d3_76) rfl (teq (by decide +kernel : (413 : Int32) = (413 : Int32))).2 ?_
    show Steps p.tables e below (s₁.setTop (mkF m 79 #[.val (.int (0 : Int32)), .val (.int (413 : Int32))] [])) _
    refine st3 _ ?_
    show Steps p.tables e below (T3.setTop (mkF m 82 #[.val (.int (0 : Int32)), .val (.int (413 : Int32))] [(.ref a1)])) _
    jvm_step X3.here [X3.here.top, hx, (hb hby d3_82), X3.method', Bd.returns, Value.isRef, FieldType.isReference]
    first | (intro acts; rw [hr _ acts rfl rfl rfl]) | rw [hr _ _ rfl rfl rfl]
    exact Steps.refl _
  · show Q3_12 Z _ h0 n0 _ T3.heap _
    rw [e3]
    exact ⟨rfl, N0, rfl⟩
theorem ef_rm1_13 (m : MethodId) (x0 : Addr) : entryFrame m #[(.ref x0), (.int (503 : Int32))] 4 = mkF m 0 #[.val (.ref x0), .val (.int (503 : Int32)), .unset, .unset] [] := by first | (simp [entryFrame, mkF, argsToLocals, Value.category]; done) | rfl
def Q1_13 (Z : State) (a1 : Addr) (a8 : Addr) (h0 : Heap) (n0 : Nat) (v : Option Value) (h : Heap) (L : List Loc) : Prop := (v = some (.ref a8) ∧ Fr n0 L ∧ h = h0)
set_option maxRecDepth 65536 in
set_option maxHeartbeats 40000000 in
theorem rm1_13 (l : Launch) (Z : State) (a0 : Array Value) (hw : ∀ d ∈ own_ws, d.before a0 Z = true) (ws : List Jvm.Cond) (a1 : Addr) (a8 : Addr) (h0 : Heap) (n0 : Nat) (O0 : Old Z n0 h0) (E_2 : Exa Z Z.heap a1 "com/example/ringstead/ringstead/node/History$Operation") (F3 : Fld Z Z.heap a1 "java/lang/Enum" "ordinal" "I" (.int (0 : Int32))) (S_9 : Sta Z Z.heap "com/example/ringstead/ringstead/node/History$Type" "INFO" "Lcom/example/ringstead/ringstead/node/History$Type;" (.ref a8)) :
    MetFree l M_2 (head1 (Jvm.Cond.code M_2 prog_19_method_5_code 4 (some (.object "com/example/ringstead/ringstead/node/History$Type")) :: ws) ({ frames := 1, cells := 0, slots := 0, locals := 12 } : Room)) (fun a U => a = #[(.ref a1), (.int (503 : Int32))] ∧ Z.Warmed39 U.vm ∧ U.heap = h0) (fun _ _ _ _ _ => True) (fun _ U o U' => ∃ v L, o = .returned v ∧ Q1_13 Z a1 a8 h0 n0 v U'.heap L ∧ FrameEnd U o U' L ({ frames := 1, cells := 0, slots := 0, locals := 12 } : Room).cells ({ frames := 1, cells := 0, slots := 0, locals := 12 } : Room).slots) := by
  refine MetFree.of_bodySF (plainFor_of_name pn_1) hisR ?_
  intro p e s m args below meth c s₁ Bd hml0 hP hK
  obtain ⟨rfl, hZ, hh⟩ := hP
  have hx := Bd.exec
  have hby := Bd.bytes
  have hml : c.maxLocals = 4 := hml0
  have hown : s.vm.findClass "com/example/ringstead/ringstead/node/History$Type" = some m.cls := findClass_of_methodNamed Bd.named
  have hnm := (name_of_methodNamed Bd.named Bd.method).1
  have X0 : Stand p l e ({ frames := 1, cells := 0, slots := 0, locals := 12 } : Room) s m #[(.ref a1), (.int (503 : Int32))] below meth c s₁ [] 0 0 := Stand.of_body Bd
  have e0 : s₁.heap = h0 := by rw [← hh, Bd.state]; rfl
  have N0 := Fr.nil n0
  have pre0 : ∀ t, Steps p.tables e below (s₁.setTop (mkF m 0 #[.val (.ref a1), .val (.int (503 : Int32)), .unset, .unset] [])) t → Steps p.tables e below (s₁.setTop (entryFrame m #[(.ref a1), (.int (503 : Int32))] 4)) t := fun t k => castTop (ef_rm1_13 m a1) k
  obtain ⟨cq4, kq4, q4a, q4b, q4c⟩ := isOf hZ e0 (Exa.ext O0.2 E_2)
  obtain ⟨_, _, ⟨T4, L4, k4, n4⟩, -, X4, ⟨Lc4, hQ4, l4, y4, z4⟩, st4⟩ := X0.virtualBackUp hx (owner := "java/lang/Enum") (x := M_1) (y := M_0) hown (mvT hZ (hw _ (gw 8 rfl))) (mvT hZ (hw _ (gw 9 rfl))) (mvT hZ (hw _ (gw 10 rfl))) (by decide) (mvT hZ (hw _ (gw 12 rfl))) (mvT hZ (hw _ (gw 11 rfl))) (backOf (W := 0) (rm2_3 l Z a0 hw [] a1 h0 n0  O0 F3) hZ (hw _ (gw 14 rfl)) (hw _ (gw 13 rfl)) (by decide) (by decide)) q4a q4c (g := (mkF m 1 #[.val (.ref a1), .val (.int (503 : Int32)), .unset, .unset] [(.ref a1)])) rfl (by rw [hml]; rfl) (Steps.refl _) (argsL := []) (rest := []) (lenOf pd_0 rfl) rfl (by show 2 * 0 + _ ≤ _; exact Nat.le_of_eq rfl) (hb hby d1_1) (fun _ _ => ⟨rfl, e0, (by decide : 0 + 0 ≤ _), (by decide : 0 + 0 ≤ _)⟩)
  dsimp only [Pt.U, Pt.locs, Pt.cells, Pt.slots] at X4 l4 y4 z4 st4 hQ4
  subst l4 y4 z4
  obtain ⟨rfl, u6, u7⟩ := hQ4
  have N4 := Fr.app N0 u6
  obtain ⟨T10, X10, e10, st10⟩ := getS2 X4 hx hZ hown (host := "") (Or.inl (hw _ (gw 31 rfl))) Via.refl u7 (Sta.ext O0.2 S_9) (g := (mkF m 131 #[.val (.ref a1), .val (.int (503 : Int32)), .val (.int (0 : Int32)), .unset] [])) rfl (hb hby d1_131)
  obtain ⟨fs, hr, hrun, hended, hW, hsame⟩ := X10.leave (v := some (.ref a8)) (fun h => by rw [Bd.returns] at h; cases h)
  refine ⟨_, _, pre0 _ ?_, hrun, hended, _, _, rfl, ?_, ⟨_, rfl⟩, hW, hsame.mono (by decide) (by decide)⟩
  · show Steps p.tables e below (s₁.setTop (mkF m 0 #[.val (.ref a1), .val (.int (503 : Int32)), .unset, .unset] [])) _
    refine XS.aloadN X0.here hx rfl (hb hby d1_0) rfl rfl ?_
    show Steps p.tables e below (s₁.setTop (mkF m 1 #[.val (.ref a1), .val (.int (503 : Int32)), .unset, .unset] [(.ref a1)])) _
    refine st4.trans ?_
    show Steps p.tables e below (T4.setTop (mkF m 4 #[.val (.ref a1), .val (.int (503 : Int32)), .unset, .unset] [(.int (0 : Int32))])) _
    refine XS.tswIn X4.here hx rfl (pc0 := 4) (pc' := 42) rfl (hb hby d1_4) rfl (by decide) (o := 38) rfl (by decide) (by decide) ?_
    show Steps p.tables e below (T4.setTop (mkF m 42 #[.val (.ref a1), .val (.int (503 : Int32)), .unset, .unset] [])) _
    refine XS.iloadN X4.here hx rfl (hb hby d1_42) rfl ?_
    show Steps p.tables e below (T4.setTop (mkF m 43 #[.val (.ref a1), .val (.int (503 : Int32)), .unset, .unset] [(.int (503 : Int32))])) _
    refine XS.sipush X4.here hx rfl (hb hby d1_43) ?_
    show Steps p.tables e below (T4.setTop (mkF m 46 #[.val (.ref a1), .val (.int (503 : Int32)), .unset, .unset] [(.int (204 : Int32)), (.int (503 : Int32))])) _
    refine XS.icmpYes X4.here hx rfl (pc0 := 46) (pc' := 53) rfl (hb hby d1_46) rfl (feq (by decide +kernel : ¬ ((503 : Int32) = (204 : Int32)))).2 (by decide) (by decide) ?_
    show Steps p.tables e below (T4.setTop (mkF m 53 #[.val (.ref a1), .val (.int (503 : Int32)), .unset, .unset] [])) _
    refine XS.iconst X4.here hx rfl (hb hby d1_53) ?_
    show Steps p.tables e below (T4.setTop (mkF m 54 #[.val (.ref a1), .val (.int (503 : Int32)), .unset, .unset] [(.int (0 : Int32))])) _
    refine XS.goto X4.here hx rfl (pc0 := 54) (pc' := 98) rfl (hb hby d1_54) (by decide) (by decide) ?_
    show Steps p.tables e below (T4.setTop (mkF m 98 #[.val (.ref a1), .val (.int (503 : Int32)), .unset, .unset] [(.int (0 : Int32))])) _
    refine XS.istoreN X4.here hx rfl (hb hby d1_98) rfl (l' := #[.val (.ref a1), .val (.int (503 : Int32)), .val (.int (0 : Int32)), .unset]) rfl ?_
    show Steps p.tables e below (T4.setTop (mkF m 99 #[.val (.ref a1), .val (.int (503 : Int32)), .val (.int (0 : Int32)), .unset] [])) _
    refine XS.iloadN X4.here hx rfl (hb hby d1_99) rfl ?_
    show Steps p.tables e below (T4.setTop (mkF m 100 #[.val (.ref a1), .val (.int (503 : Int32)), .val (.int (0 : Int32)), .unset] [(.int (0 : Int32))])) _
    refine XS.ifYes X4.here hx rfl (pc0 := 100) (pc' := 110) rfl (hb hby d1_100) rfl ((if0 _ _).trans (teq (by decide +kernel : (0 : Int32) = (0 : Int32))).1) (by decide) (by decide) ?_
    show Steps p.tables e below (T4.setTop (mkF m 110 #[.val (.ref a1), .val (.int (503 : Int32)), .val (.int (0 : Int32)), .unset] [])) _
    refine XS.iloadN X4.here hx rfl (hb hby d1_110) rfl ?_
    show Steps p.tables e below (T4.setTop (mkF m 111 #[.val (.ref a1), .val (.int (503 : Int32)), .val (.int (0 : Int32)), .unset] [(.int (503 : Int32))])) _
    refine XS.sipush X4.here hx rfl (hb hby d1_111) ?_
    show Steps p.tables e below (T4.setTop (mkF m 114 #[.val (.ref a1), .val (.int (503 : Int32)), .val (.int (0 : Int32)), .unset] [(.int (400 : Int32)), (.int (503 : Int32))])) _
    refine XS.icmpNo X4.here hx rfl (hb hby d1_114) rfl (feq (by decide +kernel : ¬ ((503 : Int32) = (400 : Int32)))).1 ?_
    show Steps p.tables e below (T4.setTop (mkF m 117 #[.val (.ref a1), .val (.int (503 : Int32)), .val (.int (0 : Int32)), .unset] [])) _
    refine XS.iloadN X4.here hx rfl (hb hby d1_117) rfl ?_
    show Steps p.tables e below (T4.setTop (mkF m 118 #[.val (.ref a1), .val (.int (503 : Int32)), .val (.int (0 : Int32)), .unset] [(.int (503 : Int32))])) _
    refine XS.sipush X4.here hx rfl (hb hby d1_118) ?_
    show Steps p.tables e below (T4.setTop (mkF m 121 #[.val (.ref a1), .val (.int (503 : Int32)), .val (.int (0 : Int32)), .unset] [(.int (413 : Int32)), (.int (503 : Int32))])) _
    refine XS.icmpYes X4.here hx rfl (pc0 := 121) (pc' := 131) rfl (hb hby d1_121) rfl (feq (by decide +kernel : ¬ ((503 : Int32) = (413 : Int32)))).2 (by decide) (by decide) ?_
    show Steps p.tables e below (T4.setTop (mkF m 131 #[.val (.ref a1), .val (.int (503 : Int32)), .val (.int (0 : Int32)), .unset] [])) _
    refine st10 _ ?_
    show Steps p.tables e below (T10.setTop (mkF m 134 #[.val (.ref a1), .val (.int (503 : Int32)), .val (.int (0 : Int32)), .unset] [(.ref a8)])) _
    refine XS.astoreN X10.here hx rfl (hb hby d1_134) rfl rfl (l' := #[.val (.ref a1), .val (.int (503 : Int32)), .val (.int (0 : Int32)), .val (.ref a8)]) rfl ?_
    show Steps p.tables e below (T10.setTop (mkF m 135 #[.val (.ref a1), .val (.int (503 : Int32)), .val (.int (0 : Int32)), .val (.ref a8)] [])) _
    refine XS.aloadN X10.here hx rfl (hb hby d1_135) rfl rfl ?_
    show Steps p.tables e below (T10.setTop (mkF m 136 #[.val (.ref a1), .val (.int (503 : Int32)), .val (.int (0 : Int32)), .val (.ref a8)] [(.ref a8)])) _
    jvm_step X10.here [X10.here.top, hx, (hb hby d1_136), X10.method', Bd.returns, Value.isRef, FieldType.isReference]
    first | (intro acts; rw [hr _ acts rfl rfl rfl]) | rw [hr _ _ rfl rfl rfl]
    exact Steps.refl _
  · show Q1_13 Z _ _ h0 n0 _ T10.heap _
    rw [e10]
    exact ⟨rfl, N4, rfl⟩
theorem ef_rm3_14 (m : MethodId)  : entryFrame m #[(.int (0 : Int32)), (.int (503 : Int32))] 2 = mkF m 0 #[.val (.int (0 : Int32)), .val (.int (503 : Int32))] [] := by first | (simp [entryFrame, mkF, argsToLocals, Value.category]; done) | rfl
def Q3_14 (Z : State) (a1 : Addr) (h0 : Heap) (n0 : Nat) (v : Option Value) (h : Heap) (L : List Loc) : Prop := (v = some (.ref a1) ∧ Fr n0 L ∧ h = h0)
set_option maxRecDepth 65536 in
set_option maxHeartbeats 40000000 in
theorem rm3_14 (l : Launch) (Z : State) (a0 : Array Value) (hw : ∀ d ∈ own_ws, d.before a0 Z = true) (ws : List Jvm.Cond) (a1 : Addr) (h0 : Heap) (n0 : Nat) (O0 : Old Z n0 h0) (S_2 : Sta Z Z.heap "com/example/ringstead/ringstead/node/History$Type" "INFO" "Lcom/example/ringstead/ringstead/node/History$Type;" (.ref a1)) :
    MetFree l M_3 (head1 (Jvm.Cond.code M_3 method_2_code 2 (some (.object "com/example/ringstead/ringstead/node/History$Type")) :: ws) ({ frames := 0, cells := 0, slots := 0, locals := 0 } : Room)) (fun a U => a = #[(.int (0 : Int32)), (.int (503 : Int32))] ∧ Z.Warmed39 U.vm ∧ U.heap = h0) (fun _ _ _ _ _ => True) (fun _ U o U' => ∃ v L, o = .returned v ∧ Q3_14 Z a1 h0 n0 v U'.heap L ∧ FrameEnd U o U' L ({ frames := 0, cells := 0, slots := 0, locals := 0 } : Room).cells ({ frames := 0, cells := 0, slots := 0, locals := 0 } : Room).slots) := by
  refine MetFree.of_bodySF (plainFor_of_name pn_2) hisR ?_
  intro p e s m args below meth c s₁ Bd hml0 hP hK
  obtain ⟨rfl, hZ, hh⟩ := hP
  have hx := Bd.exec
  have hby := Bd.bytes
  have hml : c.maxLocals = 2 := hml0
  have hown : s.vm.findClass "com/example/ringstead/ringstead/node/TypeOfPinLaw" = some m.cls := findClass_of_methodNamed Bd.named
  have hnm := (name_of_methodNamed Bd.named Bd.method).1
  have X0 : Stand p l e ({ frames := 0, cells := 0, slots := 0, locals := 0 } : Room) s m #[(.int (0 : Int32)), (.int (503 : Int32))] below meth c s₁ [] 0 0 := Stand.of_body Bd
  have e0 : s₁.heap = h0 := by rw [← hh, Bd.state]; rfl
  have N0 := Fr.nil n0
  have pre0 : ∀ t, Steps p.tables e below (s₁.setTop (mkF m 0 #[.val (.int (0 : Int32)), .val (.int (503 : Int32))] [])) t → Steps p.tables e below (s₁.setTop (entryFrame m #[(.int (0 : Int32)), (.int (503 : Int32))] 2)) t := fun t k => castTop (ef_rm3_14 m ) k
  obtain ⟨T3, X3, e3, st3⟩ := getS2 X0 hx hZ hown (host := "") (Or.inl (hw _ (gw 33 rfl))) Via.refl e0 (Sta.ext O0.2 S_2) (g := (mkF m 83 #[.val (.int (0 : Int32)), .val (.int (503 : Int32))] [])) rfl (hb hby d3_83)
  obtain ⟨fs, hr, hrun, hended, hW, hsame⟩ := X3.leave (v := some (.ref a1)) (fun h => by rw [Bd.returns] at h; cases h)
  refine ⟨_, _, pre0 _ ?_, hrun, hended, _, _, rfl, ?_, ⟨_, rfl⟩, hW, hsame.mono (by decide) (by decide)⟩
  · show Steps p.tables e below (s₁.setTop (mkF m 0 #[.val (.int (0 : Int32)), .val (.int (503 : Int32))] [])) _
    refine XS.iloadN X0.here hx rfl (hb hby d3_0) rfl ?_
    show Steps p.tables e below (s₁.setTop (mkF m 1 #[.val (.int (0 : Int32)), .val (.int (503 : Int32))] [(.int (503 : Int32))])) _
    refine XS.sipush X0.here hx rfl (hb hby d3_1) ?_
    show Steps p.tables e below (s₁.setTop (mkF m 4 #[.val (.int (0 : Int32)), .val (.int (503 : Int32))] [(.int (204 : Int32)), (.int (503 : Int32))])) _
    refine XS.icmpYes X0.here hx rfl (pc0 := 4) (pc' := 22) rfl (hb hby d3_4) rfl (feq (by decide +kernel : ¬ ((503 : Int32) = (204 : Int32)))).2 (by decide) (by decide) ?_
    show Steps p.tables e below (s₁.setTop (mkF m 22 #[.val (.int (0 : Int32)), .val (.int (503 : Int32))] [])) _
    refine XS.iloadN X0.here hx rfl (hb hby d3_22) rfl ?_
    show Steps p.tables e below (s₁.setTop (mkF m 23 #[.val (.int (0 : Int32)), .val (.int (503 : Int32))] [(.int (503 : Int32))])) _
    refine XS.sipush X0.here hx rfl (hb hby d3_23) ?_
    show Steps p.tables e below (s₁.setTop (mkF m 26 #[.val (.int (0 : Int32)), .val (.int (503 : Int32))] [(.int (200 : Int32)), (.int (503 : Int32))])) _
    refine XS.icmpYes X0.here hx rfl (pc0 := 26) (pc' := 44) rfl (hb hby d3_26) rfl (feq (by decide +kernel : ¬ ((503 : Int32) = (200 : Int32)))).2 (by decide) (by decide) ?_
    show Steps p.tables e below (s₁.setTop (mkF m 44 #[.val (.int (0 : Int32)), .val (.int (503 : Int32))] [])) _
    refine XS.iloadN X0.here hx rfl (hb hby d3_44) rfl ?_
    show Steps p.tables e below (s₁.setTop (mkF m 45 #[.val (.int (0 : Int32)), .val (.int (503 : Int32))] [(.int (503 : Int32))])) _
    refine XS.sipush X0.here hx rfl (hb hby d3_45) ?_
    show Steps p.tables e below (s₁.setTop (mkF m 48 #[.val (.int (0 : Int32)), .val (.int (503 : Int32))] [(.int (404 : Int32)), (.int (503 : Int32))])) _
    refine XS.icmpYes X0.here hx rfl (pc0 := 48) (pc' := 65) rfl (hb hby d3_48) rfl (feq (by decide +kernel : ¬ ((503 : Int32) = (404 : Int32)))).2 (by decide) (by decide) ?_
    show Steps p.tables e below (s₁.setTop (mkF m 65 #[.val (.int (0 : Int32)), .val (.int (503 : Int32))] [])) _
    refine XS.iloadN X0.here hx rfl (hb hby d3_65) rfl ?_
    show Steps p.tables e below (s₁.setTop (mkF m 66 #[.val (.int (0 : Int32)), .val (.int (503 : Int32))] [(.int (503 : Int32))])) _
    refine XS.sipush X0.here hx rfl (hb hby d3_66) ?_
    show Steps p.tables e below (s₁.setTop (mkF m 69 #[.val (.int (0 : Int32)), .val (.int (503 : Int32))] [(.int (400 : Int32)), (.int (503 : Int32))])) _
    refine XS.icmpNo X0.here hx rfl (hb hby d3_69) rfl (feq (by decide +kernel : ¬ ((503 : Int32) = (400 : Int32)))).1 ?_
    show Steps p.tables e below (s₁.setTop (mkF m 72 #[.val (.int (0 : Int32)), .val (.int (503 : Int32))] [])) _
    refine XS.iloadN X0.here hx rfl (hb hby d3_72) rfl ?_
    show Steps p.tables e below (s₁.setTop (mkF m 73 #[.val (.int (0 : Int32)), .val (.int (503 : Int32))] [(.int (503 : Int32))])) _
    refine XS.sipush X0.here hx rfl (hb hby d3_73) ?_
    show Steps p.tables e below (s₁.setTop (mkF m 76 #[.val (.int (0 : Int32)), .val (.int (503 : Int32))] [(.int (413 : Int32)), (.int (503 : Int32))])) _
    refine XS.icmpYes X0.here hx rfl (pc0 := 76) (pc' := 83) rfl (hb hby d3_76) rfl (feq (by decide +kernel : ¬ ((503 : Int32) = (413 : Int32)))).2 (by decide) (by decide) ?_
    show Steps p.tables e below (s₁.setTop (mkF m 83 #[.val (.int (0 : Int32)), .val (.int (503 : Int32))] [])) _
    refine st3 _ ?_
    show Steps p.tables e below (T3.setTop (mkF m 86 #[.val (.int (0 : Int32)), .val (.int (503 : Int32))] [(.ref a1)])) _
    jvm_step X3.here [X3.here.top, hx, (hb hby d3_86), X3.method', Bd.returns, Value.isRef, FieldType.isReference]
    first | (intro acts; rw [hr _ acts rfl rfl rfl]) | rw [hr _ _ rfl rfl rfl]
    exact Steps.refl _
  · show Q3_14 Z _ h0 n0 _ T3.heap _
    rw [e3]
    exact ⟨rfl, N0, rfl⟩
theorem ef_rm1_15 (m : MethodId) (x0 : Addr) (x1 : Int32) : entryFrame m #[(.ref x0), (.int x1)] 4 = mkF m 0 #[.val (.ref x0), .val (.int x1), .unset, .unset] [] := by first | (simp [entryFrame, mkF, argsToLocals, Value.category]; done) | rfl
def Q1_15 (Z : State) (a1 : Addr) (p2 : Int32) (a11 : Addr) (a16 : Addr) (a22 : Addr) (h0 : Heap) (n0 : Nat) (v : Option Value) (h : Heap) (L : List Loc) : Prop := (p2 = (204 : Int32) ∧ v = some (.ref a11) ∧ Fr n0 L ∧ h = h0) ∨ (p2 = (400 : Int32) ∧ ¬ ((400 : Int32) = (204 : Int32)) ∧ v = some (.ref a16) ∧ Fr n0 L ∧ h = h0) ∨ (p2 = (413 : Int32) ∧ ¬ ((413 : Int32) = (204 : Int32)) ∧ ¬ ((413 : Int32) = (400 : Int32)) ∧ v = some (.ref a16) ∧ Fr n0 L ∧ h = h0) ∨ (¬ (p2 = (204 : Int32)) ∧ ¬ (p2 = (400 : Int32)) ∧ ¬ (p2 = (413 : Int32)) ∧ v = some (.ref a22) ∧ Fr n0 L ∧ h = h0)
set_option maxRecDepth 65536 in
set_option maxHeartbeats 40000000 in
theorem rm1_15 (l : Launch) (Z : State) (a0 : Array Value) (hw : ∀ d ∈ own_ws, d.before a0 Z = true) (ws : List Jvm.Cond) (a1 : Addr) (p2 : Int32) (a11 : Addr) (a16 : Addr) (a22 : Addr) (h0 : Heap) (n0 : Nat) (O0 : Old Z n0 h0) (E_3 : Exa Z Z.heap a1 "com/example/ringstead/ringstead/node/History$Operation") (F4 : Fld Z Z.heap a1 "java/lang/Enum" "ordinal" "I" (.int (0 : Int32))) (S_12 : Sta Z Z.heap "com/example/ringstead/ringstead/node/History$Type" "OK" "Lcom/example/ringstead/ringstead/node/History$Type;" (.ref a11)) (S_17 : Sta Z Z.heap "com/example/ringstead/ringstead/node/History$Type" "FAIL" "Lcom/example/ringstead/ringstead/node/History$Type;" (.ref a16)) (S_23 : Sta Z Z.heap "com/example/ringstead/ringstead/node/History$Type" "INFO" "Lcom/example/ringstead/ringstead/node/History$Type;" (.ref a22)) :
    MetFree l M_2 (head1 (Jvm.Cond.code M_2 prog_19_method_5_code 4 (some (.object "com/example/ringstead/ringstead/node/History$Type")) :: ws) ({ frames := 1, cells := 0, slots := 0, locals := 12 } : Room)) (fun a U => a = #[(.ref a1), (.int p2)] ∧ Z.Warmed39 U.vm ∧ U.heap = h0) (fun _ _ _ _ _ => True) (fun _ U o U' => ∃ v L, o = .returned v ∧ Q1_15 Z a1 p2 a11 a16 a22 h0 n0 v U'.heap L ∧ FrameEnd U o U' L ({ frames := 1, cells := 0, slots := 0, locals := 12 } : Room).cells ({ frames := 1, cells := 0, slots := 0, locals := 12 } : Room).slots) := by
  refine MetFree.of_bodySF (plainFor_of_name pn_1) hisR ?_
  intro p e s m args below meth c s₁ Bd hml0 hP hK
  obtain ⟨rfl, hZ, hh⟩ := hP
  have hx := Bd.exec
  have hby := Bd.bytes
  have hml : c.maxLocals = 4 := hml0
  have hown : s.vm.findClass "com/example/ringstead/ringstead/node/History$Type" = some m.cls := findClass_of_methodNamed Bd.named
  have hnm := (name_of_methodNamed Bd.named Bd.method).1
  have X0 : Stand p l e ({ frames := 1, cells := 0, slots := 0, locals := 12 } : Room) s m #[(.ref a1), (.int p2)] below meth c s₁ [] 0 0 := Stand.of_body Bd
  have e0 : s₁.heap = h0 := by rw [← hh, Bd.state]; rfl
  have N0 := Fr.nil n0
  have pre0 : ∀ t, Steps p.tables e below (s₁.setTop (mkF m 0 #[.val (.ref a1), .val (.int p2), .unset, .unset] [])) t → Steps p.tables e below (s₁.setTop (entryFrame m #[(.ref a1), (.int p2)] 4)) t := fun t k => castTop (ef_rm1_15 m a1 p2) k
  obtain ⟨cq5, kq5, q5a, q5b, q5c⟩ := isOf hZ e0 (Exa.ext O0.2 E_3)
  obtain ⟨_, _, ⟨T5, L5, k5, n5⟩, -, X5, ⟨Lc5, hQ5, l5, y5, z5⟩, st5⟩ := X0.virtualBackUp hx (owner := "java/lang/Enum") (x := M_1) (y := M_0) hown (mvT hZ (hw _ (gw 8 rfl))) (mvT hZ (hw _ (gw 9 rfl))) (mvT hZ (hw _ (gw 10 rfl))) (by decide) (mvT hZ (hw _ (gw 12 rfl))) (mvT hZ (hw _ (gw 11 rfl))) (backOf (W := 0) (rm2_3 l Z a0 hw [] a1 h0 n0  O0 F4) hZ (hw _ (gw 14 rfl)) (hw _ (gw 13 rfl)) (by decide) (by decide)) q5a q5c (g := (mkF m 1 #[.val (.ref a1), .val (.int p2), .unset, .unset] [(.ref a1)])) rfl (by rw [hml]; rfl) (Steps.refl _) (argsL := []) (rest := []) (lenOf pd_0 rfl) rfl (by show 2 * 0 + _ ≤ _; exact Nat.le_of_eq rfl) (hb hby d1_1) (fun _ _ => ⟨rfl, e0, (by decide : 0 + 0 ≤ _), (by decide : 0 + 0 ≤ _)⟩)
  dsimp only [Pt.U, Pt.locs, Pt.cells, Pt.slots] at X5 l5 y5 z5 st5 hQ5
  subst l5 y5 z5
  obtain ⟨rfl, u7, u8⟩ := hQ5
  have N5 := Fr.app N0 u7
  have pre9 : ∀ t, Steps p.tables e below (T5.setTop (mkF m 46 #[.val (.ref a1), .val (.int p2), .unset, .unset] [(.int (204 : Int32)), (.int p2)])) t → Steps p.tables e below (s₁.setTop (entryFrame m #[(.ref a1), (.int p2)] 4)) t := by
    intro t kt
    refine pre0 t ?_
    show Steps p.tables e below (s₁.setTop (mkF m 0 #[.val (.ref a1), .val (.int p2), .unset, .unset] [])) _
    refine XS.aloadN X0.here hx rfl (hb hby d1_0) rfl rfl ?_
    show Steps p.tables e below (s₁.setTop (mkF m 1 #[.val (.ref a1), .val (.int p2), .unset, .unset] [(.ref a1)])) _
    refine st5.trans ?_
    show Steps p.tables e below (T5.setTop (mkF m 4 #[.val (.ref a1), .val (.int p2), .unset, .unset] [(.int (0 : Int32))])) _
    refine XS.tswIn X5.here hx rfl (pc0 := 4) (pc' := 42) rfl (hb hby d1_4) rfl (by decide) (o := 38) rfl (by decide) (by decide) ?_
    show Steps p.tables e below (T5.setTop (mkF m 42 #[.val (.ref a1), .val (.int p2), .unset, .unset] [])) _
    refine XS.iloadN X5.here hx rfl (hb hby d1_42) rfl ?_
    show Steps p.tables e below (T5.setTop (mkF m 43 #[.val (.ref a1), .val (.int p2), .unset, .unset] [(.int p2)])) _
    refine XS.sipush X5.here hx rfl (hb hby d1_43) ?_
    exact kt
  by_cases hc10 : p2 = (204 : Int32)
  · skip
    subst hc10
    obtain ⟨T13, X13, e13, st13⟩ := getS2 X5 hx hZ hown (host := "") (Or.inl (hw _ (gw 28 rfl))) Via.refl u8 (Sta.ext O0.2 S_12) (g := (mkF m 103 #[.val (.ref a1), .val (.int (204 : Int32)), .val (.int (1 : Int32)), .unset] [])) rfl (hb hby d1_103)
    obtain ⟨fs, hr, hrun, hended, hW, hsame⟩ := X13.leave (v := some (.ref a11)) (fun h => by rw [Bd.returns] at h; cases h)
    refine ⟨_, _, pre9 _ ?_, hrun, hended, _, _, rfl, ?_, ⟨_, rfl⟩, hW, hsame.mono (by decide) (by decide)⟩
    · show Steps p.tables e below (T5.setTop (mkF m 46 #[.val (.ref a1), .val (.int (204 : Int32)), .unset, .unset] [(.int (204 : Int32)), (.int (204 : Int32))])) _
      refine XS.icmpNo X5.here hx rfl (hb hby d1_46) rfl (teq (by decide +kernel : (204 : Int32) = (204 : Int32))).2 ?_
      show Steps p.tables e below (T5.setTop (mkF m 49 #[.val (.ref a1), .val (.int (204 : Int32)), .unset, .unset] [])) _
      refine XS.iconst X5.here hx rfl (hb hby d1_49) ?_
      show Steps p.tables e below (T5.setTop (mkF m 50 #[.val (.ref a1), .val (.int (204 : Int32)), .unset, .unset] [(.int (1 : Int32))])) _
      refine XS.goto X5.here hx rfl (pc0 := 50) (pc' := 98) rfl (hb hby d1_50) (by decide) (by decide) ?_
      show Steps p.tables e below (T5.setTop (mkF m 98 #[.val (.ref a1), .val (.int (204 : Int32)), .unset, .unset] [(.int (1 : Int32))])) _
      refine XS.istoreN X5.here hx rfl (hb hby d1_98) rfl (l' := #[.val (.ref a1), .val (.int (204 : Int32)), .val (.int (1 : Int32)), .unset]) rfl ?_
      show Steps p.tables e below (T5.setTop (mkF m 99 #[.val (.ref a1), .val (.int (204 : Int32)), .val (.int (1 : Int32)), .unset] [])) _
      refine XS.iloadN X5.here hx rfl (hb hby d1_99) rfl ?_
      show Steps p.tables e below (T5.setTop (mkF m 100 #[.val (.ref a1), .val (.int (204 : Int32)), .val (.int (1 : Int32)), .unset] [(.int (1 : Int32))])) _
      refine XS.ifNo X5.here hx rfl (hb hby d1_100) rfl ((if0 _ _).trans (feq (by decide +kernel : ¬ ((1 : Int32) = (0 : Int32)))).1) ?_
      show Steps p.tables e below (T5.setTop (mkF m 103 #[.val (.ref a1), .val (.int (204 : Int32)), .val (.int (1 : Int32)), .unset] [])) _
      refine st13 _ ?_
      show Steps p.tables e below (T13.setTop (mkF m 106 #[.val (.ref a1), .val (.int (204 : Int32)), .val (.int (1 : Int32)), .unset] [(.ref a11)])) _
      refine XS.astoreN X13.here hx rfl (hb hby d1_106) rfl rfl (l' := #[.val (.ref a1), .val (.int (204 : Int32)), .val (.int (1 : Int32)), .val (.ref a11)]) rfl ?_
      show Steps p.tables e below (T13.setTop (mkF m 107 #[.val (.ref a1), .val (.int (204 : Int32)), .val (.int (1 : Int32)), .val (.ref a11)] [])) _
      refine XS.goto X13.here hx rfl (pc0 := 107) (pc' := 135) rfl (hb hby d1_107) (by decide) (by decide) ?_
      show Steps p.tables e below (T13.setTop (mkF m 135 #[.val (.ref a1), .val (.int (204 : Int32)), .val (.int (1 : Int32)), .val (.ref a11)] [])) _
      refine XS.aloadN X13.here hx rfl (hb hby d1_135) rfl rfl ?_
      show Steps p.tables e below (T13.setTop (mkF m 136 #[.val (.ref a1), .val (.int (204 : Int32)), .val (.int (1 : Int32)), .val (.ref a11)] [(.ref a11)])) _
      jvm_step X13.here [X13.here.top, hx, (hb hby d1_136), X13.method', Bd.returns, Value.isRef, FieldType.isReference]
      first | (intro acts; rw [hr _ acts rfl rfl rfl]) | rw [hr _ _ rfl rfl rfl]
      exact Steps.refl _
    · show Q1_15 Z _ _ _ _ _ h0 n0 _ T13.heap _
      rw [e13]
      exact Or.inl (⟨rfl, rfl, N5, rfl⟩)
  · skip
    have pre14 : ∀ t, Steps p.tables e below (T5.setTop (mkF m 114 #[.val (.ref a1), .val (.int p2), .val (.int (0 : Int32)), .unset] [(.int (400 : Int32)), (.int p2)])) t → Steps p.tables e below (s₁.setTop (entryFrame m #[(.ref a1), (.int p2)] 4)) t := by
      intro t kt
      refine pre9 t ?_
      show Steps p.tables e below (T5.setTop (mkF m 46 #[.val (.ref a1), .val (.int p2), .unset, .unset] [(.int (204 : Int32)), (.int p2)])) _
      refine XS.icmpYes X5.here hx rfl (pc0 := 46) (pc' := 53) rfl (hb hby d1_46) rfl (feq hc10).2 (by decide) (by decide) ?_
      show Steps p.tables e below (T5.setTop (mkF m 53 #[.val (.ref a1), .val (.int p2), .unset, .unset] [])) _
      refine XS.iconst X5.here hx rfl (hb hby d1_53) ?_
      show Steps p.tables e below (T5.setTop (mkF m 54 #[.val (.ref a1), .val (.int p2), .unset, .unset] [(.int (0 : Int32))])) _
      refine XS.goto X5.here hx rfl (pc0 := 54) (pc' := 98) rfl (hb hby d1_54) (by decide) (by decide) ?_
      show Steps p.tables e below (T5.setTop (mkF m 98 #[.val (.ref a1), .val (.int p2), .unset, .unset] [(.int (0 : Int32))])) _
      refine XS.istoreN X5.here hx rfl (hb hby d1_98) rfl (l' := #[.val (.ref a1), .val (.int p2), .val (.int (0 : Int32)), .unset]) rfl ?_
      show Steps p.tables e below (T5.setTop (mkF m 99 #[.val (.ref a1), .val (.int p2), .val (.int (0 : Int32)), .unset] [])) _
      refine XS.iloadN X5.here hx rfl (hb hby d1_99) rfl ?_
      show Steps p.tables e below (T5.setTop (mkF m 100 #[.val (.ref a1), .val (.int p2), .val (.int (0 : Int32)), .unset] [(.int (0 : Int32))])) _
      refine XS.ifYes X5.here hx rfl (pc0 := 100) (pc' := 110) rfl (hb hby d1_100) rfl ((if0 _ _).trans (teq (by decide +kernel : (0 : Int32) = (0 : Int32))).1) (by decide) (by decide) ?_
      show Steps p.tables e below (T5.setTop (mkF m 110 #[.val (.ref a1), .val (.int p2), .val (.int (0 : Int32)), .unset] [])) _
      refine XS.iloadN X5.here hx rfl (hb hby d1_110) rfl ?_
      show Steps p.tables e below (T5.setTop (mkF m 111 #[.val (.ref a1), .val (.int p2), .val (.int (0 : Int32)), .unset] [(.int p2)])) _
      refine XS.sipush X5.here hx rfl (hb hby d1_111) ?_
      exact kt
    by_cases hc15 : p2 = (400 : Int32)
    · skip
      subst hc15
      obtain ⟨T18, X18, e18, st18⟩ := getS2 X5 hx hZ hown (host := "") (Or.inl (hw _ (gw 17 rfl))) Via.refl u8 (Sta.ext O0.2 S_17) (g := (mkF m 124 #[.val (.ref a1), .val (.int (400 : Int32)), .val (.int (0 : Int32)), .unset] [])) rfl (hb hby d1_124)
      obtain ⟨fs, hr, hrun, hended, hW, hsame⟩ := X18.leave (v := some (.ref a16)) (fun h => by rw [Bd.returns] at h; cases h)
      refine ⟨_, _, pre14 _ ?_, hrun, hended, _, _, rfl, ?_, ⟨_, rfl⟩, hW, hsame.mono (by decide) (by decide)⟩
      · show Steps p.tables e below (T5.setTop (mkF m 114 #[.val (.ref a1), .val (.int (400 : Int32)), .val (.int (0 : Int32)), .unset] [(.int (400 : Int32)), (.int (400 : Int32))])) _
        refine XS.icmpYes X5.here hx rfl (pc0 := 114) (pc' := 124) rfl (hb hby d1_114) rfl (teq (by decide +kernel : (400 : Int32) = (400 : Int32))).1 (by decide) (by decide) ?_
        show Steps p.tables e below (T5.setTop (mkF m 124 #[.val (.ref a1), .val (.int (400 : Int32)), .val (.int (0 : Int32)), .unset] [])) _
        refine st18 _ ?_
        show Steps p.tables e below (T18.setTop (mkF m 127 #[.val (.ref a1), .val (.int (400 : Int32)), .val (.int (0 : Int32)), .unset] [(.ref a16)])) _
        refine XS.astoreN X18.here hx rfl (hb hby d1_127) rfl rfl (l' := #[.val (.ref a1), .val (.int (400 : Int32)), .val (.int (0 : Int32)), .val (.ref a16)]) rfl ?_
        show Steps p.tables e below (T18.setTop (mkF m 128 #[.val (.ref a1), .val (.int (400 : Int32)), .val (.int (0 : Int32)), .val (.ref a16)] [])) _
        refine XS.goto X18.here hx rfl (pc0 := 128) (pc' := 135) rfl (hb hby d1_128) (by decide) (by decide) ?_
        show Steps p.tables e below (T18.setTop (mkF m 135 #[.val (.ref a1), .val (.int (400 : Int32)), .val (.int (0 : Int32)), .val (.ref a16)] [])) _
        refine XS.aloadN X18.here hx rfl (hb hby d1_135) rfl rfl ?_
        show Steps p.tables e below (T18.setTop (mkF m 136 #[.val (.ref a1), .val (.int (400 : Int32)), .val (.int (0 : Int32)), .val (.ref a16)] [(.ref a16)])) _
        jvm_step X18.here [X18.here.top, hx, (hb hby d1_136), X18.method', Bd.returns, Value.isRef, FieldType.isReference]
        first | (intro acts; rw [hr _ acts rfl rfl rfl]) | rw [hr _ _ rfl rfl rfl]
        exact Steps.refl _
      · show Q1_15 Z _ _ _ _ _ h0 n0 _ T18.heap _
        rw [e18]
        exact Or.inr (Or.inl (⟨rfl, hc10, rfl, N5, rfl⟩))
    · skip
      have pre19 : ∀ t, Steps p.tables e below (T5.setTop (mkF m 121 #[.val (.ref a1), .val (.int p2), .val (.int (0 : Int32)), .unset] [(.int (413 : Int32)), (.int p2)])) t → Steps p.tables e below (s₁.setTop (entryFrame m #[(.ref a1), (.int p2)] 4)) t := by
        intro t kt
        refine pre14 t ?_
        show Steps p.tables e below (T5.setTop (mkF m 114 #[.val (.ref a1), .val (.int p2), .val (.int (0 : Int32)), .unset] [(.int (400 : Int32)), (.int p2)])) _
        refine XS.icmpNo X5.here hx rfl (hb hby d1_114) rfl (feq hc15).1 ?_
        show Steps p.tables e below (T5.setTop (mkF m 117 #[.val (.ref a1), .val (.int p2), .val (.int (0 : Int32)), .unset] [])) _
        refine XS.iloadN X5.here hx rfl (hb hby d1_117) rfl ?_
        show Steps p.tables e below (T5.setTop (mkF m 118 #[.val (.ref a1), .val (.int p2), .val (.int (0 : Int32)), .unset] [(.int p2)])) _
        refine XS.sipush X5.here hx rfl (hb hby d1_118) ?_
        exact kt
      by_cases hc20 : p2 = (413 : Int32)
      · skip
        subst hc20
        obtain ⟨T21, X21, e21, st21⟩ := getS2 X5 hx hZ hown (host := "") (Or.inl (hw _ (gw 17 rfl))) Via.refl u8 (Sta.ext O0.2 S_17) (g := (mkF m 124 #[.val (.ref a1), .val (.int (413 : Int32)), .val (.int (0 : Int32)), .unset] [])) rfl (hb hby d1_124)
        obtain ⟨fs, hr, hrun, hended, hW, hsame⟩ := X21.leave (v := some (.ref a16)) (fun h => by rw [Bd.returns] at h; cases h)
        refine ⟨_, _, pre19 _ ?_, hrun, hended, _, _, rfl, ?_, ⟨_, rfl⟩, hW, hsame.mono (by decide) (by decide)⟩
        · show Steps p.tables e below (T5.setTop (mkF m 121 #[.val (.ref a1), .val (.int (413 : Int32)), .val (.int (0 : Int32)), .unset] [(.int (413 : Int32)), (.int (413 : Int32))])) _
          refine XS.icmpNo X5.here hx rfl (hb hby d1_121) rfl (teq (by decide +kernel : (413 : Int32) = (413 : Int32))).2 ?_
          show Steps p.tables e below (T5.setTop (mkF m 124 #[.val (.ref a1), .val (.int (413 : Int32)), .val (.int (0 : Int32)), .unset] [])) _
          refine st21 _ ?_
          show Steps p.tables e below (T21.setTop (mkF m 127 #[.val (.ref a1), .val (.int (413 : Int32)), .val (.int (0 : Int32)), .unset] [(.ref a16)])) _
          refine XS.astoreN X21.here hx rfl (hb hby d1_127) rfl rfl (l' := #[.val (.ref a1), .val (.int (413 : Int32)), .val (.int (0 : Int32)), .val (.ref a16)]) rfl ?_
          show Steps p.tables e below (T21.setTop (mkF m 128 #[.val (.ref a1), .val (.int (413 : Int32)), .val (.int (0 : Int32)), .val (.ref a16)] [])) _
          refine XS.goto X21.here hx rfl (pc0 := 128) (pc' := 135) rfl (hb hby d1_128) (by decide) (by decide) ?_
          show Steps p.tables e below (T21.setTop (mkF m 135 #[.val (.ref a1), .val (.int (413 : Int32)), .val (.int (0 : Int32)), .val (.ref a16)] [])) _
          refine XS.aloadN X21.here hx rfl (hb hby d1_135) rfl rfl ?_
          show Steps p.tables e below (T21.setTop (mkF m 136 #[.val (.ref a1), .val (.int (413 : Int32)), .val (.int (0 : Int32)), .val (.ref a16)] [(.ref a16)])) _
          jvm_step X21.here [X21.here.top, hx, (hb hby d1_136), X21.method', Bd.returns, Value.isRef, FieldType.isReference]
          first | (intro acts; rw [hr _ acts rfl rfl rfl]) | rw [hr _ _ rfl rfl rfl]
          exact Steps.refl _
        · show Q1_15 Z _ _ _ _ _ h0 n0 _ T21.heap _
          rw [e21]
          exact Or.inr (Or.inr (Or.inl (⟨rfl, hc10, hc15, rfl, N5, rfl⟩)))
      · skip
        obtain ⟨T24, X24, e24, st24⟩ := getS2 X5 hx hZ hown (host := "") (Or.inl (hw _ (gw 31 rfl))) Via.refl u8 (Sta.ext O0.2 S_23) (g := (mkF m 131 #[.val (.ref a1), .val (.int p2), .val (.int (0 : Int32)), .unset] [])) rfl (hb hby d1_131)
        obtain ⟨fs, hr, hrun, hended, hW, hsame⟩ := X24.leave (v := some (.ref a22)) (fun h => by rw [Bd.returns] at h; cases h)
        refine ⟨_, _, pre19 _ ?_, hrun, hended, _, _, rfl, ?_, ⟨_, rfl⟩, hW, hsame.mono (by decide) (by decide)⟩
        · show Steps p.tables e below (T5.setTop (mkF m 121 #[.val (.ref a1), .val (.int p2), .val (.int (0 : Int32)), .unset] [(.int (413 : Int32)), (.int p2)])) _
          refine XS.icmpYes X5.here hx rfl (pc0 := 121) (pc' := 131) rfl (hb hby d1_121) rfl (feq hc20).2 (by decide) (by decide) ?_
          show Steps p.tables e below (T5.setTop (mkF m 131 #[.val (.ref a1), .val (.int p2), .val (.int (0 : Int32)), .unset] [])) _
          refine st24 _ ?_
          show Steps p.tables e below (T24.setTop (mkF m 134 #[.val (.ref a1), .val (.int p2), .val (.int (0 : Int32)), .unset] [(.ref a22)])) _
          refine XS.astoreN X24.here hx rfl (hb hby d1_134) rfl rfl (l' := #[.val (.ref a1), .val (.int p2), .val (.int (0 : Int32)), .val (.ref a22)]) rfl ?_
          show Steps p.tables e below (T24.setTop (mkF m 135 #[.val (.ref a1), .val (.int p2), .val (.int (0 : Int32)), .val (.ref a22)] [])) _
          refine XS.aloadN X24.here hx rfl (hb hby d1_135) rfl rfl ?_
          show Steps p.tables e below (T24.setTop (mkF m 136 #[.val (.ref a1), .val (.int p2), .val (.int (0 : Int32)), .val (.ref a22)] [(.ref a22)])) _
          jvm_step X24.here [X24.here.top, hx, (hb hby d1_136), X24.method', Bd.returns, Value.isRef, FieldType.isReference]
          first | (intro acts; rw [hr _ acts rfl rfl rfl]) | rw [hr _ _ rfl rfl rfl]
          exact Steps.refl _
        · show Q1_15 Z _ _ _ _ _ h0 n0 _ T24.heap _
          rw [e24]
          exact Or.inr (Or.inr (Or.inr (⟨hc10, hc15, hc20, rfl, N5, rfl⟩)))
theorem ef_rm3_16 (m : MethodId) (x1 : Int32) : entryFrame m #[(.int (0 : Int32)), (.int x1)] 2 = mkF m 0 #[.val (.int (0 : Int32)), .val (.int x1)] [] := by first | (simp [entryFrame, mkF, argsToLocals, Value.category]; done) | rfl
def Q3_16 (Z : State) (p1 : Int32) (a5 : Addr) (h0 : Heap) (n0 : Nat) (v : Option Value) (h : Heap) (L : List Loc) : Prop := (p1 = (200 : Int32) ∧ v = some (.ref a5) ∧ Fr n0 L ∧ h = h0) ∨ (p1 = (404 : Int32) ∧ ¬ ((404 : Int32) = (200 : Int32)) ∧ v = some (.ref a5) ∧ Fr n0 L ∧ h = h0) ∨ (¬ (p1 = (200 : Int32)) ∧ ¬ (p1 = (404 : Int32)) ∧ v = some (.ref a5) ∧ Fr n0 L ∧ h = h0)
set_option maxRecDepth 65536 in
set_option maxHeartbeats 40000000 in
theorem rm3_16 (l : Launch) (Z : State) (a0 : Array Value) (hw : ∀ d ∈ own_ws, d.before a0 Z = true) (ws : List Jvm.Cond) (p1 : Int32) (a5 : Addr) (h0 : Heap) (n0 : Nat) (O0 : Old Z n0 h0) (hk2 : ¬ (p1 = (204 : Int32))) (S_6 : Sta Z Z.heap "com/example/ringstead/ringstead/node/History$Type" "INFO" "Lcom/example/ringstead/ringstead/node/History$Type;" (.ref a5)) (hk11 : ¬ (p1 = (400 : Int32))) (hk12 : ¬ (p1 = (413 : Int32))) :
    MetFree l M_3 (head1 (Jvm.Cond.code M_3 method_2_code 2 (some (.object "com/example/ringstead/ringstead/node/History$Type")) :: ws) ({ frames := 0, cells := 0, slots := 0, locals := 0 } : Room)) (fun a U => a = #[(.int (0 : Int32)), (.int p1)] ∧ Z.Warmed39 U.vm ∧ U.heap = h0) (fun _ _ _ _ _ => True) (fun _ U o U' => ∃ v L, o = .returned v ∧ Q3_16 Z p1 a5 h0 n0 v U'.heap L ∧ FrameEnd U o U' L ({ frames := 0, cells := 0, slots := 0, locals := 0 } : Room).cells ({ frames := 0, cells := 0, slots := 0, locals := 0 } : Room).slots) := by
  refine MetFree.of_bodySF (plainFor_of_name pn_2) hisR ?_
  intro p e s m args below meth c s₁ Bd hml0 hP hK
  obtain ⟨rfl, hZ, hh⟩ := hP
  have hx := Bd.exec
  have hby := Bd.bytes
  have hml : c.maxLocals = 2 := hml0
  have hown : s.vm.findClass "com/example/ringstead/ringstead/node/TypeOfPinLaw" = some m.cls := findClass_of_methodNamed Bd.named
  have hnm := (name_of_methodNamed Bd.named Bd.method).1
  have X0 : Stand p l e ({ frames := 0, cells := 0, slots := 0, locals := 0 } : Room) s m #[(.int (0 : Int32)), (.int p1)] below meth c s₁ [] 0 0 := Stand.of_body Bd
  have e0 : s₁.heap = h0 := by rw [← hh, Bd.state]; rfl
  have N0 := Fr.nil n0
  have pre0 : ∀ t, Steps p.tables e below (s₁.setTop (mkF m 0 #[.val (.int (0 : Int32)), .val (.int p1)] [])) t → Steps p.tables e below (s₁.setTop (entryFrame m #[(.int (0 : Int32)), (.int p1)] 2)) t := fun t k => castTop (ef_rm3_16 m p1) k
  have pre3 : ∀ t, Steps p.tables e below (s₁.setTop (mkF m 26 #[.val (.int (0 : Int32)), .val (.int p1)] [(.int (200 : Int32)), (.int p1)])) t → Steps p.tables e below (s₁.setTop (entryFrame m #[(.int (0 : Int32)), (.int p1)] 2)) t := by
    intro t kt
    refine pre0 t ?_
    show Steps p.tables e below (s₁.setTop (mkF m 0 #[.val (.int (0 : Int32)), .val (.int p1)] [])) _
    refine XS.iloadN X0.here hx rfl (hb hby d3_0) rfl ?_
    show Steps p.tables e below (s₁.setTop (mkF m 1 #[.val (.int (0 : Int32)), .val (.int p1)] [(.int p1)])) _
    refine XS.sipush X0.here hx rfl (hb hby d3_1) ?_
    show Steps p.tables e below (s₁.setTop (mkF m 4 #[.val (.int (0 : Int32)), .val (.int p1)] [(.int (204 : Int32)), (.int p1)])) _
    refine XS.icmpYes X0.here hx rfl (pc0 := 4) (pc' := 22) rfl (hb hby d3_4) rfl (feq hk2).2 (by decide) (by decide) ?_
    show Steps p.tables e below (s₁.setTop (mkF m 22 #[.val (.int (0 : Int32)), .val (.int p1)] [])) _
    refine XS.iloadN X0.here hx rfl (hb hby d3_22) rfl ?_
    show Steps p.tables e below (s₁.setTop (mkF m 23 #[.val (.int (0 : Int32)), .val (.int p1)] [(.int p1)])) _
    refine XS.sipush X0.here hx rfl (hb hby d3_23) ?_
    exact kt
  by_cases hc4 : p1 = (200 : Int32)
  · skip
    subst hc4
    obtain ⟨T7, X7, e7, st7⟩ := getS2 X0 hx hZ hown (host := "") (Or.inl (hw _ (gw 33 rfl))) Via.refl e0 (Sta.ext O0.2 S_6) (g := (mkF m 40 #[.val (.int (0 : Int32)), .val (.int (200 : Int32))] [])) rfl (hb hby d3_40)
    obtain ⟨fs, hr, hrun, hended, hW, hsame⟩ := X7.leave (v := some (.ref a5)) (fun h => by rw [Bd.returns] at h; cases h)
    refine ⟨_, _, pre3 _ ?_, hrun, hended, _, _, rfl, ?_, ⟨_, rfl⟩, hW, hsame.mono (by decide) (by decide)⟩
    · show Steps p.tables e below (s₁.setTop (mkF m 26 #[.val (.int (0 : Int32)), .val (.int (200 : Int32))] [(.int (200 : Int32)), (.int (200 : Int32))])) _
      refine XS.icmpNo X0.here hx rfl (hb hby d3_26) rfl (teq (by decide +kernel : (200 : Int32) = (200 : Int32))).2 ?_
      show Steps p.tables e below (s₁.setTop (mkF m 29 #[.val (.int (0 : Int32)), .val (.int (200 : Int32))] [])) _
      refine XS.iloadN X0.here hx rfl (hb hby d3_29) rfl ?_
      show Steps p.tables e below (s₁.setTop (mkF m 30 #[.val (.int (0 : Int32)), .val (.int (200 : Int32))] [(.int (0 : Int32))])) _
      refine XS.iconst X0.here hx rfl (hb hby d3_30) ?_
      show Steps p.tables e below (s₁.setTop (mkF m 31 #[.val (.int (0 : Int32)), .val (.int (200 : Int32))] [(.int (1 : Int32)), (.int (0 : Int32))])) _
      refine XS.icmpYes X0.here hx rfl (pc0 := 31) (pc' := 40) rfl (hb hby d3_31) rfl (feq (by decide +kernel : ¬ ((0 : Int32) = (1 : Int32)))).2 (by decide) (by decide) ?_
      show Steps p.tables e below (s₁.setTop (mkF m 40 #[.val (.int (0 : Int32)), .val (.int (200 : Int32))] [])) _
      refine st7 _ ?_
      show Steps p.tables e below (T7.setTop (mkF m 43 #[.val (.int (0 : Int32)), .val (.int (200 : Int32))] [(.ref a5)])) _
      jvm_step X7.here [X7.here.top, hx, (hb hby d3_43), X7.method', Bd.returns, Value.isRef, FieldType.isReference]
      first | (intro acts; rw [hr _ acts rfl rfl rfl]) | rw [hr _ _ rfl rfl rfl]
      exact Steps.refl _
    · show Q3_16 Z _ _ h0 n0 _ T7.heap _
      rw [e7]
      exact Or.inl (⟨rfl, rfl, N0, rfl⟩)
  · skip
    have pre8 : ∀ t, Steps p.tables e below (s₁.setTop (mkF m 48 #[.val (.int (0 : Int32)), .val (.int p1)] [(.int (404 : Int32)), (.int p1)])) t → Steps p.tables e below (s₁.setTop (entryFrame m #[(.int (0 : Int32)), (.int p1)] 2)) t := by
      intro t kt
      refine pre3 t ?_
      show Steps p.tables e below (s₁.setTop (mkF m 26 #[.val (.int (0 : Int32)), .val (.int p1)] [(.int (200 : Int32)), (.int p1)])) _
      refine XS.icmpYes X0.here hx rfl (pc0 := 26) (pc' := 44) rfl (hb hby d3_26) rfl (feq hc4).2 (by decide) (by decide) ?_
      show Steps p.tables e below (s₁.setTop (mkF m 44 #[.val (.int (0 : Int32)), .val (.int p1)] [])) _
      refine XS.iloadN X0.here hx rfl (hb hby d3_44) rfl ?_
      show Steps p.tables e below (s₁.setTop (mkF m 45 #[.val (.int (0 : Int32)), .val (.int p1)] [(.int p1)])) _
      refine XS.sipush X0.here hx rfl (hb hby d3_45) ?_
      exact kt
    by_cases hc9 : p1 = (404 : Int32)
    · skip
      subst hc9
      obtain ⟨T10, X10, e10, st10⟩ := getS2 X0 hx hZ hown (host := "") (Or.inl (hw _ (gw 33 rfl))) Via.refl e0 (Sta.ext O0.2 S_6) (g := (mkF m 55 #[.val (.int (0 : Int32)), .val (.int (404 : Int32))] [])) rfl (hb hby d3_55)
      obtain ⟨fs, hr, hrun, hended, hW, hsame⟩ := X10.leave (v := some (.ref a5)) (fun h => by rw [Bd.returns] at h; cases h)
      refine ⟨_, _, pre8 _ ?_, hrun, hended, _, _, rfl, ?_, ⟨_, rfl⟩, hW, hsame.mono (by decide) (by decide)⟩
      · show Steps p.tables e below (s₁.setTop (mkF m 48 #[.val (.int (0 : Int32)), .val (.int (404 : Int32))] [(.int (404 : Int32)), (.int (404 : Int32))])) _
        refine XS.icmpNo X0.here hx rfl (hb hby d3_48) rfl (teq (by decide +kernel : (404 : Int32) = (404 : Int32))).2 ?_
        show Steps p.tables e below (s₁.setTop (mkF m 51 #[.val (.int (0 : Int32)), .val (.int (404 : Int32))] [])) _
        refine XS.iloadN X0.here hx rfl (hb hby d3_51) rfl ?_
        show Steps p.tables e below (s₁.setTop (mkF m 52 #[.val (.int (0 : Int32)), .val (.int (404 : Int32))] [(.int (0 : Int32))])) _
        refine XS.ifNo X0.here hx rfl (hb hby d3_52) rfl ((if0 _ _).trans (teq (by decide +kernel : (0 : Int32) = (0 : Int32))).2) ?_
        show Steps p.tables e below (s₁.setTop (mkF m 55 #[.val (.int (0 : Int32)), .val (.int (404 : Int32))] [])) _
        refine st10 _ ?_
        show Steps p.tables e below (T10.setTop (mkF m 58 #[.val (.int (0 : Int32)), .val (.int (404 : Int32))] [(.ref a5)])) _
        refine XS.goto X10.here hx rfl (pc0 := 58) (pc' := 64) rfl (hb hby d3_58) (by decide) (by decide) ?_
        show Steps p.tables e below (T10.setTop (mkF m 64 #[.val (.int (0 : Int32)), .val (.int (404 : Int32))] [(.ref a5)])) _
        jvm_step X10.here [X10.here.top, hx, (hb hby d3_64), X10.method', Bd.returns, Value.isRef, FieldType.isReference]
        first | (intro acts; rw [hr _ acts rfl rfl rfl]) | rw [hr _ _ rfl rfl rfl]
        exact Steps.refl _
      · show Q3_16 Z _ _ h0 n0 _ T10.heap _
        rw [e10]
        exact Or.inr (Or.inl (⟨rfl, hc4, rfl, N0, rfl⟩))
    · skip
      obtain ⟨T13, X13, e13, st13⟩ := getS2 X0 hx hZ hown (host := "") (Or.inl (hw _ (gw 33 rfl))) Via.refl e0 (Sta.ext O0.2 S_6) (g := (mkF m 83 #[.val (.int (0 : Int32)), .val (.int p1)] [])) rfl (hb hby d3_83)
      obtain ⟨fs, hr, hrun, hended, hW, hsame⟩ := X13.leave (v := some (.ref a5)) (fun h => by rw [Bd.returns] at h; cases h)
      refine ⟨_, _, pre8 _ ?_, hrun, hended, _, _, rfl, ?_, ⟨_, rfl⟩, hW, hsame.mono (by decide) (by decide)⟩
      · show Steps p.tables e below (s₁.setTop (mkF m 48 #[.val (.int (0 : Int32)), .val (.int p1)] [(.int (404 : Int32)), (.int p1)])) _
        refine XS.icmpYes X0.here hx rfl (pc0 := 48) (pc' := 65) rfl (hb hby d3_48) rfl (feq hc9).2 (by decide) (by decide) ?_
        show Steps p.tables e below (s₁.setTop (mkF m 65 #[.val (.int (0 : Int32)), .val (.int p1)] [])) _
        refine XS.iloadN X0.here hx rfl (hb hby d3_65) rfl ?_
        show Steps p.tables e below (s₁.setTop (mkF m 66 #[.val (.int (0 : Int32)), .val (.int p1)] [(.int p1)])) _
        refine XS.sipush X0.here hx rfl (hb hby d3_66) ?_
        show Steps p.tables e below (s₁.setTop (mkF m 69 #[.val (.int (0 : Int32)), .val (.int p1)] [(.int (400 : Int32)), (.int p1)])) _
        refine XS.icmpNo X0.here hx rfl (hb hby d3_69) rfl (feq hk11).1 ?_
        show Steps p.tables e below (s₁.setTop (mkF m 72 #[.val (.int (0 : Int32)), .val (.int p1)] [])) _
        refine XS.iloadN X0.here hx rfl (hb hby d3_72) rfl ?_
        show Steps p.tables e below (s₁.setTop (mkF m 73 #[.val (.int (0 : Int32)), .val (.int p1)] [(.int p1)])) _
        refine XS.sipush X0.here hx rfl (hb hby d3_73) ?_
        show Steps p.tables e below (s₁.setTop (mkF m 76 #[.val (.int (0 : Int32)), .val (.int p1)] [(.int (413 : Int32)), (.int p1)])) _
        refine XS.icmpYes X0.here hx rfl (pc0 := 76) (pc' := 83) rfl (hb hby d3_76) rfl (feq hk12).2 (by decide) (by decide) ?_
        show Steps p.tables e below (s₁.setTop (mkF m 83 #[.val (.int (0 : Int32)), .val (.int p1)] [])) _
        refine st13 _ ?_
        show Steps p.tables e below (T13.setTop (mkF m 86 #[.val (.int (0 : Int32)), .val (.int p1)] [(.ref a5)])) _
        jvm_step X13.here [X13.here.top, hx, (hb hby d3_86), X13.method', Bd.returns, Value.isRef, FieldType.isReference]
        first | (intro acts; rw [hr _ acts rfl rfl rfl]) | rw [hr _ _ rfl rfl rfl]
        exact Steps.refl _
      · show Q3_16 Z _ _ h0 n0 _ T13.heap _
        rw [e13]
        exact Or.inr (Or.inr (⟨hc4, hc9, rfl, N0, rfl⟩))
theorem ef_rm2_18 (m : MethodId) (x0 : Addr) : entryFrame m #[(.ref x0)] 1 = mkF m 0 #[.val (.ref x0)] [] := by first | (simp [entryFrame, mkF, argsToLocals, Value.category]; done) | rfl
def Q2_18 (Z : State) (a1 : Addr) (h0 : Heap) (n0 : Nat) (v : Option Value) (h : Heap) (L : List Loc) : Prop := (v = some (.int (1 : Int32)) ∧ Fr n0 L ∧ h = h0)
set_option maxRecDepth 65536 in
set_option maxHeartbeats 40000000 in
theorem rm2_18 (l : Launch) (Z : State) (a0 : Array Value) (hw : ∀ d ∈ own_ws, d.before a0 Z = true) (ws : List Jvm.Cond) (a1 : Addr) (h0 : Heap) (n0 : Nat) (O0 : Old Z n0 h0) (F2 : Fld Z Z.heap a1 "java/lang/Enum" "ordinal" "I" (.int (1 : Int32))) :
    MetFree l M_0 (head1 (Jvm.Cond.code M_0 jdk_37_method_2_code 1 (some .int) :: ws) ({ frames := 0, cells := 0, slots := 0, locals := 0 } : Room)) (fun a U => a = #[(.ref a1)] ∧ Z.Warmed39 U.vm ∧ U.heap = h0) (fun _ _ _ _ _ => True) (fun _ U o U' => ∃ v L, o = .returned v ∧ Q2_18 Z a1 h0 n0 v U'.heap L ∧ FrameEnd U o U' L ({ frames := 0, cells := 0, slots := 0, locals := 0 } : Room).cells ({ frames := 0, cells := 0, slots := 0, locals := 0 } : Room).slots) := by
  refine MetFree.of_bodySF (plainFor_of_name pn_0) hisR ?_
  intro p e s m args below meth c s₁ Bd hml0 hP hK
  obtain ⟨rfl, hZ, hh⟩ := hP
  have hx := Bd.exec
  have hby := Bd.bytes
  have hml : c.maxLocals = 1 := hml0
  have hown : s.vm.findClass "java/lang/Enum" = some m.cls := findClass_of_methodNamed Bd.named
  have hnm := (name_of_methodNamed Bd.named Bd.method).1
  have X0 : Stand p l e ({ frames := 0, cells := 0, slots := 0, locals := 0 } : Room) s m #[(.ref a1)] below meth c s₁ [] 0 0 := Stand.of_body Bd
  have e0 : s₁.heap = h0 := by rw [← hh, Bd.state]; rfl
  have N0 := Fr.nil n0
  have pre0 : ∀ t, Steps p.tables e below (s₁.setTop (mkF m 0 #[.val (.ref a1)] [])) t → Steps p.tables e below (s₁.setTop (entryFrame m #[(.ref a1)] 1)) t := fun t k => castTop (ef_rm2_18 m a1) k
  obtain ⟨T3, X3, e3, st3⟩ := getF X0 hx hZ hown (host := "") (Or.inl (hw _ (gw 15 rfl))) Via.refl e0 (Fld.ext O0.2 F2) (g := (mkF m 1 #[.val (.ref a1)] [(.ref a1)])) rfl rfl (hb hby d2_1)
  obtain ⟨fs, hr, hrun, hended, hW, hsame⟩ := X3.leave (v := some (.int (1 : Int32))) (fun h => by rw [Bd.returns] at h; cases h)
  refine ⟨_, _, pre0 _ ?_, hrun, hended, _, _, rfl, ?_, ⟨_, rfl⟩, hW, hsame.mono (by decide) (by decide)⟩
  · show Steps p.tables e below (s₁.setTop (mkF m 0 #[.val (.ref a1)] [])) _
    refine XS.aloadN X0.here hx rfl (hb hby d2_0) rfl rfl ?_
    show Steps p.tables e below (s₁.setTop (mkF m 1 #[.val (.ref a1)] [(.ref a1)])) _
    refine st3 _ ?_
    show Steps p.tables e below (T3.setTop (mkF m 4 #[.val (.ref a1)] [(.int (1 : Int32))])) _
    exact retI X3 hx Bd.returns (hb hby d2_4) hr
  · show Q2_18 Z _ h0 n0 _ T3.heap _
    rw [e3]
    exact ⟨rfl, N0, rfl⟩
theorem ef_rm1_17 (m : MethodId) (x0 : Addr) : entryFrame m #[(.ref x0), (.int (200 : Int32))] 4 = mkF m 0 #[.val (.ref x0), .val (.int (200 : Int32)), .unset, .unset] [] := by first | (simp [entryFrame, mkF, argsToLocals, Value.category]; done) | rfl
def Q1_17 (Z : State) (a1 : Addr) (a8 : Addr) (h0 : Heap) (n0 : Nat) (v : Option Value) (h : Heap) (L : List Loc) : Prop := (v = some (.ref a8) ∧ Fr n0 L ∧ h = h0)
set_option maxRecDepth 65536 in
set_option maxHeartbeats 40000000 in
theorem rm1_17 (l : Launch) (Z : State) (a0 : Array Value) (hw : ∀ d ∈ own_ws, d.before a0 Z = true) (ws : List Jvm.Cond) (a1 : Addr) (a8 : Addr) (h0 : Heap) (n0 : Nat) (O0 : Old Z n0 h0) (E_2 : Exa Z Z.heap a1 "com/example/ringstead/ringstead/node/History$Operation") (F3 : Fld Z Z.heap a1 "java/lang/Enum" "ordinal" "I" (.int (1 : Int32))) (S_9 : Sta Z Z.heap "com/example/ringstead/ringstead/node/History$Type" "OK" "Lcom/example/ringstead/ringstead/node/History$Type;" (.ref a8)) :
    MetFree l M_2 (head1 (Jvm.Cond.code M_2 prog_19_method_5_code 4 (some (.object "com/example/ringstead/ringstead/node/History$Type")) :: ws) ({ frames := 1, cells := 0, slots := 0, locals := 12 } : Room)) (fun a U => a = #[(.ref a1), (.int (200 : Int32))] ∧ Z.Warmed39 U.vm ∧ U.heap = h0) (fun _ _ _ _ _ => True) (fun _ U o U' => ∃ v L, o = .returned v ∧ Q1_17 Z a1 a8 h0 n0 v U'.heap L ∧ FrameEnd U o U' L ({ frames := 1, cells := 0, slots := 0, locals := 12 } : Room).cells ({ frames := 1, cells := 0, slots := 0, locals := 12 } : Room).slots) := by
  refine MetFree.of_bodySF (plainFor_of_name pn_1) hisR ?_
  intro p e s m args below meth c s₁ Bd hml0 hP hK
  obtain ⟨rfl, hZ, hh⟩ := hP
  have hx := Bd.exec
  have hby := Bd.bytes
  have hml : c.maxLocals = 4 := hml0
  have hown : s.vm.findClass "com/example/ringstead/ringstead/node/History$Type" = some m.cls := findClass_of_methodNamed Bd.named
  have hnm := (name_of_methodNamed Bd.named Bd.method).1
  have X0 : Stand p l e ({ frames := 1, cells := 0, slots := 0, locals := 12 } : Room) s m #[(.ref a1), (.int (200 : Int32))] below meth c s₁ [] 0 0 := Stand.of_body Bd
  have e0 : s₁.heap = h0 := by rw [← hh, Bd.state]; rfl
  have N0 := Fr.nil n0
  have pre0 : ∀ t, Steps p.tables e below (s₁.setTop (mkF m 0 #[.val (.ref a1), .val (.int (200 : Int32)), .unset, .unset] [])) t → Steps p.tables e below (s₁.setTop (entryFrame m #[(.ref a1), (.int (200 : Int32))] 4)) t := fun t k => castTop (ef_rm1_17 m a1) k
  obtain ⟨cq4, kq4, q4a, q4b, q4c⟩ := isOf hZ e0 (Exa.ext O0.2 E_2)
  obtain ⟨_, _, ⟨T4, L4, k4, n4⟩, -, X4, ⟨Lc4, hQ4, l4, y4, z4⟩, st4⟩ := X0.virtualBackUp hx (owner := "java/lang/Enum") (x := M_1) (y := M_0) hown (mvT hZ (hw _ (gw 8 rfl))) (mvT hZ (hw _ (gw 9 rfl))) (mvT hZ (hw _ (gw 10 rfl))) (by decide) (mvT hZ (hw _ (gw 12 rfl))) (mvT hZ (hw _ (gw 11 rfl))) (backOf (W := 0) (rm2_18 l Z a0 hw [] a1 h0 n0  O0 F3) hZ (hw _ (gw 14 rfl)) (hw _ (gw 13 rfl)) (by decide) (by decide)) q4a q4c (g := (mkF m 1 #[.val (.ref a1), .val (.int (200 : Int32)), .unset, .unset] [(.ref a1)])) rfl (by rw [hml]; rfl) (Steps.refl _) (argsL := []) (rest := []) (lenOf pd_0 rfl) rfl (by show 2 * 0 + _ ≤ _; exact Nat.le_of_eq rfl) (hb hby d1_1) (fun _ _ => ⟨rfl, e0, (by decide : 0 + 0 ≤ _), (by decide : 0 + 0 ≤ _)⟩)
  dsimp only [Pt.U, Pt.locs, Pt.cells, Pt.slots] at X4 l4 y4 z4 st4 hQ4
  subst l4 y4 z4
  obtain ⟨rfl, u6, u7⟩ := hQ4
  have N4 := Fr.app N0 u6
  obtain ⟨T10, X10, e10, st10⟩ := getS2 X4 hx hZ hown (host := "") (Or.inl (hw _ (gw 28 rfl))) Via.refl u7 (Sta.ext O0.2 S_9) (g := (mkF m 103 #[.val (.ref a1), .val (.int (200 : Int32)), .val (.int (1 : Int32)), .unset] [])) rfl (hb hby d1_103)
  obtain ⟨fs, hr, hrun, hended, hW, hsame⟩ := X10.leave (v := some (.ref a8)) (fun h => by rw [Bd.returns] at h; cases h)
  refine ⟨_, _, pre0 _ ?_, hrun, hended, _, _, rfl, ?_, ⟨_, rfl⟩, hW, hsame.mono (by decide) (by decide)⟩
  · show Steps p.tables e below (s₁.setTop (mkF m 0 #[.val (.ref a1), .val (.int (200 : Int32)), .unset, .unset] [])) _
    refine XS.aloadN X0.here hx rfl (hb hby d1_0) rfl rfl ?_
    show Steps p.tables e below (s₁.setTop (mkF m 1 #[.val (.ref a1), .val (.int (200 : Int32)), .unset, .unset] [(.ref a1)])) _
    refine st4.trans ?_
    show Steps p.tables e below (T4.setTop (mkF m 4 #[.val (.ref a1), .val (.int (200 : Int32)), .unset, .unset] [(.int (1 : Int32))])) _
    refine XS.tswIn X4.here hx rfl (pc0 := 4) (pc' := 57) rfl (hb hby d1_4) rfl (by decide) (o := 53) rfl (by decide) (by decide) ?_
    show Steps p.tables e below (T4.setTop (mkF m 57 #[.val (.ref a1), .val (.int (200 : Int32)), .unset, .unset] [])) _
    refine XS.iloadN X4.here hx rfl (hb hby d1_57) rfl ?_
    show Steps p.tables e below (T4.setTop (mkF m 58 #[.val (.ref a1), .val (.int (200 : Int32)), .unset, .unset] [(.int (200 : Int32))])) _
    refine XS.sipush X4.here hx rfl (hb hby d1_58) ?_
    show Steps p.tables e below (T4.setTop (mkF m 61 #[.val (.ref a1), .val (.int (200 : Int32)), .unset, .unset] [(.int (200 : Int32)), (.int (200 : Int32))])) _
    refine XS.icmpYes X4.here hx rfl (pc0 := 61) (pc' := 71) rfl (hb hby d1_61) rfl (teq (by decide +kernel : (200 : Int32) = (200 : Int32))).1 (by decide) (by decide) ?_
    show Steps p.tables e below (T4.setTop (mkF m 71 #[.val (.ref a1), .val (.int (200 : Int32)), .unset, .unset] [])) _
    refine XS.iconst X4.here hx rfl (hb hby d1_71) ?_
    show Steps p.tables e below (T4.setTop (mkF m 72 #[.val (.ref a1), .val (.int (200 : Int32)), .unset, .unset] [(.int (1 : Int32))])) _
    refine XS.goto X4.here hx rfl (pc0 := 72) (pc' := 98) rfl (hb hby d1_72) (by decide) (by decide) ?_
    show Steps p.tables e below (T4.setTop (mkF m 98 #[.val (.ref a1), .val (.int (200 : Int32)), .unset, .unset] [(.int (1 : Int32))])) _
    refine XS.istoreN X4.here hx rfl (hb hby d1_98) rfl (l' := #[.val (.ref a1), .val (.int (200 : Int32)), .val (.int (1 : Int32)), .unset]) rfl ?_
    show Steps p.tables e below (T4.setTop (mkF m 99 #[.val (.ref a1), .val (.int (200 : Int32)), .val (.int (1 : Int32)), .unset] [])) _
    refine XS.iloadN X4.here hx rfl (hb hby d1_99) rfl ?_
    show Steps p.tables e below (T4.setTop (mkF m 100 #[.val (.ref a1), .val (.int (200 : Int32)), .val (.int (1 : Int32)), .unset] [(.int (1 : Int32))])) _
    refine XS.ifNo X4.here hx rfl (hb hby d1_100) rfl ((if0 _ _).trans (feq (by decide +kernel : ¬ ((1 : Int32) = (0 : Int32)))).1) ?_
    show Steps p.tables e below (T4.setTop (mkF m 103 #[.val (.ref a1), .val (.int (200 : Int32)), .val (.int (1 : Int32)), .unset] [])) _
    refine st10 _ ?_
    show Steps p.tables e below (T10.setTop (mkF m 106 #[.val (.ref a1), .val (.int (200 : Int32)), .val (.int (1 : Int32)), .unset] [(.ref a8)])) _
    refine XS.astoreN X10.here hx rfl (hb hby d1_106) rfl rfl (l' := #[.val (.ref a1), .val (.int (200 : Int32)), .val (.int (1 : Int32)), .val (.ref a8)]) rfl ?_
    show Steps p.tables e below (T10.setTop (mkF m 107 #[.val (.ref a1), .val (.int (200 : Int32)), .val (.int (1 : Int32)), .val (.ref a8)] [])) _
    refine XS.goto X10.here hx rfl (pc0 := 107) (pc' := 135) rfl (hb hby d1_107) (by decide) (by decide) ?_
    show Steps p.tables e below (T10.setTop (mkF m 135 #[.val (.ref a1), .val (.int (200 : Int32)), .val (.int (1 : Int32)), .val (.ref a8)] [])) _
    refine XS.aloadN X10.here hx rfl (hb hby d1_135) rfl rfl ?_
    show Steps p.tables e below (T10.setTop (mkF m 136 #[.val (.ref a1), .val (.int (200 : Int32)), .val (.int (1 : Int32)), .val (.ref a8)] [(.ref a8)])) _
    jvm_step X10.here [X10.here.top, hx, (hb hby d1_136), X10.method', Bd.returns, Value.isRef, FieldType.isReference]
    first | (intro acts; rw [hr _ acts rfl rfl rfl]) | rw [hr _ _ rfl rfl rfl]
    exact Steps.refl _
  · show Q1_17 Z _ _ h0 n0 _ T10.heap _
    rw [e10]
    exact ⟨rfl, N4, rfl⟩
theorem ef_rm3_19 (m : MethodId)  : entryFrame m #[(.int (1 : Int32)), (.int (200 : Int32))] 2 = mkF m 0 #[.val (.int (1 : Int32)), .val (.int (200 : Int32))] [] := by first | (simp [entryFrame, mkF, argsToLocals, Value.category]; done) | rfl
def Q3_19 (Z : State) (a1 : Addr) (h0 : Heap) (n0 : Nat) (v : Option Value) (h : Heap) (L : List Loc) : Prop := (v = some (.ref a1) ∧ Fr n0 L ∧ h = h0)
set_option maxRecDepth 65536 in
set_option maxHeartbeats 40000000 in
theorem rm3_19 (l : Launch) (Z : State) (a0 : Array Value) (hw : ∀ d ∈ own_ws, d.before a0 Z = true) (ws : List Jvm.Cond) (a1 : Addr) (h0 : Heap) (n0 : Nat) (O0 : Old Z n0 h0) (S_2 : Sta Z Z.heap "com/example/ringstead/ringstead/node/History$Type" "OK" "Lcom/example/ringstead/ringstead/node/History$Type;" (.ref a1)) :
    MetFree l M_3 (head1 (Jvm.Cond.code M_3 method_2_code 2 (some (.object "com/example/ringstead/ringstead/node/History$Type")) :: ws) ({ frames := 0, cells := 0, slots := 0, locals := 0 } : Room)) (fun a U => a = #[(.int (1 : Int32)), (.int (200 : Int32))] ∧ Z.Warmed39 U.vm ∧ U.heap = h0) (fun _ _ _ _ _ => True) (fun _ U o U' => ∃ v L, o = .returned v ∧ Q3_19 Z a1 h0 n0 v U'.heap L ∧ FrameEnd U o U' L ({ frames := 0, cells := 0, slots := 0, locals := 0 } : Room).cells ({ frames := 0, cells := 0, slots := 0, locals := 0 } : Room).slots) := by
  refine MetFree.of_bodySF (plainFor_of_name pn_2) hisR ?_
  intro p e s m args below meth c s₁ Bd hml0 hP hK
  obtain ⟨rfl, hZ, hh⟩ := hP
  have hx := Bd.exec
  have hby := Bd.bytes
  have hml : c.maxLocals = 2 := hml0
  have hown : s.vm.findClass "com/example/ringstead/ringstead/node/TypeOfPinLaw" = some m.cls := findClass_of_methodNamed Bd.named
  have hnm := (name_of_methodNamed Bd.named Bd.method).1
  have X0 : Stand p l e ({ frames := 0, cells := 0, slots := 0, locals := 0 } : Room) s m #[(.int (1 : Int32)), (.int (200 : Int32))] below meth c s₁ [] 0 0 := Stand.of_body Bd
  have e0 : s₁.heap = h0 := by rw [← hh, Bd.state]; rfl
  have N0 := Fr.nil n0
  have pre0 : ∀ t, Steps p.tables e below (s₁.setTop (mkF m 0 #[.val (.int (1 : Int32)), .val (.int (200 : Int32))] [])) t → Steps p.tables e below (s₁.setTop (entryFrame m #[(.int (1 : Int32)), (.int (200 : Int32))] 2)) t := fun t k => castTop (ef_rm3_19 m ) k
  obtain ⟨T3, X3, e3, st3⟩ := getS2 X0 hx hZ hown (host := "") (Or.inl (hw _ (gw 30 rfl))) Via.refl e0 (Sta.ext O0.2 S_2) (g := (mkF m 34 #[.val (.int (1 : Int32)), .val (.int (200 : Int32))] [])) rfl (hb hby d3_34)
  obtain ⟨fs, hr, hrun, hended, hW, hsame⟩ := X3.leave (v := some (.ref a1)) (fun h => by rw [Bd.returns] at h; cases h)
  refine ⟨_, _, pre0 _ ?_, hrun, hended, _, _, rfl, ?_, ⟨_, rfl⟩, hW, hsame.mono (by decide) (by decide)⟩
  · show Steps p.tables e below (s₁.setTop (mkF m 0 #[.val (.int (1 : Int32)), .val (.int (200 : Int32))] [])) _
    refine XS.iloadN X0.here hx rfl (hb hby d3_0) rfl ?_
    show Steps p.tables e below (s₁.setTop (mkF m 1 #[.val (.int (1 : Int32)), .val (.int (200 : Int32))] [(.int (200 : Int32))])) _
    refine XS.sipush X0.here hx rfl (hb hby d3_1) ?_
    show Steps p.tables e below (s₁.setTop (mkF m 4 #[.val (.int (1 : Int32)), .val (.int (200 : Int32))] [(.int (204 : Int32)), (.int (200 : Int32))])) _
    refine XS.icmpYes X0.here hx rfl (pc0 := 4) (pc' := 22) rfl (hb hby d3_4) rfl (feq (by decide +kernel : ¬ ((200 : Int32) = (204 : Int32)))).2 (by decide) (by decide) ?_
    show Steps p.tables e below (s₁.setTop (mkF m 22 #[.val (.int (1 : Int32)), .val (.int (200 : Int32))] [])) _
    refine XS.iloadN X0.here hx rfl (hb hby d3_22) rfl ?_
    show Steps p.tables e below (s₁.setTop (mkF m 23 #[.val (.int (1 : Int32)), .val (.int (200 : Int32))] [(.int (200 : Int32))])) _
    refine XS.sipush X0.here hx rfl (hb hby d3_23) ?_
    show Steps p.tables e below (s₁.setTop (mkF m 26 #[.val (.int (1 : Int32)), .val (.int (200 : Int32))] [(.int (200 : Int32)), (.int (200 : Int32))])) _
    refine XS.icmpNo X0.here hx rfl (hb hby d3_26) rfl (teq (by decide +kernel : (200 : Int32) = (200 : Int32))).2 ?_
    show Steps p.tables e below (s₁.setTop (mkF m 29 #[.val (.int (1 : Int32)), .val (.int (200 : Int32))] [])) _
    refine XS.iloadN X0.here hx rfl (hb hby d3_29) rfl ?_
    show Steps p.tables e below (s₁.setTop (mkF m 30 #[.val (.int (1 : Int32)), .val (.int (200 : Int32))] [(.int (1 : Int32))])) _
    refine XS.iconst X0.here hx rfl (hb hby d3_30) ?_
    show Steps p.tables e below (s₁.setTop (mkF m 31 #[.val (.int (1 : Int32)), .val (.int (200 : Int32))] [(.int (1 : Int32)), (.int (1 : Int32))])) _
    refine XS.icmpNo X0.here hx rfl (hb hby d3_31) rfl (teq (by decide +kernel : (1 : Int32) = (1 : Int32))).2 ?_
    show Steps p.tables e below (s₁.setTop (mkF m 34 #[.val (.int (1 : Int32)), .val (.int (200 : Int32))] [])) _
    refine st3 _ ?_
    show Steps p.tables e below (T3.setTop (mkF m 37 #[.val (.int (1 : Int32)), .val (.int (200 : Int32))] [(.ref a1)])) _
    refine XS.goto X3.here hx rfl (pc0 := 37) (pc' := 43) rfl (hb hby d3_37) (by decide) (by decide) ?_
    show Steps p.tables e below (T3.setTop (mkF m 43 #[.val (.int (1 : Int32)), .val (.int (200 : Int32))] [(.ref a1)])) _
    jvm_step X3.here [X3.here.top, hx, (hb hby d3_43), X3.method', Bd.returns, Value.isRef, FieldType.isReference]
    first | (intro acts; rw [hr _ acts rfl rfl rfl]) | rw [hr _ _ rfl rfl rfl]
    exact Steps.refl _
  · show Q3_19 Z _ h0 n0 _ T3.heap _
    rw [e3]
    exact ⟨rfl, N0, rfl⟩
theorem ef_rm1_20 (m : MethodId) (x0 : Addr) : entryFrame m #[(.ref x0), (.int (204 : Int32))] 4 = mkF m 0 #[.val (.ref x0), .val (.int (204 : Int32)), .unset, .unset] [] := by first | (simp [entryFrame, mkF, argsToLocals, Value.category]; done) | rfl
def Q1_20 (Z : State) (a1 : Addr) (a8 : Addr) (h0 : Heap) (n0 : Nat) (v : Option Value) (h : Heap) (L : List Loc) : Prop := (v = some (.ref a8) ∧ Fr n0 L ∧ h = h0)
set_option maxRecDepth 65536 in
set_option maxHeartbeats 40000000 in
theorem rm1_20 (l : Launch) (Z : State) (a0 : Array Value) (hw : ∀ d ∈ own_ws, d.before a0 Z = true) (ws : List Jvm.Cond) (a1 : Addr) (a8 : Addr) (h0 : Heap) (n0 : Nat) (O0 : Old Z n0 h0) (E_2 : Exa Z Z.heap a1 "com/example/ringstead/ringstead/node/History$Operation") (F3 : Fld Z Z.heap a1 "java/lang/Enum" "ordinal" "I" (.int (1 : Int32))) (S_9 : Sta Z Z.heap "com/example/ringstead/ringstead/node/History$Type" "INFO" "Lcom/example/ringstead/ringstead/node/History$Type;" (.ref a8)) :
    MetFree l M_2 (head1 (Jvm.Cond.code M_2 prog_19_method_5_code 4 (some (.object "com/example/ringstead/ringstead/node/History$Type")) :: ws) ({ frames := 1, cells := 0, slots := 0, locals := 12 } : Room)) (fun a U => a = #[(.ref a1), (.int (204 : Int32))] ∧ Z.Warmed39 U.vm ∧ U.heap = h0) (fun _ _ _ _ _ => True) (fun _ U o U' => ∃ v L, o = .returned v ∧ Q1_20 Z a1 a8 h0 n0 v U'.heap L ∧ FrameEnd U o U' L ({ frames := 1, cells := 0, slots := 0, locals := 12 } : Room).cells ({ frames := 1, cells := 0, slots := 0, locals := 12 } : Room).slots) := by
  refine MetFree.of_bodySF (plainFor_of_name pn_1) hisR ?_
  intro p e s m args below meth c s₁ Bd hml0 hP hK
  obtain ⟨rfl, hZ, hh⟩ := hP
  have hx := Bd.exec
  have hby := Bd.bytes
  have hml : c.maxLocals = 4 := hml0
  have hown : s.vm.findClass "com/example/ringstead/ringstead/node/History$Type" = some m.cls := findClass_of_methodNamed Bd.named
  have hnm := (name_of_methodNamed Bd.named Bd.method).1
  have X0 : Stand p l e ({ frames := 1, cells := 0, slots := 0, locals := 12 } : Room) s m #[(.ref a1), (.int (204 : Int32))] below meth c s₁ [] 0 0 := Stand.of_body Bd
  have e0 : s₁.heap = h0 := by rw [← hh, Bd.state]; rfl
  have N0 := Fr.nil n0
  have pre0 : ∀ t, Steps p.tables e below (s₁.setTop (mkF m 0 #[.val (.ref a1), .val (.int (204 : Int32)), .unset, .unset] [])) t → Steps p.tables e below (s₁.setTop (entryFrame m #[(.ref a1), (.int (204 : Int32))] 4)) t := fun t k => castTop (ef_rm1_20 m a1) k
  obtain ⟨cq4, kq4, q4a, q4b, q4c⟩ := isOf hZ e0 (Exa.ext O0.2 E_2)
  obtain ⟨_, _, ⟨T4, L4, k4, n4⟩, -, X4, ⟨Lc4, hQ4, l4, y4, z4⟩, st4⟩ := X0.virtualBackUp hx (owner := "java/lang/Enum") (x := M_1) (y := M_0) hown (mvT hZ (hw _ (gw 8 rfl))) (mvT hZ (hw _ (gw 9 rfl))) (mvT hZ (hw _ (gw 10 rfl))) (by decide) (mvT hZ (hw _ (gw 12 rfl))) (mvT hZ (hw _ (gw 11 rfl))) (backOf (W := 0) (rm2_18 l Z a0 hw [] a1 h0 n0  O0 F3) hZ (hw _ (gw 14 rfl)) (hw _ (gw 13 rfl)) (by decide) (by decide)) q4a q4c (g := (mkF m 1 #[.val (.ref a1), .val (.int (204 : Int32)), .unset, .unset] [(.ref a1)])) rfl (by rw [hml]; rfl) (Steps.refl _) (argsL := []) (rest := []) (lenOf pd_0 rfl) rfl (by show 2 * 0 + _ ≤ _; exact Nat.le_of_eq rfl) (hb hby d1_1) (fun _ _ => ⟨rfl, e0, (by decide : 0 + 0 ≤ _), (by decide : 0 + 0 ≤ _)⟩)
  dsimp only [Pt.U, Pt.locs, Pt.cells, Pt.slots] at X4 l4 y4 z4 st4 hQ4
  subst l4 y4 z4
  obtain ⟨rfl, u6, u7⟩ := hQ4
  have N4 := Fr.app N0 u6
  obtain ⟨T10, X10, e10, st10⟩ := getS2 X4 hx hZ hown (host := "") (Or.inl (hw _ (gw 31 rfl))) Via.refl u7 (Sta.ext O0.2 S_9) (g := (mkF m 131 #[.val (.ref a1), .val (.int (204 : Int32)), .val (.int (0 : Int32)), .unset] [])) rfl (hb hby d1_131)
  obtain ⟨fs, hr, hrun, hended, hW, hsame⟩ := X10.leave (v := some (.ref a8)) (fun h => by rw [Bd.returns] at h; cases h)
  refine ⟨_, _, pre0 _ ?_, hrun, hended, _, _, rfl, ?_, ⟨_, rfl⟩, hW, hsame.mono (by decide) (by decide)⟩
  · show Steps p.tables e below (s₁.setTop (mkF m 0 #[.val (.ref a1), .val (.int (204 : Int32)), .unset, .unset] [])) _
    refine XS.aloadN X0.here hx rfl (hb hby d1_0) rfl rfl ?_
    show Steps p.tables e below (s₁.setTop (mkF m 1 #[.val (.ref a1), .val (.int (204 : Int32)), .unset, .unset] [(.ref a1)])) _
    refine st4.trans ?_
    show Steps p.tables e below (T4.setTop (mkF m 4 #[.val (.ref a1), .val (.int (204 : Int32)), .unset, .unset] [(.int (1 : Int32))])) _
    refine XS.tswIn X4.here hx rfl (pc0 := 4) (pc' := 57) rfl (hb hby d1_4) rfl (by decide) (o := 53) rfl (by decide) (by decide) ?_
    show Steps p.tables e below (T4.setTop (mkF m 57 #[.val (.ref a1), .val (.int (204 : Int32)), .unset, .unset] [])) _
    refine XS.iloadN X4.here hx rfl (hb hby d1_57) rfl ?_
    show Steps p.tables e below (T4.setTop (mkF m 58 #[.val (.ref a1), .val (.int (204 : Int32)), .unset, .unset] [(.int (204 : Int32))])) _
    refine XS.sipush X4.here hx rfl (hb hby d1_58) ?_
    show Steps p.tables e below (T4.setTop (mkF m 61 #[.val (.ref a1), .val (.int (204 : Int32)), .unset, .unset] [(.int (200 : Int32)), (.int (204 : Int32))])) _
    refine XS.icmpNo X4.here hx rfl (hb hby d1_61) rfl (feq (by decide +kernel : ¬ ((204 : Int32) = (200 : Int32)))).1 ?_
    show Steps p.tables e below (T4.setTop (mkF m 64 #[.val (.ref a1), .val (.int (204 : Int32)), .unset, .unset] [])) _
    refine XS.iloadN X4.here hx rfl (hb hby d1_64) rfl ?_
    show Steps p.tables e below (T4.setTop (mkF m 65 #[.val (.ref a1), .val (.int (204 : Int32)), .unset, .unset] [(.int (204 : Int32))])) _
    refine XS.sipush X4.here hx rfl (hb hby d1_65) ?_
    show Steps p.tables e below (T4.setTop (mkF m 68 #[.val (.ref a1), .val (.int (204 : Int32)), .unset, .unset] [(.int (404 : Int32)), (.int (204 : Int32))])) _
    refine XS.icmpYes X4.here hx rfl (pc0 := 68) (pc' := 75) rfl (hb hby d1_68) rfl (feq (by decide +kernel : ¬ ((204 : Int32) = (404 : Int32)))).2 (by decide) (by decide) ?_
    show Steps p.tables e below (T4.setTop (mkF m 75 #[.val (.ref a1), .val (.int (204 : Int32)), .unset, .unset] [])) _
    refine XS.iconst X4.here hx rfl (hb hby d1_75) ?_
    show Steps p.tables e below (T4.setTop (mkF m 76 #[.val (.ref a1), .val (.int (204 : Int32)), .unset, .unset] [(.int (0 : Int32))])) _
    refine XS.goto X4.here hx rfl (pc0 := 76) (pc' := 98) rfl (hb hby d1_76) (by decide) (by decide) ?_
    show Steps p.tables e below (T4.setTop (mkF m 98 #[.val (.ref a1), .val (.int (204 : Int32)), .unset, .unset] [(.int (0 : Int32))])) _
    refine XS.istoreN X4.here hx rfl (hb hby d1_98) rfl (l' := #[.val (.ref a1), .val (.int (204 : Int32)), .val (.int (0 : Int32)), .unset]) rfl ?_
    show Steps p.tables e below (T4.setTop (mkF m 99 #[.val (.ref a1), .val (.int (204 : Int32)), .val (.int (0 : Int32)), .unset] [])) _
    refine XS.iloadN X4.here hx rfl (hb hby d1_99) rfl ?_
    show Steps p.tables e below (T4.setTop (mkF m 100 #[.val (.ref a1), .val (.int (204 : Int32)), .val (.int (0 : Int32)), .unset] [(.int (0 : Int32))])) _
    refine XS.ifYes X4.here hx rfl (pc0 := 100) (pc' := 110) rfl (hb hby d1_100) rfl ((if0 _ _).trans (teq (by decide +kernel : (0 : Int32) = (0 : Int32))).1) (by decide) (by decide) ?_
    show Steps p.tables e below (T4.setTop (mkF m 110 #[.val (.ref a1), .val (.int (204 : Int32)), .val (.int (0 : Int32)), .unset] [])) _
    refine XS.iloadN X4.here hx rfl (hb hby d1_110) rfl ?_
    show Steps p.tables e below (T4.setTop (mkF m 111 #[.val (.ref a1), .val (.int (204 : Int32)), .val (.int (0 : Int32)), .unset] [(.int (204 : Int32))])) _
    refine XS.sipush X4.here hx rfl (hb hby d1_111) ?_
    show Steps p.tables e below (T4.setTop (mkF m 114 #[.val (.ref a1), .val (.int (204 : Int32)), .val (.int (0 : Int32)), .unset] [(.int (400 : Int32)), (.int (204 : Int32))])) _
    refine XS.icmpNo X4.here hx rfl (hb hby d1_114) rfl (feq (by decide +kernel : ¬ ((204 : Int32) = (400 : Int32)))).1 ?_
    show Steps p.tables e below (T4.setTop (mkF m 117 #[.val (.ref a1), .val (.int (204 : Int32)), .val (.int (0 : Int32)), .unset] [])) _
    refine XS.iloadN X4.here hx rfl (hb hby d1_117) rfl ?_
    show Steps p.tables e below (T4.setTop (mkF m 118 #[.val (.ref a1), .val (.int (204 : Int32)), .val (.int (0 : Int32)), .unset] [(.int (204 : Int32))])) _
    refine XS.sipush X4.here hx rfl (hb hby d1_118) ?_
    show Steps p.tables e below (T4.setTop (mkF m 121 #[.val (.ref a1), .val (.int (204 : Int32)), .val (.int (0 : Int32)), .unset] [(.int (413 : Int32)), (.int (204 : Int32))])) _
    refine XS.icmpYes X4.here hx rfl (pc0 := 121) (pc' := 131) rfl (hb hby d1_121) rfl (feq (by decide +kernel : ¬ ((204 : Int32) = (413 : Int32)))).2 (by decide) (by decide) ?_
    show Steps p.tables e below (T4.setTop (mkF m 131 #[.val (.ref a1), .val (.int (204 : Int32)), .val (.int (0 : Int32)), .unset] [])) _
    refine st10 _ ?_
    show Steps p.tables e below (T10.setTop (mkF m 134 #[.val (.ref a1), .val (.int (204 : Int32)), .val (.int (0 : Int32)), .unset] [(.ref a8)])) _
    refine XS.astoreN X10.here hx rfl (hb hby d1_134) rfl rfl (l' := #[.val (.ref a1), .val (.int (204 : Int32)), .val (.int (0 : Int32)), .val (.ref a8)]) rfl ?_
    show Steps p.tables e below (T10.setTop (mkF m 135 #[.val (.ref a1), .val (.int (204 : Int32)), .val (.int (0 : Int32)), .val (.ref a8)] [])) _
    refine XS.aloadN X10.here hx rfl (hb hby d1_135) rfl rfl ?_
    show Steps p.tables e below (T10.setTop (mkF m 136 #[.val (.ref a1), .val (.int (204 : Int32)), .val (.int (0 : Int32)), .val (.ref a8)] [(.ref a8)])) _
    jvm_step X10.here [X10.here.top, hx, (hb hby d1_136), X10.method', Bd.returns, Value.isRef, FieldType.isReference]
    first | (intro acts; rw [hr _ acts rfl rfl rfl]) | rw [hr _ _ rfl rfl rfl]
    exact Steps.refl _
  · show Q1_20 Z _ _ h0 n0 _ T10.heap _
    rw [e10]
    exact ⟨rfl, N4, rfl⟩
theorem ef_rm3_21 (m : MethodId)  : entryFrame m #[(.int (1 : Int32)), (.int (204 : Int32))] 2 = mkF m 0 #[.val (.int (1 : Int32)), .val (.int (204 : Int32))] [] := by first | (simp [entryFrame, mkF, argsToLocals, Value.category]; done) | rfl
def Q3_21 (Z : State) (a1 : Addr) (h0 : Heap) (n0 : Nat) (v : Option Value) (h : Heap) (L : List Loc) : Prop := (v = some (.ref a1) ∧ Fr n0 L ∧ h = h0)
set_option maxRecDepth 65536 in
set_option maxHeartbeats 40000000 in
theorem rm3_21 (l : Launch) (Z : State) (a0 : Array Value) (hw : ∀ d ∈ own_ws, d.before a0 Z = true) (ws : List Jvm.Cond) (a1 : Addr) (h0 : Heap) (n0 : Nat) (O0 : Old Z n0 h0) (S_2 : Sta Z Z.heap "com/example/ringstead/ringstead/node/History$Type" "INFO" "Lcom/example/ringstead/ringstead/node/History$Type;" (.ref a1)) :
    MetFree l M_3 (head1 (Jvm.Cond.code M_3 method_2_code 2 (some (.object "com/example/ringstead/ringstead/node/History$Type")) :: ws) ({ frames := 0, cells := 0, slots := 0, locals := 0 } : Room)) (fun a U => a = #[(.int (1 : Int32)), (.int (204 : Int32))] ∧ Z.Warmed39 U.vm ∧ U.heap = h0) (fun _ _ _ _ _ => True) (fun _ U o U' => ∃ v L, o = .returned v ∧ Q3_21 Z a1 h0 n0 v U'.heap L ∧ FrameEnd U o U' L ({ frames := 0, cells := 0, slots := 0, locals := 0 } : Room).cells ({ frames := 0, cells := 0, slots := 0, locals := 0 } : Room).slots) := by
  refine MetFree.of_bodySF (plainFor_of_name pn_2) hisR ?_
  intro p e s m args below meth c s₁ Bd hml0 hP hK
  obtain ⟨rfl, hZ, hh⟩ := hP
  have hx := Bd.exec
  have hby := Bd.bytes
  have hml : c.maxLocals = 2 := hml0
  have hown : s.vm.findClass "com/example/ringstead/ringstead/node/TypeOfPinLaw" = some m.cls := findClass_of_methodNamed Bd.named
  have hnm := (name_of_methodNamed Bd.named Bd.method).1
  have X0 : Stand p l e ({ frames := 0, cells := 0, slots := 0, locals := 0 } : Room) s m #[(.int (1 : Int32)), (.int (204 : Int32))] below meth c s₁ [] 0 0 := Stand.of_body Bd
  have e0 : s₁.heap = h0 := by rw [← hh, Bd.state]; rfl
  have N0 := Fr.nil n0
  have pre0 : ∀ t, Steps p.tables e below (s₁.setTop (mkF m 0 #[.val (.int (1 : Int32)), .val (.int (204 : Int32))] [])) t → Steps p.tables e below (s₁.setTop (entryFrame m #[(.int (1 : Int32)), (.int (204 : Int32))] 2)) t := fun t k => castTop (ef_rm3_21 m ) k
  obtain ⟨T3, X3, e3, st3⟩ := getS2 X0 hx hZ hown (host := "") (Or.inl (hw _ (gw 33 rfl))) Via.refl e0 (Sta.ext O0.2 S_2) (g := (mkF m 12 #[.val (.int (1 : Int32)), .val (.int (204 : Int32))] [])) rfl (hb hby d3_12)
  obtain ⟨fs, hr, hrun, hended, hW, hsame⟩ := X3.leave (v := some (.ref a1)) (fun h => by rw [Bd.returns] at h; cases h)
  refine ⟨_, _, pre0 _ ?_, hrun, hended, _, _, rfl, ?_, ⟨_, rfl⟩, hW, hsame.mono (by decide) (by decide)⟩
  · show Steps p.tables e below (s₁.setTop (mkF m 0 #[.val (.int (1 : Int32)), .val (.int (204 : Int32))] [])) _
    refine XS.iloadN X0.here hx rfl (hb hby d3_0) rfl ?_
    show Steps p.tables e below (s₁.setTop (mkF m 1 #[.val (.int (1 : Int32)), .val (.int (204 : Int32))] [(.int (204 : Int32))])) _
    refine XS.sipush X0.here hx rfl (hb hby d3_1) ?_
    show Steps p.tables e below (s₁.setTop (mkF m 4 #[.val (.int (1 : Int32)), .val (.int (204 : Int32))] [(.int (204 : Int32)), (.int (204 : Int32))])) _
    refine XS.icmpNo X0.here hx rfl (hb hby d3_4) rfl (teq (by decide +kernel : (204 : Int32) = (204 : Int32))).2 ?_
    show Steps p.tables e below (s₁.setTop (mkF m 7 #[.val (.int (1 : Int32)), .val (.int (204 : Int32))] [])) _
    refine XS.iloadN X0.here hx rfl (hb hby d3_7) rfl ?_
    show Steps p.tables e below (s₁.setTop (mkF m 8 #[.val (.int (1 : Int32)), .val (.int (204 : Int32))] [(.int (1 : Int32))])) _
    refine XS.iconst X0.here hx rfl (hb hby d3_8) ?_
    show Steps p.tables e below (s₁.setTop (mkF m 9 #[.val (.int (1 : Int32)), .val (.int (204 : Int32))] [(.int (1 : Int32)), (.int (1 : Int32))])) _
    refine XS.icmpNo X0.here hx rfl (hb hby d3_9) rfl (teq (by decide +kernel : (1 : Int32) = (1 : Int32))).2 ?_
    show Steps p.tables e below (s₁.setTop (mkF m 12 #[.val (.int (1 : Int32)), .val (.int (204 : Int32))] [])) _
    refine st3 _ ?_
    show Steps p.tables e below (T3.setTop (mkF m 15 #[.val (.int (1 : Int32)), .val (.int (204 : Int32))] [(.ref a1)])) _
    refine XS.goto X3.here hx rfl (pc0 := 15) (pc' := 21) rfl (hb hby d3_15) (by decide) (by decide) ?_
    show Steps p.tables e below (T3.setTop (mkF m 21 #[.val (.int (1 : Int32)), .val (.int (204 : Int32))] [(.ref a1)])) _
    jvm_step X3.here [X3.here.top, hx, (hb hby d3_21), X3.method', Bd.returns, Value.isRef, FieldType.isReference]
    first | (intro acts; rw [hr _ acts rfl rfl rfl]) | rw [hr _ _ rfl rfl rfl]
    exact Steps.refl _
  · show Q3_21 Z _ h0 n0 _ T3.heap _
    rw [e3]
    exact ⟨rfl, N0, rfl⟩
theorem ef_rm1_22 (m : MethodId) (x0 : Addr) : entryFrame m #[(.ref x0), (.int (404 : Int32))] 4 = mkF m 0 #[.val (.ref x0), .val (.int (404 : Int32)), .unset, .unset] [] := by first | (simp [entryFrame, mkF, argsToLocals, Value.category]; done) | rfl
def Q1_22 (Z : State) (a1 : Addr) (a8 : Addr) (h0 : Heap) (n0 : Nat) (v : Option Value) (h : Heap) (L : List Loc) : Prop := (v = some (.ref a8) ∧ Fr n0 L ∧ h = h0)
set_option maxRecDepth 65536 in
set_option maxHeartbeats 40000000 in
theorem rm1_22 (l : Launch) (Z : State) (a0 : Array Value) (hw : ∀ d ∈ own_ws, d.before a0 Z = true) (ws : List Jvm.Cond) (a1 : Addr) (a8 : Addr) (h0 : Heap) (n0 : Nat) (O0 : Old Z n0 h0) (E_2 : Exa Z Z.heap a1 "com/example/ringstead/ringstead/node/History$Operation") (F3 : Fld Z Z.heap a1 "java/lang/Enum" "ordinal" "I" (.int (1 : Int32))) (S_9 : Sta Z Z.heap "com/example/ringstead/ringstead/node/History$Type" "OK" "Lcom/example/ringstead/ringstead/node/History$Type;" (.ref a8)) :
    MetFree l M_2 (head1 (Jvm.Cond.code M_2 prog_19_method_5_code 4 (some (.object "com/example/ringstead/ringstead/node/History$Type")) :: ws) ({ frames := 1, cells := 0, slots := 0, locals := 12 } : Room)) (fun a U => a = #[(.ref a1), (.int (404 : Int32))] ∧ Z.Warmed39 U.vm ∧ U.heap = h0) (fun _ _ _ _ _ => True) (fun _ U o U' => ∃ v L, o = .returned v ∧ Q1_22 Z a1 a8 h0 n0 v U'.heap L ∧ FrameEnd U o U' L ({ frames := 1, cells := 0, slots := 0, locals := 12 } : Room).cells ({ frames := 1, cells := 0, slots := 0, locals := 12 } : Room).slots) := by
  refine MetFree.of_bodySF (plainFor_of_name pn_1) hisR ?_
  intro p e s m args below meth c s₁ Bd hml0 hP hK
  obtain ⟨rfl, hZ, hh⟩ := hP
  have hx := Bd.exec
  have hby := Bd.bytes
  have hml : c.maxLocals = 4 := hml0
  have hown : s.vm.findClass "com/example/ringstead/ringstead/node/History$Type" = some m.cls := findClass_of_methodNamed Bd.named
  have hnm := (name_of_methodNamed Bd.named Bd.method).1
  have X0 : Stand p l e ({ frames := 1, cells := 0, slots := 0, locals := 12 } : Room) s m #[(.ref a1), (.int (404 : Int32))] below meth c s₁ [] 0 0 := Stand.of_body Bd
  have e0 : s₁.heap = h0 := by rw [← hh, Bd.state]; rfl
  have N0 := Fr.nil n0
  have pre0 : ∀ t, Steps p.tables e below (s₁.setTop (mkF m 0 #[.val (.ref a1), .val (.int (404 : Int32)), .unset, .unset] [])) t → Steps p.tables e below (s₁.setTop (entryFrame m #[(.ref a1), (.int (404 : Int32))] 4)) t := fun t k => castTop (ef_rm1_22 m a1) k
  obtain ⟨cq4, kq4, q4a, q4b, q4c⟩ := isOf hZ e0 (Exa.ext O0.2 E_2)
  obtain ⟨_, _, ⟨T4, L4, k4, n4⟩, -, X4, ⟨Lc4, hQ4, l4, y4, z4⟩, st4⟩ := X0.virtualBackUp hx (owner := "java/lang/Enum") (x := M_1) (y := M_0) hown (mvT hZ (hw _ (gw 8 rfl))) (mvT hZ (hw _ (gw 9 rfl))) (mvT hZ (hw _ (gw 10 rfl))) (by decide) (mvT hZ (hw _ (gw 12 rfl))) (mvT hZ (hw _ (gw 11 rfl))) (backOf (W := 0) (rm2_18 l Z a0 hw [] a1 h0 n0  O0 F3) hZ (hw _ (gw 14 rfl)) (hw _ (gw 13 rfl)) (by decide) (by decide)) q4a q4c (g := (mkF m 1 #[.val (.ref a1), .val (.int (404 : Int32)), .unset, .unset] [(.ref a1)])) rfl (by rw [hml]; rfl) (Steps.refl _) (argsL := []) (rest := []) (lenOf pd_0 rfl) rfl (by show 2 * 0 + _ ≤ _; exact Nat.le_of_eq rfl) (hb hby d1_1) (fun _ _ => ⟨rfl, e0, (by decide : 0 + 0 ≤ _), (by decide : 0 + 0 ≤ _)⟩)
  dsimp only [Pt.U, Pt.locs, Pt.cells, Pt.slots] at X4 l4 y4 z4 st4 hQ4
  subst l4 y4 z4
  obtain ⟨rfl, u6, u7⟩ := hQ4
  have N4 := Fr.app N0 u6
  obtain ⟨T10, X10, e10, st10⟩ := getS2 X4 hx hZ hown (host := "") (Or.inl (hw _ (gw 28 rfl))) Via.refl u7 (Sta.ext O0.2 S_9) (g := (mkF m 103 #[.val (.ref a1), .val (.int (404 : Int32)), .val (.int (1 : Int32)), .unset] [])) rfl (hb hby d1_103)
  obtain ⟨fs, hr, hrun, hended, hW, hsame⟩ := X10.leave (v := some (.ref a8)) (fun h => by rw [Bd.returns] at h; cases h)
  refine ⟨_, _, pre0 _ ?_, hrun, hended, _, _, rfl, ?_, ⟨_, rfl⟩, hW, hsame.mono (by decide) (by decide)⟩
  · show Steps p.tables e below (s₁.setTop (mkF m 0 #[.val (.ref a1), .val (.int (404 : Int32)), .unset, .unset] [])) _
    refine XS.aloadN X0.here hx rfl (hb hby d1_0) rfl rfl ?_
    show Steps p.tables e below (s₁.setTop (mkF m 1 #[.val (.ref a1), .val (.int (404 : Int32)), .unset, .unset] [(.ref a1)])) _
    refine st4.trans ?_
    show Steps p.tables e below (T4.setTop (mkF m 4 #[.val (.ref a1), .val (.int (404 : Int32)), .unset, .unset] [(.int (1 : Int32))])) _
    refine XS.tswIn X4.here hx rfl (pc0 := 4) (pc' := 57) rfl (hb hby d1_4) rfl (by decide) (o := 53) rfl (by decide) (by decide) ?_
    show Steps p.tables e below (T4.setTop (mkF m 57 #[.val (.ref a1), .val (.int (404 : Int32)), .unset, .unset] [])) _
    refine XS.iloadN X4.here hx rfl (hb hby d1_57) rfl ?_
    show Steps p.tables e below (T4.setTop (mkF m 58 #[.val (.ref a1), .val (.int (404 : Int32)), .unset, .unset] [(.int (404 : Int32))])) _
    refine XS.sipush X4.here hx rfl (hb hby d1_58) ?_
    show Steps p.tables e below (T4.setTop (mkF m 61 #[.val (.ref a1), .val (.int (404 : Int32)), .unset, .unset] [(.int (200 : Int32)), (.int (404 : Int32))])) _
    refine XS.icmpNo X4.here hx rfl (hb hby d1_61) rfl (feq (by decide +kernel : ¬ ((404 : Int32) = (200 : Int32)))).1 ?_
    show Steps p.tables e below (T4.setTop (mkF m 64 #[.val (.ref a1), .val (.int (404 : Int32)), .unset, .unset] [])) _
    refine XS.iloadN X4.here hx rfl (hb hby d1_64) rfl ?_
    show Steps p.tables e below (T4.setTop (mkF m 65 #[.val (.ref a1), .val (.int (404 : Int32)), .unset, .unset] [(.int (404 : Int32))])) _
    refine XS.sipush X4.here hx rfl (hb hby d1_65) ?_
    show Steps p.tables e below (T4.setTop (mkF m 68 #[.val (.ref a1), .val (.int (404 : Int32)), .unset, .unset] [(.int (404 : Int32)), (.int (404 : Int32))])) _
    refine XS.icmpNo X4.here hx rfl (hb hby d1_68) rfl (teq (by decide +kernel : (404 : Int32) = (404 : Int32))).2 ?_
    show Steps p.tables e below (T4.setTop (mkF m 71 #[.val (.ref a1), .val (.int (404 : Int32)), .unset, .unset] [])) _
    refine XS.iconst X4.here hx rfl (hb hby d1_71) ?_
    show Steps p.tables e below (T4.setTop (mkF m 72 #[.val (.ref a1), .val (.int (404 : Int32)), .unset, .unset] [(.int (1 : Int32))])) _
    refine XS.goto X4.here hx rfl (pc0 := 72) (pc' := 98) rfl (hb hby d1_72) (by decide) (by decide) ?_
    show Steps p.tables e below (T4.setTop (mkF m 98 #[.val (.ref a1), .val (.int (404 : Int32)), .unset, .unset] [(.int (1 : Int32))])) _
    refine XS.istoreN X4.here hx rfl (hb hby d1_98) rfl (l' := #[.val (.ref a1), .val (.int (404 : Int32)), .val (.int (1 : Int32)), .unset]) rfl ?_
    show Steps p.tables e below (T4.setTop (mkF m 99 #[.val (.ref a1), .val (.int (404 : Int32)), .val (.int (1 : Int32)), .unset] [])) _
    refine XS.iloadN X4.here hx rfl (hb hby d1_99) rfl ?_
    show Steps p.tables e below (T4.setTop (mkF m 100 #[.val (.ref a1), .val (.int (404 : Int32)), .val (.int (1 : Int32)), .unset] [(.int (1 : Int32))])) _
    refine XS.ifNo X4.here hx rfl (hb hby d1_100) rfl ((if0 _ _).trans (feq (by decide +kernel : ¬ ((1 : Int32) = (0 : Int32)))).1) ?_
    show Steps p.tables e below (T4.setTop (mkF m 103 #[.val (.ref a1), .val (.int (404 : Int32)), .val (.int (1 : Int32)), .unset] [])) _
    refine st10 _ ?_
    show Steps p.tables e below (T10.setTop (mkF m 106 #[.val (.ref a1), .val (.int (404 : Int32)), .val (.int (1 : Int32)), .unset] [(.ref a8)])) _
    refine XS.astoreN X10.here hx rfl (hb hby d1_106) rfl rfl (l' := #[.val (.ref a1), .val (.int (404 : Int32)), .val (.int (1 : Int32)), .val (.ref a8)]) rfl ?_
    show Steps p.tables e below (T10.setTop (mkF m 107 #[.val (.ref a1), .val (.int (404 : Int32)), .val (.int (1 : Int32)), .val (.ref a8)] [])) _
    refine XS.goto X10.here hx rfl (pc0 := 107) (pc' := 135) rfl (hb hby d1_107) (by decide) (by decide) ?_
    show Steps p.tables e below (T10.setTop (mkF m 135 #[.val (.ref a1), .val (.int (404 : Int32)), .val (.int (1 : Int32)), .val (.ref a8)] [])) _
    refine XS.aloadN X10.here hx rfl (hb hby d1_135) rfl rfl ?_
    show Steps p.tables e below (T10.setTop (mkF m 136 #[.val (.ref a1), .val (.int (404 : Int32)), .val (.int (1 : Int32)), .val (.ref a8)] [(.ref a8)])) _
    jvm_step X10.here [X10.here.top, hx, (hb hby d1_136), X10.method', Bd.returns, Value.isRef, FieldType.isReference]
    first | (intro acts; rw [hr _ acts rfl rfl rfl]) | rw [hr _ _ rfl rfl rfl]
    exact Steps.refl _
  · show Q1_22 Z _ _ h0 n0 _ T10.heap _
    rw [e10]
    exact ⟨rfl, N4, rfl⟩
theorem ef_rm3_23 (m : MethodId)  : entryFrame m #[(.int (1 : Int32)), (.int (404 : Int32))] 2 = mkF m 0 #[.val (.int (1 : Int32)), .val (.int (404 : Int32))] [] := by first | (simp [entryFrame, mkF, argsToLocals, Value.category]; done) | rfl
def Q3_23 (Z : State) (a1 : Addr) (h0 : Heap) (n0 : Nat) (v : Option Value) (h : Heap) (L : List Loc) : Prop := (v = some (.ref a1) ∧ Fr n0 L ∧ h = h0)
set_option maxRecDepth 65536 in
set_option maxHeartbeats 40000000 in
theorem rm3_23 (l : Launch) (Z : State) (a0 : Array Value) (hw : ∀ d ∈ own_ws, d.before a0 Z = true) (ws : List Jvm.Cond) (a1 : Addr) (h0 : Heap) (n0 : Nat) (O0 : Old Z n0 h0) (S_2 : Sta Z Z.heap "com/example/ringstead/ringstead/node/History$Type" "OK" "Lcom/example/ringstead/ringstead/node/History$Type;" (.ref a1)) :
    MetFree l M_3 (head1 (Jvm.Cond.code M_3 method_2_code 2 (some (.object "com/example/ringstead/ringstead/node/History$Type")) :: ws) ({ frames := 0, cells := 0, slots := 0, locals := 0 } : Room)) (fun a U => a = #[(.int (1 : Int32)), (.int (404 : Int32))] ∧ Z.Warmed39 U.vm ∧ U.heap = h0) (fun _ _ _ _ _ => True) (fun _ U o U' => ∃ v L, o = .returned v ∧ Q3_23 Z a1 h0 n0 v U'.heap L ∧ FrameEnd U o U' L ({ frames := 0, cells := 0, slots := 0, locals := 0 } : Room).cells ({ frames := 0, cells := 0, slots := 0, locals := 0 } : Room).slots) := by
  refine MetFree.of_bodySF (plainFor_of_name pn_2) hisR ?_
  intro p e s m args below meth c s₁ Bd hml0 hP hK
  obtain ⟨rfl, hZ, hh⟩ := hP
  have hx := Bd.exec
  have hby := Bd.bytes
  have hml : c.maxLocals = 2 := hml0
  have hown : s.vm.findClass "com/example/ringstead/ringstead/node/TypeOfPinLaw" = some m.cls := findClass_of_methodNamed Bd.named
  have hnm := (name_of_methodNamed Bd.named Bd.method).1
  have X0 : Stand p l e ({ frames := 0, cells := 0, slots := 0, locals := 0 } : Room) s m #[(.int (1 : Int32)), (.int (404 : Int32))] below meth c s₁ [] 0 0 := Stand.of_body Bd
  have e0 : s₁.heap = h0 := by rw [← hh, Bd.state]; rfl
  have N0 := Fr.nil n0
  have pre0 : ∀ t, Steps p.tables e below (s₁.setTop (mkF m 0 #[.val (.int (1 : Int32)), .val (.int (404 : Int32))] [])) t → Steps p.tables e below (s₁.setTop (entryFrame m #[(.int (1 : Int32)), (.int (404 : Int32))] 2)) t := fun t k => castTop (ef_rm3_23 m ) k
  obtain ⟨T3, X3, e3, st3⟩ := getS2 X0 hx hZ hown (host := "") (Or.inl (hw _ (gw 30 rfl))) Via.refl e0 (Sta.ext O0.2 S_2) (g := (mkF m 61 #[.val (.int (1 : Int32)), .val (.int (404 : Int32))] [])) rfl (hb hby d3_61)
  obtain ⟨fs, hr, hrun, hended, hW, hsame⟩ := X3.leave (v := some (.ref a1)) (fun h => by rw [Bd.returns] at h; cases h)
  refine ⟨_, _, pre0 _ ?_, hrun, hended, _, _, rfl, ?_, ⟨_, rfl⟩, hW, hsame.mono (by decide) (by decide)⟩
  · show Steps p.tables e below (s₁.setTop (mkF m 0 #[.val (.int (1 : Int32)), .val (.int (404 : Int32))] [])) _
    refine XS.iloadN X0.here hx rfl (hb hby d3_0) rfl ?_
    show Steps p.tables e below (s₁.setTop (mkF m 1 #[.val (.int (1 : Int32)), .val (.int (404 : Int32))] [(.int (404 : Int32))])) _
    refine XS.sipush X0.here hx rfl (hb hby d3_1) ?_
    show Steps p.tables e below (s₁.setTop (mkF m 4 #[.val (.int (1 : Int32)), .val (.int (404 : Int32))] [(.int (204 : Int32)), (.int (404 : Int32))])) _
    refine XS.icmpYes X0.here hx rfl (pc0 := 4) (pc' := 22) rfl (hb hby d3_4) rfl (feq (by decide +kernel : ¬ ((404 : Int32) = (204 : Int32)))).2 (by decide) (by decide) ?_
    show Steps p.tables e below (s₁.setTop (mkF m 22 #[.val (.int (1 : Int32)), .val (.int (404 : Int32))] [])) _
    refine XS.iloadN X0.here hx rfl (hb hby d3_22) rfl ?_
    show Steps p.tables e below (s₁.setTop (mkF m 23 #[.val (.int (1 : Int32)), .val (.int (404 : Int32))] [(.int (404 : Int32))])) _
    refine XS.sipush X0.here hx rfl (hb hby d3_23) ?_
    show Steps p.tables e below (s₁.setTop (mkF m 26 #[.val (.int (1 : Int32)), .val (.int (404 : Int32))] [(.int (200 : Int32)), (.int (404 : Int32))])) _
    refine XS.icmpYes X0.here hx rfl (pc0 := 26) (pc' := 44) rfl (hb hby d3_26) rfl (feq (by decide +kernel : ¬ ((404 : Int32) = (200 : Int32)))).2 (by decide) (by decide) ?_
    show Steps p.tables e below (s₁.setTop (mkF m 44 #[.val (.int (1 : Int32)), .val (.int (404 : Int32))] [])) _
    refine XS.iloadN X0.here hx rfl (hb hby d3_44) rfl ?_
    show Steps p.tables e below (s₁.setTop (mkF m 45 #[.val (.int (1 : Int32)), .val (.int (404 : Int32))] [(.int (404 : Int32))])) _
    refine XS.sipush X0.here hx rfl (hb hby d3_45) ?_
    show Steps p.tables e below (s₁.setTop (mkF m 48 #[.val (.int (1 : Int32)), .val (.int (404 : Int32))] [(.int (404 : Int32)), (.int (404 : Int32))])) _
    refine XS.icmpNo X0.here hx rfl (hb hby d3_48) rfl (teq (by decide +kernel : (404 : Int32) = (404 : Int32))).2 ?_
    show Steps p.tables e below (s₁.setTop (mkF m 51 #[.val (.int (1 : Int32)), .val (.int (404 : Int32))] [])) _
    refine XS.iloadN X0.here hx rfl (hb hby d3_51) rfl ?_
    show Steps p.tables e below (s₁.setTop (mkF m 52 #[.val (.int (1 : Int32)), .val (.int (404 : Int32))] [(.int (1 : Int32))])) _
    refine XS.ifYes X0.here hx rfl (pc0 := 52) (pc' := 61) rfl (hb hby d3_52) rfl ((if0 _ _).trans (feq (by decide +kernel : ¬ ((1 : Int32) = (0 : Int32)))).2) (by decide) (by decide) ?_
    show Steps p.tables e below (s₁.setTop (mkF m 61 #[.val (.int (1 : Int32)), .val (.int (404 : Int32))] [])) _
    refine st3 _ ?_
    show Steps p.tables e below (T3.setTop (mkF m 64 #[.val (.int (1 : Int32)), .val (.int (404 : Int32))] [(.ref a1)])) _
    jvm_step X3.here [X3.here.top, hx, (hb hby d3_64), X3.method', Bd.returns, Value.isRef, FieldType.isReference]
    first | (intro acts; rw [hr _ acts rfl rfl rfl]) | rw [hr _ _ rfl rfl rfl]
    exact Steps.refl _
  · show Q3_23 Z _ h0 n0 _ T3.heap _
    rw [e3]
    exact ⟨rfl, N0, rfl⟩
theorem ef_rm1_24 (m : MethodId) (x0 : Addr) : entryFrame m #[(.ref x0), (.int (400 : Int32))] 4 = mkF m 0 #[.val (.ref x0), .val (.int (400 : Int32)), .unset, .unset] [] := by first | (simp [entryFrame, mkF, argsToLocals, Value.category]; done) | rfl
def Q1_24 (Z : State) (a1 : Addr) (a8 : Addr) (h0 : Heap) (n0 : Nat) (v : Option Value) (h : Heap) (L : List Loc) : Prop := (v = some (.ref a8) ∧ Fr n0 L ∧ h = h0)
set_option maxRecDepth 65536 in
set_option maxHeartbeats 40000000 in
theorem rm1_24 (l : Launch) (Z : State) (a0 : Array Value) (hw : ∀ d ∈ own_ws, d.before a0 Z = true) (ws : List Jvm.Cond) (a1 : Addr) (a8 : Addr) (h0 : Heap) (n0 : Nat) (O0 : Old Z n0 h0) (E_2 : Exa Z Z.heap a1 "com/example/ringstead/ringstead/node/History$Operation") (F3 : Fld Z Z.heap a1 "java/lang/Enum" "ordinal" "I" (.int (1 : Int32))) (S_9 : Sta Z Z.heap "com/example/ringstead/ringstead/node/History$Type" "FAIL" "Lcom/example/ringstead/ringstead/node/History$Type;" (.ref a8)) :
    MetFree l M_2 (head1 (Jvm.Cond.code M_2 prog_19_method_5_code 4 (some (.object "com/example/ringstead/ringstead/node/History$Type")) :: ws) ({ frames := 1, cells := 0, slots := 0, locals := 12 } : Room)) (fun a U => a = #[(.ref a1), (.int (400 : Int32))] ∧ Z.Warmed39 U.vm ∧ U.heap = h0) (fun _ _ _ _ _ => True) (fun _ U o U' => ∃ v L, o = .returned v ∧ Q1_24 Z a1 a8 h0 n0 v U'.heap L ∧ FrameEnd U o U' L ({ frames := 1, cells := 0, slots := 0, locals := 12 } : Room).cells ({ frames := 1, cells := 0, slots := 0, locals := 12 } : Room).slots) := by
  refine MetFree.of_bodySF (plainFor_of_name pn_1) hisR ?_
  intro p e s m args below meth c s₁ Bd hml0 hP hK
  obtain ⟨rfl, hZ, hh⟩ := hP
  have hx := Bd.exec
  have hby := Bd.bytes
  have hml : c.maxLocals = 4 := hml0
  have hown : s.vm.findClass "com/example/ringstead/ringstead/node/History$Type" = some m.cls := findClass_of_methodNamed Bd.named
  have hnm := (name_of_methodNamed Bd.named Bd.method).1
  have X0 : Stand p l e ({ frames := 1, cells := 0, slots := 0, locals := 12 } : Room) s m #[(.ref a1), (.int (400 : Int32))] below meth c s₁ [] 0 0 := Stand.of_body Bd
  have e0 : s₁.heap = h0 := by rw [← hh, Bd.state]; rfl
  have N0 := Fr.nil n0
  have pre0 : ∀ t, Steps p.tables e below (s₁.setTop (mkF m 0 #[.val (.ref a1), .val (.int (400 : Int32)), .unset, .unset] [])) t → Steps p.tables e below (s₁.setTop (entryFrame m #[(.ref a1), (.int (400 : Int32))] 4)) t := fun t k => castTop (ef_rm1_24 m a1) k
  obtain ⟨cq4, kq4, q4a, q4b, q4c⟩ := isOf hZ e0 (Exa.ext O0.2 E_2)
  obtain ⟨_, _, ⟨T4, L4, k4, n4⟩, -, X4, ⟨Lc4, hQ4, l4, y4, z4⟩, st4⟩ := X0.virtualBackUp hx (owner := "java/lang/Enum") (x := M_1) (y := M_0) hown (mvT hZ (hw _ (gw 8 rfl))) (mvT hZ (hw _ (gw 9 rfl))) (mvT hZ (hw _ (gw 10 rfl))) (by decide) (mvT hZ (hw _ (gw 12 rfl))) (mvT hZ (hw _ (gw 11 rfl))) (backOf (W := 0) (rm2_18 l Z a0 hw [] a1 h0 n0  O0 F3) hZ (hw _ (gw 14 rfl)) (hw _ (gw 13 rfl)) (by decide) (by decide)) q4a q4c (g := (mkF m 1 #[.val (.ref a1), .val (.int (400 : Int32)), .unset, .unset] [(.ref a1)])) rfl (by rw [hml]; rfl) (Steps.refl _) (argsL := []) (rest := []) (lenOf pd_0 rfl) rfl (by show 2 * 0 + _ ≤ _; exact Nat.le_of_eq rfl) (hb hby d1_1) (fun _ _ => ⟨rfl, e0, (by decide : 0 + 0 ≤ _), (by decide : 0 + 0 ≤ _)⟩)
  dsimp only [Pt.U, Pt.locs, Pt.cells, Pt.slots] at X4 l4 y4 z4 st4 hQ4
  subst l4 y4 z4
  obtain ⟨rfl, u6, u7⟩ := hQ4
  have N4 := Fr.app N0 u6
  obtain ⟨T10, X10, e10, st10⟩ := getS2 X4 hx hZ hown (host := "") (Or.inl (hw _ (gw 17 rfl))) Via.refl u7 (Sta.ext O0.2 S_9) (g := (mkF m 124 #[.val (.ref a1), .val (.int (400 : Int32)), .val (.int (0 : Int32)), .unset] [])) rfl (hb hby d1_124)
  obtain ⟨fs, hr, hrun, hended, hW, hsame⟩ := X10.leave (v := some (.ref a8)) (fun h => by rw [Bd.returns] at h; cases h)
  refine ⟨_, _, pre0 _ ?_, hrun, hended, _, _, rfl, ?_, ⟨_, rfl⟩, hW, hsame.mono (by decide) (by decide)⟩
  · show Steps p.tables e below (s₁.setTop (mkF m 0 #[.val (.ref a1), .val (.int (400 : Int32)), .unset, .unset] [])) _
    refine XS.aloadN X0.here hx rfl (hb hby d1_0) rfl rfl ?_
    show Steps p.tables e below (s₁.setTop (mkF m 1 #[.val (.ref a1), .val (.int (400 : Int32)), .unset, .unset] [(.ref a1)])) _
    refine st4.trans ?_
    show Steps p.tables e below (T4.setTop (mkF m 4 #[.val (.ref a1), .val (.int (400 : Int32)), .unset, .unset] [(.int (1 : Int32))])) _
    refine XS.tswIn X4.here hx rfl (pc0 := 4) (pc' := 57) rfl (hb hby d1_4) rfl (by decide) (o := 53) rfl (by decide) (by decide) ?_
    show Steps p.tables e below (T4.setTop (mkF m 57 #[.val (.ref a1), .val (.int (400 : Int32)), .unset, .unset] [])) _
    refine XS.iloadN X4.here hx rfl (hb hby d1_57) rfl ?_
    show Steps p.tables e below (T4.setTop (mkF m 58 #[.val (.ref a1), .val (.int (400 : Int32)), .unset, .unset] [(.int (400 : Int32))])) _
    refine XS.sipush X4.here hx rfl (hb hby d1_58) ?_
    show Steps p.tables e below (T4.setTop (mkF m 61 #[.val (.ref a1), .val (.int (400 : Int32)), .unset, .unset] [(.int (200 : Int32)), (.int (400 : Int32))])) _
    refine XS.icmpNo X4.here hx rfl (hb hby d1_61) rfl (feq (by decide +kernel : ¬ ((400 : Int32) = (200 : Int32)))).1 ?_
    show Steps p.tables e below (T4.setTop (mkF m 64 #[.val (.ref a1), .val (.int (400 : Int32)), .unset, .unset] [])) _
    refine XS.iloadN X4.here hx rfl (hb hby d1_64) rfl ?_
    show Steps p.tables e below (T4.setTop (mkF m 65 #[.val (.ref a1), .val (.int (400 : Int32)), .unset, .unset] [(.int (400 : Int32))])) _
    refine XS.sipush X4.here hx rfl (hb hby d1_65) ?_
    show Steps p.tables e below (T4.setTop (mkF m 68 #[.val (.ref a1), .val (.int (400 : Int32)), .unset, .unset] [(.int (404 : Int32)), (.int (400 : Int32))])) _
    refine XS.icmpYes X4.here hx rfl (pc0 := 68) (pc' := 75) rfl (hb hby d1_68) rfl (feq (by decide +kernel : ¬ ((400 : Int32) = (404 : Int32)))).2 (by decide) (by decide) ?_
    show Steps p.tables e below (T4.setTop (mkF m 75 #[.val (.ref a1), .val (.int (400 : Int32)), .unset, .unset] [])) _
    refine XS.iconst X4.here hx rfl (hb hby d1_75) ?_
    show Steps p.tables e below (T4.setTop (mkF m 76 #[.val (.ref a1), .val (.int (400 : Int32)), .unset, .unset] [(.int (0 : Int32))])) _
    refine XS.goto X4.here hx rfl (pc0 := 76) (pc' := 98) rfl (hb hby d1_76) (by decide) (by decide) ?_
    show Steps p.tables e below (T4.setTop (mkF m 98 #[.val (.ref a1), .val (.int (400 : Int32)), .unset, .unset] [(.int (0 : Int32))])) _
    refine XS.istoreN X4.here hx rfl (hb hby d1_98) rfl (l' := #[.val (.ref a1), .val (.int (400 : Int32)), .val (.int (0 : Int32)), .unset]) rfl ?_
    show Steps p.tables e below (T4.setTop (mkF m 99 #[.val (.ref a1), .val (.int (400 : Int32)), .val (.int (0 : Int32)), .unset] [])) _
    refine XS.iloadN X4.here hx rfl (hb hby d1_99) rfl ?_
    show Steps p.tables e below (T4.setTop (mkF m 100 #[.val (.ref a1), .val (.int (400 : Int32)), .val (.int (0 : Int32)), .unset] [(.int (0 : Int32))])) _
    refine XS.ifYes X4.here hx rfl (pc0 := 100) (pc' := 110) rfl (hb hby d1_100) rfl ((if0 _ _).trans (teq (by decide +kernel : (0 : Int32) = (0 : Int32))).1) (by decide) (by decide) ?_
    show Steps p.tables e below (T4.setTop (mkF m 110 #[.val (.ref a1), .val (.int (400 : Int32)), .val (.int (0 : Int32)), .unset] [])) _
    refine XS.iloadN X4.here hx rfl (hb hby d1_110) rfl ?_
    show Steps p.tables e below (T4.setTop (mkF m 111 #[.val (.ref a1), .val (.int (400 : Int32)), .val (.int (0 : Int32)), .unset] [(.int (400 : Int32))])) _
    refine XS.sipush X4.here hx rfl (hb hby d1_111) ?_
    show Steps p.tables e below (T4.setTop (mkF m 114 #[.val (.ref a1), .val (.int (400 : Int32)), .val (.int (0 : Int32)), .unset] [(.int (400 : Int32)), (.int (400 : Int32))])) _
    refine XS.icmpYes X4.here hx rfl (pc0 := 114) (pc' := 124) rfl (hb hby d1_114) rfl (teq (by decide +kernel : (400 : Int32) = (400 : Int32))).1 (by decide) (by decide) ?_
    show Steps p.tables e below (T4.setTop (mkF m 124 #[.val (.ref a1), .val (.int (400 : Int32)), .val (.int (0 : Int32)), .unset] [])) _
    refine st10 _ ?_
    show Steps p.tables e below (T10.setTop (mkF m 127 #[.val (.ref a1), .val (.int (400 : Int32)), .val (.int (0 : Int32)), .unset] [(.ref a8)])) _
    refine XS.astoreN X10.here hx rfl (hb hby d1_127) rfl rfl (l' := #[.val (.ref a1), .val (.int (400 : Int32)), .val (.int (0 : Int32)), .val (.ref a8)]) rfl ?_
    show Steps p.tables e below (T10.setTop (mkF m 128 #[.val (.ref a1), .val (.int (400 : Int32)), .val (.int (0 : Int32)), .val (.ref a8)] [])) _
    refine XS.goto X10.here hx rfl (pc0 := 128) (pc' := 135) rfl (hb hby d1_128) (by decide) (by decide) ?_
    show Steps p.tables e below (T10.setTop (mkF m 135 #[.val (.ref a1), .val (.int (400 : Int32)), .val (.int (0 : Int32)), .val (.ref a8)] [])) _
    refine XS.aloadN X10.here hx rfl (hb hby d1_135) rfl rfl ?_
    show Steps p.tables e below (T10.setTop (mkF m 136 #[.val (.ref a1), .val (.int (400 : Int32)), .val (.int (0 : Int32)), .val (.ref a8)] [(.ref a8)])) _
    jvm_step X10.here [X10.here.top, hx, (hb hby d1_136), X10.method', Bd.returns, Value.isRef, FieldType.isReference]
    first | (intro acts; rw [hr _ acts rfl rfl rfl]) | rw [hr _ _ rfl rfl rfl]
    exact Steps.refl _
  · show Q1_24 Z _ _ h0 n0 _ T10.heap _
    rw [e10]
    exact ⟨rfl, N4, rfl⟩
theorem ef_rm3_25 (m : MethodId)  : entryFrame m #[(.int (1 : Int32)), (.int (400 : Int32))] 2 = mkF m 0 #[.val (.int (1 : Int32)), .val (.int (400 : Int32))] [] := by first | (simp [entryFrame, mkF, argsToLocals, Value.category]; done) | rfl
def Q3_25 (Z : State) (a1 : Addr) (h0 : Heap) (n0 : Nat) (v : Option Value) (h : Heap) (L : List Loc) : Prop := (v = some (.ref a1) ∧ Fr n0 L ∧ h = h0)
set_option maxRecDepth 65536 in
set_option maxHeartbeats 40000000 in
theorem rm3_25 (l : Launch) (Z : State) (a0 : Array Value) (hw : ∀ d ∈ own_ws, d.before a0 Z = true) (ws : List Jvm.Cond) (a1 : Addr) (h0 : Heap) (n0 : Nat) (O0 : Old Z n0 h0) (S_2 : Sta Z Z.heap "com/example/ringstead/ringstead/node/History$Type" "FAIL" "Lcom/example/ringstead/ringstead/node/History$Type;" (.ref a1)) :
    MetFree l M_3 (head1 (Jvm.Cond.code M_3 method_2_code 2 (some (.object "com/example/ringstead/ringstead/node/History$Type")) :: ws) ({ frames := 0, cells := 0, slots := 0, locals := 0 } : Room)) (fun a U => a = #[(.int (1 : Int32)), (.int (400 : Int32))] ∧ Z.Warmed39 U.vm ∧ U.heap = h0) (fun _ _ _ _ _ => True) (fun _ U o U' => ∃ v L, o = .returned v ∧ Q3_25 Z a1 h0 n0 v U'.heap L ∧ FrameEnd U o U' L ({ frames := 0, cells := 0, slots := 0, locals := 0 } : Room).cells ({ frames := 0, cells := 0, slots := 0, locals := 0 } : Room).slots) := by
  refine MetFree.of_bodySF (plainFor_of_name pn_2) hisR ?_
  intro p e s m args below meth c s₁ Bd hml0 hP hK
  obtain ⟨rfl, hZ, hh⟩ := hP
  have hx := Bd.exec
  have hby := Bd.bytes
  have hml : c.maxLocals = 2 := hml0
  have hown : s.vm.findClass "com/example/ringstead/ringstead/node/TypeOfPinLaw" = some m.cls := findClass_of_methodNamed Bd.named
  have hnm := (name_of_methodNamed Bd.named Bd.method).1
  have X0 : Stand p l e ({ frames := 0, cells := 0, slots := 0, locals := 0 } : Room) s m #[(.int (1 : Int32)), (.int (400 : Int32))] below meth c s₁ [] 0 0 := Stand.of_body Bd
  have e0 : s₁.heap = h0 := by rw [← hh, Bd.state]; rfl
  have N0 := Fr.nil n0
  have pre0 : ∀ t, Steps p.tables e below (s₁.setTop (mkF m 0 #[.val (.int (1 : Int32)), .val (.int (400 : Int32))] [])) t → Steps p.tables e below (s₁.setTop (entryFrame m #[(.int (1 : Int32)), (.int (400 : Int32))] 2)) t := fun t k => castTop (ef_rm3_25 m ) k
  obtain ⟨T3, X3, e3, st3⟩ := getS2 X0 hx hZ hown (host := "") (Or.inl (hw _ (gw 23 rfl))) Via.refl e0 (Sta.ext O0.2 S_2) (g := (mkF m 79 #[.val (.int (1 : Int32)), .val (.int (400 : Int32))] [])) rfl (hb hby d3_79)
  obtain ⟨fs, hr, hrun, hended, hW, hsame⟩ := X3.leave (v := some (.ref a1)) (fun h => by rw [Bd.returns] at h; cases h)
  refine ⟨_, _, pre0 _ ?_, hrun, hended, _, _, rfl, ?_, ⟨_, rfl⟩, hW, hsame.mono (by decide) (by decide)⟩
  · show Steps p.tables e below (s₁.setTop (mkF m 0 #[.val (.int (1 : Int32)), .val (.int (400 : Int32))] [])) _
    refine XS.iloadN X0.here hx rfl (hb hby d3_0) rfl ?_
    show Steps p.tables e below (s₁.setTop (mkF m 1 #[.val (.int (1 : Int32)), .val (.int (400 : Int32))] [(.int (400 : Int32))])) _
    refine XS.sipush X0.here hx rfl (hb hby d3_1) ?_
    show Steps p.tables e below (s₁.setTop (mkF m 4 #[.val (.int (1 : Int32)), .val (.int (400 : Int32))] [(.int (204 : Int32)), (.int (400 : Int32))])) _
    refine XS.icmpYes X0.here hx rfl (pc0 := 4) (pc' := 22) rfl (hb hby d3_4) rfl (feq (by decide +kernel : ¬ ((400 : Int32) = (204 : Int32)))).2 (by decide) (by decide) ?_
    show Steps p.tables e below (s₁.setTop (mkF m 22 #[.val (.int (1 : Int32)), .val (.int (400 : Int32))] [])) _
    refine XS.iloadN X0.here hx rfl (hb hby d3_22) rfl ?_
    show Steps p.tables e below (s₁.setTop (mkF m 23 #[.val (.int (1 : Int32)), .val (.int (400 : Int32))] [(.int (400 : Int32))])) _
    refine XS.sipush X0.here hx rfl (hb hby d3_23) ?_
    show Steps p.tables e below (s₁.setTop (mkF m 26 #[.val (.int (1 : Int32)), .val (.int (400 : Int32))] [(.int (200 : Int32)), (.int (400 : Int32))])) _
    refine XS.icmpYes X0.here hx rfl (pc0 := 26) (pc' := 44) rfl (hb hby d3_26) rfl (feq (by decide +kernel : ¬ ((400 : Int32) = (200 : Int32)))).2 (by decide) (by decide) ?_
    show Steps p.tables e below (s₁.setTop (mkF m 44 #[.val (.int (1 : Int32)), .val (.int (400 : Int32))] [])) _
    refine XS.iloadN X0.here hx rfl (hb hby d3_44) rfl ?_
    show Steps p.tables e below (s₁.setTop (mkF m 45 #[.val (.int (1 : Int32)), .val (.int (400 : Int32))] [(.int (400 : Int32))])) _
    refine XS.sipush X0.here hx rfl (hb hby d3_45) ?_
    show Steps p.tables e below (s₁.setTop (mkF m 48 #[.val (.int (1 : Int32)), .val (.int (400 : Int32))] [(.int (404 : Int32)), (.int (400 : Int32))])) _
    refine XS.icmpYes X0.here hx rfl (pc0 := 48) (pc' := 65) rfl (hb hby d3_48) rfl (feq (by decide +kernel : ¬ ((400 : Int32) = (404 : Int32)))).2 (by decide) (by decide) ?_
    show Steps p.tables e below (s₁.setTop (mkF m 65 #[.val (.int (1 : Int32)), .val (.int (400 : Int32))] [])) _
    refine XS.iloadN X0.here hx rfl (hb hby d3_65) rfl ?_
    show Steps p.tables e below (s₁.setTop (mkF m 66 #[.val (.int (1 : Int32)), .val (.int (400 : Int32))] [(.int (400 : Int32))])) _
    refine XS.sipush X0.here hx rfl (hb hby d3_66) ?_
    show Steps p.tables e below (s₁.setTop (mkF m 69 #[.val (.int (1 : Int32)), .val (.int (400 : Int32))] [(.int (400 : Int32)), (.int (400 : Int32))])) _
    refine XS.icmpYes X0.here hx rfl (pc0 := 69) (pc' := 79) rfl (hb hby d3_69) rfl (teq (by decide +kernel : (400 : Int32) = (400 : Int32))).1 (by decide) (by decide) ?_
    show Steps p.tables e below (s₁.setTop (mkF m 79 #[.val (.int (1 : Int32)), .val (.int (400 : Int32))] [])) _
    refine st3 _ ?_
    show Steps p.tables e below (T3.setTop (mkF m 82 #[.val (.int (1 : Int32)), .val (.int (400 : Int32))] [(.ref a1)])) _
    jvm_step X3.here [X3.here.top, hx, (hb hby d3_82), X3.method', Bd.returns, Value.isRef, FieldType.isReference]
    first | (intro acts; rw [hr _ acts rfl rfl rfl]) | rw [hr _ _ rfl rfl rfl]
    exact Steps.refl _
  · show Q3_25 Z _ h0 n0 _ T3.heap _
    rw [e3]
    exact ⟨rfl, N0, rfl⟩
theorem ef_rm1_26 (m : MethodId) (x0 : Addr) : entryFrame m #[(.ref x0), (.int (413 : Int32))] 4 = mkF m 0 #[.val (.ref x0), .val (.int (413 : Int32)), .unset, .unset] [] := by first | (simp [entryFrame, mkF, argsToLocals, Value.category]; done) | rfl
def Q1_26 (Z : State) (a1 : Addr) (a8 : Addr) (h0 : Heap) (n0 : Nat) (v : Option Value) (h : Heap) (L : List Loc) : Prop := (v = some (.ref a8) ∧ Fr n0 L ∧ h = h0)
set_option maxRecDepth 65536 in
set_option maxHeartbeats 40000000 in
theorem rm1_26 (l : Launch) (Z : State) (a0 : Array Value) (hw : ∀ d ∈ own_ws, d.before a0 Z = true) (ws : List Jvm.Cond) (a1 : Addr) (a8 : Addr) (h0 : Heap) (n0 : Nat) (O0 : Old Z n0 h0) (E_2 : Exa Z Z.heap a1 "com/example/ringstead/ringstead/node/History$Operation") (F3 : Fld Z Z.heap a1 "java/lang/Enum" "ordinal" "I" (.int (1 : Int32))) (S_9 : Sta Z Z.heap "com/example/ringstead/ringstead/node/History$Type" "FAIL" "Lcom/example/ringstead/ringstead/node/History$Type;" (.ref a8)) :
    MetFree l M_2 (head1 (Jvm.Cond.code M_2 prog_19_method_5_code 4 (some (.object "com/example/ringstead/ringstead/node/History$Type")) :: ws) ({ frames := 1, cells := 0, slots := 0, locals := 12 } : Room)) (fun a U => a = #[(.ref a1), (.int (413 : Int32))] ∧ Z.Warmed39 U.vm ∧ U.heap = h0) (fun _ _ _ _ _ => True) (fun _ U o U' => ∃ v L, o = .returned v ∧ Q1_26 Z a1 a8 h0 n0 v U'.heap L ∧ FrameEnd U o U' L ({ frames := 1, cells := 0, slots := 0, locals := 12 } : Room).cells ({ frames := 1, cells := 0, slots := 0, locals := 12 } : Room).slots) := by
  refine MetFree.of_bodySF (plainFor_of_name pn_1) hisR ?_
  intro p e s m args below meth c s₁ Bd hml0 hP hK
  obtain ⟨rfl, hZ, hh⟩ := hP
  have hx := Bd.exec
  have hby := Bd.bytes
  have hml : c.maxLocals = 4 := hml0
  have hown : s.vm.findClass "com/example/ringstead/ringstead/node/History$Type" = some m.cls := findClass_of_methodNamed Bd.named
  have hnm := (name_of_methodNamed Bd.named Bd.method).1
  have X0 : Stand p l e ({ frames := 1, cells := 0, slots := 0, locals := 12 } : Room) s m #[(.ref a1), (.int (413 : Int32))] below meth c s₁ [] 0 0 := Stand.of_body Bd
  have e0 : s₁.heap = h0 := by rw [← hh, Bd.state]; rfl
  have N0 := Fr.nil n0
  have pre0 : ∀ t, Steps p.tables e below (s₁.setTop (mkF m 0 #[.val (.ref a1), .val (.int (413 : Int32)), .unset, .unset] [])) t → Steps p.tables e below (s₁.setTop (entryFrame m #[(.ref a1), (.int (413 : Int32))] 4)) t := fun t k => castTop (ef_rm1_26 m a1) k
  obtain ⟨cq4, kq4, q4a, q4b, q4c⟩ := isOf hZ e0 (Exa.ext O0.2 E_2)
  obtain ⟨_, _, ⟨T4, L4, k4, n4⟩, -, X4, ⟨Lc4, hQ4, l4, y4, z4⟩, st4⟩ := X0.virtualBackUp hx (owner := "java/lang/Enum") (x := M_1) (y := M_0) hown (mvT hZ (hw _ (gw 8 rfl))) (mvT hZ (hw _ (gw 9 rfl))) (mvT hZ (hw _ (gw 10 rfl))) (by decide) (mvT hZ (hw _ (gw 12 rfl))) (mvT hZ (hw _ (gw 11 rfl))) (backOf (W := 0) (rm2_18 l Z a0 hw [] a1 h0 n0  O0 F3) hZ (hw _ (gw 14 rfl)) (hw _ (gw 13 rfl)) (by decide) (by decide)) q4a q4c (g := (mkF m 1 #[.val (.ref a1), .val (.int (413 : Int32)), .unset, .unset] [(.ref a1)])) rfl (by rw [hml]; rfl) (Steps.refl _) (argsL := []) (rest := []) (lenOf pd_0 rfl) rfl (by show 2 * 0 + _ ≤ _; exact Nat.le_of_eq rfl) (hb hby d1_1) (fun _ _ => ⟨rfl, e0, (by decide : 0 + 0 ≤ _), (by decide : 0 + 0 ≤ _)⟩)
  dsimp only [Pt.U, Pt.locs, Pt.cells, Pt.slots] at X4 l4 y4 z4 st4 hQ4
  subst l4 y4 z4
  obtain ⟨rfl, u6, u7⟩ := hQ4
  have N4 := Fr.app N0 u6
  obtain ⟨T10, X10, e10, st10⟩ := getS2 X4 hx hZ hown (host := "") (Or.inl (hw _ (gw 17 rfl))) Via.refl u7 (Sta.ext O0.2 S_9) (g := (mkF m 124 #[.val (.ref a1), .val (.int (413 : Int32)), .val (.int (0 : Int32)), .unset] [])) rfl (hb hby d1_124)
  obtain ⟨fs, hr, hrun, hended, hW, hsame⟩ := X10.leave (v := some (.ref a8)) (fun h => by rw [Bd.returns] at h; cases h)
  refine ⟨_, _, pre0 _ ?_, hrun, hended, _, _, rfl, ?_, ⟨_, rfl⟩, hW, hsame.mono (by decide) (by decide)⟩
  · show Steps p.tables e below (s₁.setTop (mkF m 0 #[.val (.ref a1), .val (.int (413 : Int32)), .unset, .unset] [])) _
    refine XS.aloadN X0.here hx rfl (hb hby d1_0) rfl rfl ?_
    show Steps p.tables e below (s₁.setTop (mkF m 1 #[.val (.ref a1), .val (.int (413 : Int32)), .unset, .unset] [(.ref a1)])) _
    refine st4.trans ?_
    show Steps p.tables e below (T4.setTop (mkF m 4 #[.val (.ref a1), .val (.int (413 : Int32)), .unset, .unset] [(.int (1 : Int32))])) _
    refine XS.tswIn X4.here hx rfl (pc0 := 4) (pc' := 57) rfl (hb hby d1_4) rfl (by decide) (o := 53) rfl (by decide) (by decide) ?_
    show Steps p.tables e below (T4.setTop (mkF m 57 #[.val (.ref a1), .val (.int (413 : Int32)), .unset, .unset] [])) _
    refine XS.iloadN X4.here hx rfl (hb hby d1_57) rfl ?_
    show Steps p.tables e below (T4.setTop (mkF m 58 #[.val (.ref a1), .val (.int (413 : Int32)), .unset, .unset] [(.int (413 : Int32))])) _
    refine XS.sipush X4.here hx rfl (hb hby d1_58) ?_
    show Steps p.tables e below (T4.setTop (mkF m 61 #[.val (.ref a1), .val (.int (413 : Int32)), .unset, .unset] [(.int (200 : Int32)), (.int (413 : Int32))])) _
    refine XS.icmpNo X4.here hx rfl (hb hby d1_61) rfl (feq (by decide +kernel : ¬ ((413 : Int32) = (200 : Int32)))).1 ?_
    show Steps p.tables e below (T4.setTop (mkF m 64 #[.val (.ref a1), .val (.int (413 : Int32)), .unset, .unset] [])) _
    refine XS.iloadN X4.here hx rfl (hb hby d1_64) rfl ?_
    show Steps p.tables e below (T4.setTop (mkF m 65 #[.val (.ref a1), .val (.int (413 : Int32)), .unset, .unset] [(.int (413 : Int32))])) _
    refine XS.sipush X4.here hx rfl (hb hby d1_65) ?_
    show Steps p.tables e below (T4.setTop (mkF m 68 #[.val (.ref a1), .val (.int (413 : Int32)), .unset, .unset] [(.int (404 : Int32)), (.int (413 : Int32))])) _
    refine XS.icmpYes X4.here hx rfl (pc0 := 68) (pc' := 75) rfl (hb hby d1_68) rfl (feq (by decide +kernel : ¬ ((413 : Int32) = (404 : Int32)))).2 (by decide) (by decide) ?_
    show Steps p.tables e below (T4.setTop (mkF m 75 #[.val (.ref a1), .val (.int (413 : Int32)), .unset, .unset] [])) _
    refine XS.iconst X4.here hx rfl (hb hby d1_75) ?_
    show Steps p.tables e below (T4.setTop (mkF m 76 #[.val (.ref a1), .val (.int (413 : Int32)), .unset, .unset] [(.int (0 : Int32))])) _
    refine XS.goto X4.here hx rfl (pc0 := 76) (pc' := 98) rfl (hb hby d1_76) (by decide) (by decide) ?_
    show Steps p.tables e below (T4.setTop (mkF m 98 #[.val (.ref a1), .val (.int (413 : Int32)), .unset, .unset] [(.int (0 : Int32))])) _
    refine XS.istoreN X4.here hx rfl (hb hby d1_98) rfl (l' := #[.val (.ref a1), .val (.int (413 : Int32)), .val (.int (0 : Int32)), .unset]) rfl ?_
    show Steps p.tables e below (T4.setTop (mkF m 99 #[.val (.ref a1), .val (.int (413 : Int32)), .val (.int (0 : Int32)), .unset] [])) _
    refine XS.iloadN X4.here hx rfl (hb hby d1_99) rfl ?_
    show Steps p.tables e below (T4.setTop (mkF m 100 #[.val (.ref a1), .val (.int (413 : Int32)), .val (.int (0 : Int32)), .unset] [(.int (0 : Int32))])) _
    refine XS.ifYes X4.here hx rfl (pc0 := 100) (pc' := 110) rfl (hb hby d1_100) rfl ((if0 _ _).trans (teq (by decide +kernel : (0 : Int32) = (0 : Int32))).1) (by decide) (by decide) ?_
    show Steps p.tables e below (T4.setTop (mkF m 110 #[.val (.ref a1), .val (.int (413 : Int32)), .val (.int (0 : Int32)), .unset] [])) _
    refine XS.iloadN X4.here hx rfl (hb hby d1_110) rfl ?_
    show Steps p.tables e below (T4.setTop (mkF m 111 #[.val (.ref a1), .val (.int (413 : Int32)), .val (.int (0 : Int32)), .unset] [(.int (413 : Int32))])) _
    refine XS.sipush X4.here hx rfl (hb hby d1_111) ?_
    show Steps p.tables e below (T4.setTop (mkF m 114 #[.val (.ref a1), .val (.int (413 : Int32)), .val (.int (0 : Int32)), .unset] [(.int (400 : Int32)), (.int (413 : Int32))])) _
    refine XS.icmpNo X4.here hx rfl (hb hby d1_114) rfl (feq (by decide +kernel : ¬ ((413 : Int32) = (400 : Int32)))).1 ?_
    show Steps p.tables e below (T4.setTop (mkF m 117 #[.val (.ref a1), .val (.int (413 : Int32)), .val (.int (0 : Int32)), .unset] [])) _
    refine XS.iloadN X4.here hx rfl (hb hby d1_117) rfl ?_
    show Steps p.tables e below (T4.setTop (mkF m 118 #[.val (.ref a1), .val (.int (413 : Int32)), .val (.int (0 : Int32)), .unset] [(.int (413 : Int32))])) _
    refine XS.sipush X4.here hx rfl (hb hby d1_118) ?_
    show Steps p.tables e below (T4.setTop (mkF m 121 #[.val (.ref a1), .val (.int (413 : Int32)), .val (.int (0 : Int32)), .unset] [(.int (413 : Int32)), (.int (413 : Int32))])) _
    refine XS.icmpNo X4.here hx rfl (hb hby d1_121) rfl (teq (by decide +kernel : (413 : Int32) = (413 : Int32))).2 ?_
    show Steps p.tables e below (T4.setTop (mkF m 124 #[.val (.ref a1), .val (.int (413 : Int32)), .val (.int (0 : Int32)), .unset] [])) _
    refine st10 _ ?_
    show Steps p.tables e below (T10.setTop (mkF m 127 #[.val (.ref a1), .val (.int (413 : Int32)), .val (.int (0 : Int32)), .unset] [(.ref a8)])) _
    refine XS.astoreN X10.here hx rfl (hb hby d1_127) rfl rfl (l' := #[.val (.ref a1), .val (.int (413 : Int32)), .val (.int (0 : Int32)), .val (.ref a8)]) rfl ?_
    show Steps p.tables e below (T10.setTop (mkF m 128 #[.val (.ref a1), .val (.int (413 : Int32)), .val (.int (0 : Int32)), .val (.ref a8)] [])) _
    refine XS.goto X10.here hx rfl (pc0 := 128) (pc' := 135) rfl (hb hby d1_128) (by decide) (by decide) ?_
    show Steps p.tables e below (T10.setTop (mkF m 135 #[.val (.ref a1), .val (.int (413 : Int32)), .val (.int (0 : Int32)), .val (.ref a8)] [])) _
    refine XS.aloadN X10.here hx rfl (hb hby d1_135) rfl rfl ?_
    show Steps p.tables e below (T10.setTop (mkF m 136 #[.val (.ref a1), .val (.int (413 : Int32)), .val (.int (0 : Int32)), .val (.ref a8)] [(.ref a8)])) _
    jvm_step X10.here [X10.here.top, hx, (hb hby d1_136), X10.method', Bd.returns, Value.isRef, FieldType.isReference]
    first | (intro acts; rw [hr _ acts rfl rfl rfl]) | rw [hr _ _ rfl rfl rfl]
    exact Steps.refl _
  · show Q1_26 Z _ _ h0 n0 _ T10.heap _
    rw [e10]
    exact ⟨rfl, N4, rfl⟩
theorem ef_rm3_27 (m : MethodId)  : entryFrame m #[(.int (1 : Int32)), (.int (413 : Int32))] 2 = mkF m 0 #[.val (.int (1 : Int32)), .val (.int (413 : Int32))] [] := by first | (simp [entryFrame, mkF, argsToLocals, Value.category]; done) | rfl
def Q3_27 (Z : State) (a1 : Addr) (h0 : Heap) (n0 : Nat) (v : Option Value) (h : Heap) (L : List Loc) : Prop := (v = some (.ref a1) ∧ Fr n0 L ∧ h = h0)
set_option maxRecDepth 65536 in
set_option maxHeartbeats 40000000 in
theorem rm3_27 (l : Launch) (Z : State) (a0 : Array Value) (hw : ∀ d ∈ own_ws, d.before a0 Z = true) (ws : List Jvm.Cond) (a1 : Addr) (h0 : Heap) (n0 : Nat) (O0 : Old Z n0 h0) (S_2 : Sta Z Z.heap "com/example/ringstead/ringstead/node/History$Type" "FAIL" "Lcom/example/ringstead/ringstead/node/History$Type;" (.ref a1)) :
    MetFree l M_3 (head1 (Jvm.Cond.code M_3 method_2_code 2 (some (.object "com/example/ringstead/ringstead/node/History$Type")) :: ws) ({ frames := 0, cells := 0, slots := 0, locals := 0 } : Room)) (fun a U => a = #[(.int (1 : Int32)), (.int (413 : Int32))] ∧ Z.Warmed39 U.vm ∧ U.heap = h0) (fun _ _ _ _ _ => True) (fun _ U o U' => ∃ v L, o = .returned v ∧ Q3_27 Z a1 h0 n0 v U'.heap L ∧ FrameEnd U o U' L ({ frames := 0, cells := 0, slots := 0, locals := 0 } : Room).cells ({ frames := 0, cells := 0, slots := 0, locals := 0 } : Room).slots) := by
  refine MetFree.of_bodySF (plainFor_of_name pn_2) hisR ?_
  intro p e s m args below meth c s₁ Bd hml0 hP hK
  obtain ⟨rfl, hZ, hh⟩ := hP
  have hx := Bd.exec
  have hby := Bd.bytes
  have hml : c.maxLocals = 2 := hml0
  have hown : s.vm.findClass "com/example/ringstead/ringstead/node/TypeOfPinLaw" = some m.cls := findClass_of_methodNamed Bd.named
  have hnm := (name_of_methodNamed Bd.named Bd.method).1
  have X0 : Stand p l e ({ frames := 0, cells := 0, slots := 0, locals := 0 } : Room) s m #[(.int (1 : Int32)), (.int (413 : Int32))] below meth c s₁ [] 0 0 := Stand.of_body Bd
  have e0 : s₁.heap = h0 := by rw [← hh, Bd.state]; rfl
  have N0 := Fr.nil n0
  have pre0 : ∀ t, Steps p.tables e below (s₁.setTop (mkF m 0 #[.val (.int (1 : Int32)), .val (.int (413 : Int32))] [])) t → Steps p.tables e below (s₁.setTop (entryFrame m #[(.int (1 : Int32)), (.int (413 : Int32))] 2)) t := fun t k => castTop (ef_rm3_27 m ) k
  obtain ⟨T3, X3, e3, st3⟩ := getS2 X0 hx hZ hown (host := "") (Or.inl (hw _ (gw 23 rfl))) Via.refl e0 (Sta.ext O0.2 S_2) (g := (mkF m 79 #[.val (.int (1 : Int32)), .val (.int (413 : Int32))] [])) rfl (hb hby d3_79)
  obtain ⟨fs, hr, hrun, hended, hW, hsame⟩ := X3.leave (v := some (.ref a1)) (fun h => by rw [Bd.returns] at h; cases h)
  refine ⟨_, _, pre0 _ ?_, hrun, hended, _, _, rfl, ?_, ⟨_, rfl⟩, hW, hsame.mono (by decide) (by decide)⟩
  · show Steps p.tables e below (s₁.setTop (mkF m 0 #[.val (.int (1 : Int32)), .val (.int (413 : Int32))] [])) _
    refine XS.iloadN X0.here hx rfl (hb hby d3_0) rfl ?_
    show Steps p.tables e below (s₁.setTop (mkF m 1 #[.val (.int (1 : Int32)), .val (.int (413 : Int32))] [(.int (413 : Int32))])) _
    refine XS.sipush X0.here hx rfl (hb hby d3_1) ?_
    show Steps p.tables e below (s₁.setTop (mkF m 4 #[.val (.int (1 : Int32)), .val (.int (413 : Int32))] [(.int (204 : Int32)), (.int (413 : Int32))])) _
    refine XS.icmpYes X0.here hx rfl (pc0 := 4) (pc' := 22) rfl (hb hby d3_4) rfl (feq (by decide +kernel : ¬ ((413 : Int32) = (204 : Int32)))).2 (by decide) (by decide) ?_
    show Steps p.tables e below (s₁.setTop (mkF m 22 #[.val (.int (1 : Int32)), .val (.int (413 : Int32))] [])) _
    refine XS.iloadN X0.here hx rfl (hb hby d3_22) rfl ?_
    show Steps p.tables e below (s₁.setTop (mkF m 23 #[.val (.int (1 : Int32)), .val (.int (413 : Int32))] [(.int (413 : Int32))])) _
    refine XS.sipush X0.here hx rfl (hb hby d3_23) ?_
    show Steps p.tables e below (s₁.setTop (mkF m 26 #[.val (.int (1 : Int32)), .val (.int (413 : Int32))] [(.int (200 : Int32)), (.int (413 : Int32))])) _
    refine XS.icmpYes X0.here hx rfl (pc0 := 26) (pc' := 44) rfl (hb hby d3_26) rfl (feq (by decide +kernel : ¬ ((413 : Int32) = (200 : Int32)))).2 (by decide) (by decide) ?_
    show Steps p.tables e below (s₁.setTop (mkF m 44 #[.val (.int (1 : Int32)), .val (.int (413 : Int32))] [])) _
    refine XS.iloadN X0.here hx rfl (hb hby d3_44) rfl ?_
    show Steps p.tables e below (s₁.setTop (mkF m 45 #[.val (.int (1 : Int32)), .val (.int (413 : Int32))] [(.int (413 : Int32))])) _
    refine XS.sipush X0.here hx rfl (hb hby d3_45) ?_
    show Steps p.tables e below (s₁.setTop (mkF m 48 #[.val (.int (1 : Int32)), .val (.int (413 : Int32))] [(.int (404 : Int32)), (.int (413 : Int32))])) _
    refine XS.icmpYes X0.here hx rfl (pc0 := 48) (pc' := 65) rfl (hb hby d3_48) rfl (feq (by decide +kernel : ¬ ((413 : Int32) = (404 : Int32)))).2 (by decide) (by decide) ?_
    show Steps p.tables e below (s₁.setTop (mkF m 65 #[.val (.int (1 : Int32)), .val (.int (413 : Int32))] [])) _
    refine XS.iloadN X0.here hx rfl (hb hby d3_65) rfl ?_
    show Steps p.tables e below (s₁.setTop (mkF m 66 #[.val (.int (1 : Int32)), .val (.int (413 : Int32))] [(.int (413 : Int32))])) _
    refine XS.sipush X0.here hx rfl (hb hby d3_66) ?_
    show Steps p.tables e below (s₁.setTop (mkF m 69 #[.val (.int (1 : Int32)), .val (.int (413 : Int32))] [(.int (400 : Int32)), (.int (413 : Int32))])) _
    refine XS.icmpNo X0.here hx rfl (hb hby d3_69) rfl (feq (by decide +kernel : ¬ ((413 : Int32) = (400 : Int32)))).1 ?_
    show Steps p.tables e below (s₁.setTop (mkF m 72 #[.val (.int (1 : Int32)), .val (.int (413 : Int32))] [])) _
    refine XS.iloadN X0.here hx rfl (hb hby d3_72) rfl ?_
    show Steps p.tables e below (s₁.setTop (mkF m 73 #[.val (.int (1 : Int32)), .val (.int (413 : Int32))] [(.int (413 : Int32))])) _
    refine XS.sipush X0.here hx rfl (hb hby d3_73) ?_
    show Steps p.tables e below (s₁.setTop (mkF m 76 #[.val (.int (1 : Int32)), .val (.int (413 : Int32))] [(.int (413 : Int32)), (.int (413 : Int32))])) _
    refine XS.icmpNo X0.here hx rfl (hb hby d3_76) rfl (teq (by decide +kernel : (413 : Int32) = (413 : Int32))).2 ?_
    show Steps p.tables e below (s₁.setTop (mkF m 79 #[.val (.int (1 : Int32)), .val (.int (413 : Int32))] [])) _
    refine st3 _ ?_
    show Steps p.tables e below (T3.setTop (mkF m 82 #[.val (.int (1 : Int32)), .val (.int (413 : Int32))] [(.ref a1)])) _
    jvm_step X3.here [X3.here.top, hx, (hb hby d3_82), X3.method', Bd.returns, Value.isRef, FieldType.isReference]
    first | (intro acts; rw [hr _ acts rfl rfl rfl]) | rw [hr _ _ rfl rfl rfl]
    exact Steps.refl _
  · show Q3_27 Z _ h0 n0 _ T3.heap _
    rw [e3]
    exact ⟨rfl, N0, rfl⟩
theorem ef_rm1_28 (m : MethodId) (x0 : Addr) : entryFrame m #[(.ref x0), (.int (503 : Int32))] 4 = mkF m 0 #[.val (.ref x0), .val (.int (503 : Int32)), .unset, .unset] [] := by first | (simp [entryFrame, mkF, argsToLocals, Value.category]; done) | rfl
def Q1_28 (Z : State) (a1 : Addr) (a8 : Addr) (h0 : Heap) (n0 : Nat) (v : Option Value) (h : Heap) (L : List Loc) : Prop := (v = some (.ref a8) ∧ Fr n0 L ∧ h = h0)
set_option maxRecDepth 65536 in
set_option maxHeartbeats 40000000 in
theorem rm1_28 (l : Launch) (Z : State) (a0 : Array Value) (hw : ∀ d ∈ own_ws, d.before a0 Z = true) (ws : List Jvm.Cond) (a1 : Addr) (a8 : Addr) (h0 : Heap) (n0 : Nat) (O0 : Old Z n0 h0) (E_2 : Exa Z Z.heap a1 "com/example/ringstead/ringstead/node/History$Operation") (F3 : Fld Z Z.heap a1 "java/lang/Enum" "ordinal" "I" (.int (1 : Int32))) (S_9 : Sta Z Z.heap "com/example/ringstead/ringstead/node/History$Type" "INFO" "Lcom/example/ringstead/ringstead/node/History$Type;" (.ref a8)) :
    MetFree l M_2 (head1 (Jvm.Cond.code M_2 prog_19_method_5_code 4 (some (.object "com/example/ringstead/ringstead/node/History$Type")) :: ws) ({ frames := 1, cells := 0, slots := 0, locals := 12 } : Room)) (fun a U => a = #[(.ref a1), (.int (503 : Int32))] ∧ Z.Warmed39 U.vm ∧ U.heap = h0) (fun _ _ _ _ _ => True) (fun _ U o U' => ∃ v L, o = .returned v ∧ Q1_28 Z a1 a8 h0 n0 v U'.heap L ∧ FrameEnd U o U' L ({ frames := 1, cells := 0, slots := 0, locals := 12 } : Room).cells ({ frames := 1, cells := 0, slots := 0, locals := 12 } : Room).slots) := by
  refine MetFree.of_bodySF (plainFor_of_name pn_1) hisR ?_
  intro p e s m args below meth c s₁ Bd hml0 hP hK
  obtain ⟨rfl, hZ, hh⟩ := hP
  have hx := Bd.exec
  have hby := Bd.bytes
  have hml : c.maxLocals = 4 := hml0
  have hown : s.vm.findClass "com/example/ringstead/ringstead/node/History$Type" = some m.cls := findClass_of_methodNamed Bd.named
  have hnm := (name_of_methodNamed Bd.named Bd.method).1
  have X0 : Stand p l e ({ frames := 1, cells := 0, slots := 0, locals := 12 } : Room) s m #[(.ref a1), (.int (503 : Int32))] below meth c s₁ [] 0 0 := Stand.of_body Bd
  have e0 : s₁.heap = h0 := by rw [← hh, Bd.state]; rfl
  have N0 := Fr.nil n0
  have pre0 : ∀ t, Steps p.tables e below (s₁.setTop (mkF m 0 #[.val (.ref a1), .val (.int (503 : Int32)), .unset, .unset] [])) t → Steps p.tables e below (s₁.setTop (entryFrame m #[(.ref a1), (.int (503 : Int32))] 4)) t := fun t k => castTop (ef_rm1_28 m a1) k
  obtain ⟨cq4, kq4, q4a, q4b, q4c⟩ := isOf hZ e0 (Exa.ext O0.2 E_2)
  obtain ⟨_, _, ⟨T4, L4, k4, n4⟩, -, X4, ⟨Lc4, hQ4, l4, y4, z4⟩, st4⟩ := X0.virtualBackUp hx (owner := "java/lang/Enum") (x := M_1) (y := M_0) hown (mvT hZ (hw _ (gw 8 rfl))) (mvT hZ (hw _ (gw 9 rfl))) (mvT hZ (hw _ (gw 10 rfl))) (by decide) (mvT hZ (hw _ (gw 12 rfl))) (mvT hZ (hw _ (gw 11 rfl))) (backOf (W := 0) (rm2_18 l Z a0 hw [] a1 h0 n0  O0 F3) hZ (hw _ (gw 14 rfl)) (hw _ (gw 13 rfl)) (by decide) (by decide)) q4a q4c (g := (mkF m 1 #[.val (.ref a1), .val (.int (503 : Int32)), .unset, .unset] [(.ref a1)])) rfl (by rw [hml]; rfl) (Steps.refl _) (argsL := []) (rest := []) (lenOf pd_0 rfl) rfl (by show 2 * 0 + _ ≤ _; exact Nat.le_of_eq rfl) (hb hby d1_1) (fun _ _ => ⟨rfl, e0, (by decide : 0 + 0 ≤ _), (by decide : 0 + 0 ≤ _)⟩)
  dsimp only [Pt.U, Pt.locs, Pt.cells, Pt.slots] at X4 l4 y4 z4 st4 hQ4
  subst l4 y4 z4
  obtain ⟨rfl, u6, u7⟩ := hQ4
  have N4 := Fr.app N0 u6
  obtain ⟨T10, X10, e10, st10⟩ := getS2 X4 hx hZ hown (host := "") (Or.inl (hw _ (gw 31 rfl))) Via.refl u7 (Sta.ext O0.2 S_9) (g := (mkF m 131 #[.val (.ref a1), .val (.int (503 : Int32)), .val (.int (0 : Int32)), .unset] [])) rfl (hb hby d1_131)
  obtain ⟨fs, hr, hrun, hended, hW, hsame⟩ := X10.leave (v := some (.ref a8)) (fun h => by rw [Bd.returns] at h; cases h)
  refine ⟨_, _, pre0 _ ?_, hrun, hended, _, _, rfl, ?_, ⟨_, rfl⟩, hW, hsame.mono (by decide) (by decide)⟩
  · show Steps p.tables e below (s₁.setTop (mkF m 0 #[.val (.ref a1), .val (.int (503 : Int32)), .unset, .unset] [])) _
    refine XS.aloadN X0.here hx rfl (hb hby d1_0) rfl rfl ?_
    show Steps p.tables e below (s₁.setTop (mkF m 1 #[.val (.ref a1), .val (.int (503 : Int32)), .unset, .unset] [(.ref a1)])) _
    refine st4.trans ?_
    show Steps p.tables e below (T4.setTop (mkF m 4 #[.val (.ref a1), .val (.int (503 : Int32)), .unset, .unset] [(.int (1 : Int32))])) _
    refine XS.tswIn X4.here hx rfl (pc0 := 4) (pc' := 57) rfl (hb hby d1_4) rfl (by decide) (o := 53) rfl (by decide) (by decide) ?_
    show Steps p.tables e below (T4.setTop (mkF m 57 #[.val (.ref a1), .val (.int (503 : Int32)), .unset, .unset] [])) _
    refine XS.iloadN X4.here hx rfl (hb hby d1_57) rfl ?_
    show Steps p.tables e below (T4.setTop (mkF m 58 #[.val (.ref a1), .val (.int (503 : Int32)), .unset, .unset] [(.int (503 : Int32))])) _
    refine XS.sipush X4.here hx rfl (hb hby d1_58) ?_
    show Steps p.tables e below (T4.setTop (mkF m 61 #[.val (.ref a1), .val (.int (503 : Int32)), .unset, .unset] [(.int (200 : Int32)), (.int (503 : Int32))])) _
    refine XS.icmpNo X4.here hx rfl (hb hby d1_61) rfl (feq (by decide +kernel : ¬ ((503 : Int32) = (200 : Int32)))).1 ?_
    show Steps p.tables e below (T4.setTop (mkF m 64 #[.val (.ref a1), .val (.int (503 : Int32)), .unset, .unset] [])) _
    refine XS.iloadN X4.here hx rfl (hb hby d1_64) rfl ?_
    show Steps p.tables e below (T4.setTop (mkF m 65 #[.val (.ref a1), .val (.int (503 : Int32)), .unset, .unset] [(.int (503 : Int32))])) _
    refine XS.sipush X4.here hx rfl (hb hby d1_65) ?_
    show Steps p.tables e below (T4.setTop (mkF m 68 #[.val (.ref a1), .val (.int (503 : Int32)), .unset, .unset] [(.int (404 : Int32)), (.int (503 : Int32))])) _
    refine XS.icmpYes X4.here hx rfl (pc0 := 68) (pc' := 75) rfl (hb hby d1_68) rfl (feq (by decide +kernel : ¬ ((503 : Int32) = (404 : Int32)))).2 (by decide) (by decide) ?_
    show Steps p.tables e below (T4.setTop (mkF m 75 #[.val (.ref a1), .val (.int (503 : Int32)), .unset, .unset] [])) _
    refine XS.iconst X4.here hx rfl (hb hby d1_75) ?_
    show Steps p.tables e below (T4.setTop (mkF m 76 #[.val (.ref a1), .val (.int (503 : Int32)), .unset, .unset] [(.int (0 : Int32))])) _
    refine XS.goto X4.here hx rfl (pc0 := 76) (pc' := 98) rfl (hb hby d1_76) (by decide) (by decide) ?_
    show Steps p.tables e below (T4.setTop (mkF m 98 #[.val (.ref a1), .val (.int (503 : Int32)), .unset, .unset] [(.int (0 : Int32))])) _
    refine XS.istoreN X4.here hx rfl (hb hby d1_98) rfl (l' := #[.val (.ref a1), .val (.int (503 : Int32)), .val (.int (0 : Int32)), .unset]) rfl ?_
    show Steps p.tables e below (T4.setTop (mkF m 99 #[.val (.ref a1), .val (.int (503 : Int32)), .val (.int (0 : Int32)), .unset] [])) _
    refine XS.iloadN X4.here hx rfl (hb hby d1_99) rfl ?_
    show Steps p.tables e below (T4.setTop (mkF m 100 #[.val (.ref a1), .val (.int (503 : Int32)), .val (.int (0 : Int32)), .unset] [(.int (0 : Int32))])) _
    refine XS.ifYes X4.here hx rfl (pc0 := 100) (pc' := 110) rfl (hb hby d1_100) rfl ((if0 _ _).trans (teq (by decide +kernel : (0 : Int32) = (0 : Int32))).1) (by decide) (by decide) ?_
    show Steps p.tables e below (T4.setTop (mkF m 110 #[.val (.ref a1), .val (.int (503 : Int32)), .val (.int (0 : Int32)), .unset] [])) _
    refine XS.iloadN X4.here hx rfl (hb hby d1_110) rfl ?_
    show Steps p.tables e below (T4.setTop (mkF m 111 #[.val (.ref a1), .val (.int (503 : Int32)), .val (.int (0 : Int32)), .unset] [(.int (503 : Int32))])) _
    refine XS.sipush X4.here hx rfl (hb hby d1_111) ?_
    show Steps p.tables e below (T4.setTop (mkF m 114 #[.val (.ref a1), .val (.int (503 : Int32)), .val (.int (0 : Int32)), .unset] [(.int (400 : Int32)), (.int (503 : Int32))])) _
    refine XS.icmpNo X4.here hx rfl (hb hby d1_114) rfl (feq (by decide +kernel : ¬ ((503 : Int32) = (400 : Int32)))).1 ?_
    show Steps p.tables e below (T4.setTop (mkF m 117 #[.val (.ref a1), .val (.int (503 : Int32)), .val (.int (0 : Int32)), .unset] [])) _
    refine XS.iloadN X4.here hx rfl (hb hby d1_117) rfl ?_
    show Steps p.tables e below (T4.setTop (mkF m 118 #[.val (.ref a1), .val (.int (503 : Int32)), .val (.int (0 : Int32)), .unset] [(.int (503 : Int32))])) _
    refine XS.sipush X4.here hx rfl (hb hby d1_118) ?_
    show Steps p.tables e below (T4.setTop (mkF m 121 #[.val (.ref a1), .val (.int (503 : Int32)), .val (.int (0 : Int32)), .unset] [(.int (413 : Int32)), (.int (503 : Int32))])) _
    refine XS.icmpYes X4.here hx rfl (pc0 := 121) (pc' := 131) rfl (hb hby d1_121) rfl (feq (by decide +kernel : ¬ ((503 : Int32) = (413 : Int32)))).2 (by decide) (by decide) ?_
    show Steps p.tables e below (T4.setTop (mkF m 131 #[.val (.ref a1), .val (.int (503 : Int32)), .val (.int (0 : Int32)), .unset] [])) _
    refine st10 _ ?_
    show Steps p.tables e below (T10.setTop (mkF m 134 #[.val (.ref a1), .val (.int (503 : Int32)), .val (.int (0 : Int32)), .unset] [(.ref a8)])) _
    refine XS.astoreN X10.here hx rfl (hb hby d1_134) rfl rfl (l' := #[.val (.ref a1), .val (.int (503 : Int32)), .val (.int (0 : Int32)), .val (.ref a8)]) rfl ?_
    show Steps p.tables e below (T10.setTop (mkF m 135 #[.val (.ref a1), .val (.int (503 : Int32)), .val (.int (0 : Int32)), .val (.ref a8)] [])) _
    refine XS.aloadN X10.here hx rfl (hb hby d1_135) rfl rfl ?_
    show Steps p.tables e below (T10.setTop (mkF m 136 #[.val (.ref a1), .val (.int (503 : Int32)), .val (.int (0 : Int32)), .val (.ref a8)] [(.ref a8)])) _
    jvm_step X10.here [X10.here.top, hx, (hb hby d1_136), X10.method', Bd.returns, Value.isRef, FieldType.isReference]
    first | (intro acts; rw [hr _ acts rfl rfl rfl]) | rw [hr _ _ rfl rfl rfl]
    exact Steps.refl _
  · show Q1_28 Z _ _ h0 n0 _ T10.heap _
    rw [e10]
    exact ⟨rfl, N4, rfl⟩
theorem ef_rm3_29 (m : MethodId)  : entryFrame m #[(.int (1 : Int32)), (.int (503 : Int32))] 2 = mkF m 0 #[.val (.int (1 : Int32)), .val (.int (503 : Int32))] [] := by first | (simp [entryFrame, mkF, argsToLocals, Value.category]; done) | rfl
def Q3_29 (Z : State) (a1 : Addr) (h0 : Heap) (n0 : Nat) (v : Option Value) (h : Heap) (L : List Loc) : Prop := (v = some (.ref a1) ∧ Fr n0 L ∧ h = h0)
set_option maxRecDepth 65536 in
set_option maxHeartbeats 40000000 in
theorem rm3_29 (l : Launch) (Z : State) (a0 : Array Value) (hw : ∀ d ∈ own_ws, d.before a0 Z = true) (ws : List Jvm.Cond) (a1 : Addr) (h0 : Heap) (n0 : Nat) (O0 : Old Z n0 h0) (S_2 : Sta Z Z.heap "com/example/ringstead/ringstead/node/History$Type" "INFO" "Lcom/example/ringstead/ringstead/node/History$Type;" (.ref a1)) :
    MetFree l M_3 (head1 (Jvm.Cond.code M_3 method_2_code 2 (some (.object "com/example/ringstead/ringstead/node/History$Type")) :: ws) ({ frames := 0, cells := 0, slots := 0, locals := 0 } : Room)) (fun a U => a = #[(.int (1 : Int32)), (.int (503 : Int32))] ∧ Z.Warmed39 U.vm ∧ U.heap = h0) (fun _ _ _ _ _ => True) (fun _ U o U' => ∃ v L, o = .returned v ∧ Q3_29 Z a1 h0 n0 v U'.heap L ∧ FrameEnd U o U' L ({ frames := 0, cells := 0, slots := 0, locals := 0 } : Room).cells ({ frames := 0, cells := 0, slots := 0, locals := 0 } : Room).slots) := by
  refine MetFree.of_bodySF (plainFor_of_name pn_2) hisR ?_
  intro p e s m args below meth c s₁ Bd hml0 hP hK
  obtain ⟨rfl, hZ, hh⟩ := hP
  have hx := Bd.exec
  have hby := Bd.bytes
  have hml : c.maxLocals = 2 := hml0
  have hown : s.vm.findClass "com/example/ringstead/ringstead/node/TypeOfPinLaw" = some m.cls := findClass_of_methodNamed Bd.named
  have hnm := (name_of_methodNamed Bd.named Bd.method).1
  have X0 : Stand p l e ({ frames := 0, cells := 0, slots := 0, locals := 0 } : Room) s m #[(.int (1 : Int32)), (.int (503 : Int32))] below meth c s₁ [] 0 0 := Stand.of_body Bd
  have e0 : s₁.heap = h0 := by rw [← hh, Bd.state]; rfl
  have N0 := Fr.nil n0
  have pre0 : ∀ t, Steps p.tables e below (s₁.setTop (mkF m 0 #[.val (.int (1 : Int32)), .val (.int (503 : Int32))] [])) t → Steps p.tables e below (s₁.setTop (entryFrame m #[(.int (1 : Int32)), (.int (503 : Int32))] 2)) t := fun t k => castTop (ef_rm3_29 m ) k
  obtain ⟨T3, X3, e3, st3⟩ := getS2 X0 hx hZ hown (host := "") (Or.inl (hw _ (gw 33 rfl))) Via.refl e0 (Sta.ext O0.2 S_2) (g := (mkF m 83 #[.val (.int (1 : Int32)), .val (.int (503 : Int32))] [])) rfl (hb hby d3_83)
  obtain ⟨fs, hr, hrun, hended, hW, hsame⟩ := X3.leave (v := some (.ref a1)) (fun h => by rw [Bd.returns] at h; cases h)
  refine ⟨_, _, pre0 _ ?_, hrun, hended, _, _, rfl, ?_, ⟨_, rfl⟩, hW, hsame.mono (by decide) (by decide)⟩
  · show Steps p.tables e below (s₁.setTop (mkF m 0 #[.val (.int (1 : Int32)), .val (.int (503 : Int32))] [])) _
    refine XS.iloadN X0.here hx rfl (hb hby d3_0) rfl ?_
    show Steps p.tables e below (s₁.setTop (mkF m 1 #[.val (.int (1 : Int32)), .val (.int (503 : Int32))] [(.int (503 : Int32))])) _
    refine XS.sipush X0.here hx rfl (hb hby d3_1) ?_
    show Steps p.tables e below (s₁.setTop (mkF m 4 #[.val (.int (1 : Int32)), .val (.int (503 : Int32))] [(.int (204 : Int32)), (.int (503 : Int32))])) _
    refine XS.icmpYes X0.here hx rfl (pc0 := 4) (pc' := 22) rfl (hb hby d3_4) rfl (feq (by decide +kernel : ¬ ((503 : Int32) = (204 : Int32)))).2 (by decide) (by decide) ?_
    show Steps p.tables e below (s₁.setTop (mkF m 22 #[.val (.int (1 : Int32)), .val (.int (503 : Int32))] [])) _
    refine XS.iloadN X0.here hx rfl (hb hby d3_22) rfl ?_
    show Steps p.tables e below (s₁.setTop (mkF m 23 #[.val (.int (1 : Int32)), .val (.int (503 : Int32))] [(.int (503 : Int32))])) _
    refine XS.sipush X0.here hx rfl (hb hby d3_23) ?_
    show Steps p.tables e below (s₁.setTop (mkF m 26 #[.val (.int (1 : Int32)), .val (.int (503 : Int32))] [(.int (200 : Int32)), (.int (503 : Int32))])) _
    refine XS.icmpYes X0.here hx rfl (pc0 := 26) (pc' := 44) rfl (hb hby d3_26) rfl (feq (by decide +kernel : ¬ ((503 : Int32) = (200 : Int32)))).2 (by decide) (by decide) ?_
    show Steps p.tables e below (s₁.setTop (mkF m 44 #[.val (.int (1 : Int32)), .val (.int (503 : Int32))] [])) _
    refine XS.iloadN X0.here hx rfl (hb hby d3_44) rfl ?_
    show Steps p.tables e below (s₁.setTop (mkF m 45 #[.val (.int (1 : Int32)), .val (.int (503 : Int32))] [(.int (503 : Int32))])) _
    refine XS.sipush X0.here hx rfl (hb hby d3_45) ?_
    show Steps p.tables e below (s₁.setTop (mkF m 48 #[.val (.int (1 : Int32)), .val (.int (503 : Int32))] [(.int (404 : Int32)), (.int (503 : Int32))])) _
    refine XS.icmpYes X0.here hx rfl (pc0 := 48) (pc' := 65) rfl (hb hby d3_48) rfl (feq (by decide +kernel : ¬ ((503 : Int32) = (404 : Int32)))).2 (by decide) (by decide) ?_
    show Steps p.tables e below (s₁.setTop (mkF m 65 #[.val (.int (1 : Int32)), .val (.int (503 : Int32))] [])) _
    refine XS.iloadN X0.here hx rfl (hb hby d3_65) rfl ?_
    show Steps p.tables e below (s₁.setTop (mkF m 66 #[.val (.int (1 : Int32)), .val (.int (503 : Int32))] [(.int (503 : Int32))])) _
    refine XS.sipush X0.here hx rfl (hb hby d3_66) ?_
    show Steps p.tables e below (s₁.setTop (mkF m 69 #[.val (.int (1 : Int32)), .val (.int (503 : Int32))] [(.int (400 : Int32)), (.int (503 : Int32))])) _
    refine XS.icmpNo X0.here hx rfl (hb hby d3_69) rfl (feq (by decide +kernel : ¬ ((503 : Int32) = (400 : Int32)))).1 ?_
    show Steps p.tables e below (s₁.setTop (mkF m 72 #[.val (.int (1 : Int32)), .val (.int (503 : Int32))] [])) _
    refine XS.iloadN X0.here hx rfl (hb hby d3_72) rfl ?_
    show Steps p.tables e below (s₁.setTop (mkF m 73 #[.val (.int (1 : Int32)), .val (.int (503 : Int32))] [(.int (503 : Int32))])) _
    refine XS.sipush X0.here hx rfl (hb hby d3_73) ?_
    show Steps p.tables e below (s₁.setTop (mkF m 76 #[.val (.int (1 : Int32)), .val (.int (503 : Int32))] [(.int (413 : Int32)), (.int (503 : Int32))])) _
    refine XS.icmpYes X0.here hx rfl (pc0 := 76) (pc' := 83) rfl (hb hby d3_76) rfl (feq (by decide +kernel : ¬ ((503 : Int32) = (413 : Int32)))).2 (by decide) (by decide) ?_
    show Steps p.tables e below (s₁.setTop (mkF m 83 #[.val (.int (1 : Int32)), .val (.int (503 : Int32))] [])) _
    refine st3 _ ?_
    show Steps p.tables e below (T3.setTop (mkF m 86 #[.val (.int (1 : Int32)), .val (.int (503 : Int32))] [(.ref a1)])) _
    jvm_step X3.here [X3.here.top, hx, (hb hby d3_86), X3.method', Bd.returns, Value.isRef, FieldType.isReference]
    first | (intro acts; rw [hr _ acts rfl rfl rfl]) | rw [hr _ _ rfl rfl rfl]
    exact Steps.refl _
  · show Q3_29 Z _ h0 n0 _ T3.heap _
    rw [e3]
    exact ⟨rfl, N0, rfl⟩
theorem ef_rm1_30 (m : MethodId) (x0 : Addr) (x1 : Int32) : entryFrame m #[(.ref x0), (.int x1)] 4 = mkF m 0 #[.val (.ref x0), .val (.int x1), .unset, .unset] [] := by first | (simp [entryFrame, mkF, argsToLocals, Value.category]; done) | rfl
def Q1_30 (Z : State) (a1 : Addr) (p2 : Int32) (a11 : Addr) (a19 : Addr) (a25 : Addr) (h0 : Heap) (n0 : Nat) (v : Option Value) (h : Heap) (L : List Loc) : Prop := (p2 = (200 : Int32) ∧ v = some (.ref a11) ∧ Fr n0 L ∧ h = h0) ∨ (p2 = (404 : Int32) ∧ ¬ ((404 : Int32) = (200 : Int32)) ∧ v = some (.ref a11) ∧ Fr n0 L ∧ h = h0) ∨ (p2 = (400 : Int32) ∧ ¬ ((400 : Int32) = (200 : Int32)) ∧ ¬ ((400 : Int32) = (404 : Int32)) ∧ v = some (.ref a19) ∧ Fr n0 L ∧ h = h0) ∨ (p2 = (413 : Int32) ∧ ¬ ((413 : Int32) = (200 : Int32)) ∧ ¬ ((413 : Int32) = (404 : Int32)) ∧ ¬ ((413 : Int32) = (400 : Int32)) ∧ v = some (.ref a19) ∧ Fr n0 L ∧ h = h0) ∨ (¬ (p2 = (200 : Int32)) ∧ ¬ (p2 = (404 : Int32)) ∧ ¬ (p2 = (400 : Int32)) ∧ ¬ (p2 = (413 : Int32)) ∧ v = some (.ref a25) ∧ Fr n0 L ∧ h = h0)
set_option maxRecDepth 65536 in
set_option maxHeartbeats 40000000 in
theorem rm1_30 (l : Launch) (Z : State) (a0 : Array Value) (hw : ∀ d ∈ own_ws, d.before a0 Z = true) (ws : List Jvm.Cond) (a1 : Addr) (p2 : Int32) (a11 : Addr) (a19 : Addr) (a25 : Addr) (h0 : Heap) (n0 : Nat) (O0 : Old Z n0 h0) (E_3 : Exa Z Z.heap a1 "com/example/ringstead/ringstead/node/History$Operation") (F4 : Fld Z Z.heap a1 "java/lang/Enum" "ordinal" "I" (.int (1 : Int32))) (S_12 : Sta Z Z.heap "com/example/ringstead/ringstead/node/History$Type" "OK" "Lcom/example/ringstead/ringstead/node/History$Type;" (.ref a11)) (S_20 : Sta Z Z.heap "com/example/ringstead/ringstead/node/History$Type" "FAIL" "Lcom/example/ringstead/ringstead/node/History$Type;" (.ref a19)) (S_26 : Sta Z Z.heap "com/example/ringstead/ringstead/node/History$Type" "INFO" "Lcom/example/ringstead/ringstead/node/History$Type;" (.ref a25)) :
    MetFree l M_2 (head1 (Jvm.Cond.code M_2 prog_19_method_5_code 4 (some (.object "com/example/ringstead/ringstead/node/History$Type")) :: ws) ({ frames := 1, cells := 0, slots := 0, locals := 12 } : Room)) (fun a U => a = #[(.ref a1), (.int p2)] ∧ Z.Warmed39 U.vm ∧ U.heap = h0) (fun _ _ _ _ _ => True) (fun _ U o U' => ∃ v L, o = .returned v ∧ Q1_30 Z a1 p2 a11 a19 a25 h0 n0 v U'.heap L ∧ FrameEnd U o U' L ({ frames := 1, cells := 0, slots := 0, locals := 12 } : Room).cells ({ frames := 1, cells := 0, slots := 0, locals := 12 } : Room).slots) := by
  refine MetFree.of_bodySF (plainFor_of_name pn_1) hisR ?_
  intro p e s m args below meth c s₁ Bd hml0 hP hK
  obtain ⟨rfl, hZ, hh⟩ := hP
  have hx := Bd.exec
  have hby := Bd.bytes
  have hml : c.maxLocals = 4 := hml0
  have hown : s.vm.findClass "com/example/ringstead/ringstead/node/History$Type" = some m.cls := findClass_of_methodNamed Bd.named
  have hnm := (name_of_methodNamed Bd.named Bd.method).1
  have X0 : Stand p l e ({ frames := 1, cells := 0, slots := 0, locals := 12 } : Room) s m #[(.ref a1), (.int p2)] below meth c s₁ [] 0 0 := Stand.of_body Bd
  have e0 : s₁.heap = h0 := by rw [← hh, Bd.state]; rfl
  have N0 := Fr.nil n0
  have pre0 : ∀ t, Steps p.tables e below (s₁.setTop (mkF m 0 #[.val (.ref a1), .val (.int p2), .unset, .unset] [])) t → Steps p.tables e below (s₁.setTop (entryFrame m #[(.ref a1), (.int p2)] 4)) t := fun t k => castTop (ef_rm1_30 m a1 p2) k
  obtain ⟨cq5, kq5, q5a, q5b, q5c⟩ := isOf hZ e0 (Exa.ext O0.2 E_3)
  obtain ⟨_, _, ⟨T5, L5, k5, n5⟩, -, X5, ⟨Lc5, hQ5, l5, y5, z5⟩, st5⟩ := X0.virtualBackUp hx (owner := "java/lang/Enum") (x := M_1) (y := M_0) hown (mvT hZ (hw _ (gw 8 rfl))) (mvT hZ (hw _ (gw 9 rfl))) (mvT hZ (hw _ (gw 10 rfl))) (by decide) (mvT hZ (hw _ (gw 12 rfl))) (mvT hZ (hw _ (gw 11 rfl))) (backOf (W := 0) (rm2_18 l Z a0 hw [] a1 h0 n0  O0 F4) hZ (hw _ (gw 14 rfl)) (hw _ (gw 13 rfl)) (by decide) (by decide)) q5a q5c (g := (mkF m 1 #[.val (.ref a1), .val (.int p2), .unset, .unset] [(.ref a1)])) rfl (by rw [hml]; rfl) (Steps.refl _) (argsL := []) (rest := []) (lenOf pd_0 rfl) rfl (by show 2 * 0 + _ ≤ _; exact Nat.le_of_eq rfl) (hb hby d1_1) (fun _ _ => ⟨rfl, e0, (by decide : 0 + 0 ≤ _), (by decide : 0 + 0 ≤ _)⟩)
  dsimp only [Pt.U, Pt.locs, Pt.cells, Pt.slots] at X5 l5 y5 z5 st5 hQ5
  subst l5 y5 z5
  obtain ⟨rfl, u7, u8⟩ := hQ5
  have N5 := Fr.app N0 u7
  have pre9 : ∀ t, Steps p.tables e below (T5.setTop (mkF m 61 #[.val (.ref a1), .val (.int p2), .unset, .unset] [(.int (200 : Int32)), (.int p2)])) t → Steps p.tables e below (s₁.setTop (entryFrame m #[(.ref a1), (.int p2)] 4)) t := by
    intro t kt
    refine pre0 t ?_
    show Steps p.tables e below (s₁.setTop (mkF m 0 #[.val (.ref a1), .val (.int p2), .unset, .unset] [])) _
    refine XS.aloadN X0.here hx rfl (hb hby d1_0) rfl rfl ?_
    show Steps p.tables e below (s₁.setTop (mkF m 1 #[.val (.ref a1), .val (.int p2), .unset, .unset] [(.ref a1)])) _
    refine st5.trans ?_
    show Steps p.tables e below (T5.setTop (mkF m 4 #[.val (.ref a1), .val (.int p2), .unset, .unset] [(.int (1 : Int32))])) _
    refine XS.tswIn X5.here hx rfl (pc0 := 4) (pc' := 57) rfl (hb hby d1_4) rfl (by decide) (o := 53) rfl (by decide) (by decide) ?_
    show Steps p.tables e below (T5.setTop (mkF m 57 #[.val (.ref a1), .val (.int p2), .unset, .unset] [])) _
    refine XS.iloadN X5.here hx rfl (hb hby d1_57) rfl ?_
    show Steps p.tables e below (T5.setTop (mkF m 58 #[.val (.ref a1), .val (.int p2), .unset, .unset] [(.int p2)])) _
    refine XS.sipush X5.here hx rfl (hb hby d1_58) ?_
    exact kt
  by_cases hc10 : p2 = (200 : Int32)
  · skip
    subst hc10
    obtain ⟨T13, X13, e13, st13⟩ := getS2 X5 hx hZ hown (host := "") (Or.inl (hw _ (gw 28 rfl))) Via.refl u8 (Sta.ext O0.2 S_12) (g := (mkF m 103 #[.val (.ref a1), .val (.int (200 : Int32)), .val (.int (1 : Int32)), .unset] [])) rfl (hb hby d1_103)
    obtain ⟨fs, hr, hrun, hended, hW, hsame⟩ := X13.leave (v := some (.ref a11)) (fun h => by rw [Bd.returns] at h; cases h)
    refine ⟨_, _, pre9 _ ?_, hrun, hended, _, _, rfl, ?_, ⟨_, rfl⟩, hW, hsame.mono (by decide) (by decide)⟩
    · show Steps p.tables e below (T5.setTop (mkF m 61 #[.val (.ref a1), .val (.int (200 : Int32)), .unset, .unset] [(.int (200 : Int32)), (.int (200 : Int32))])) _
      refine XS.icmpYes X5.here hx rfl (pc0 := 61) (pc' := 71) rfl (hb hby d1_61) rfl (teq (by decide +kernel : (200 : Int32) = (200 : Int32))).1 (by decide) (by decide) ?_
      show Steps p.tables e below (T5.setTop (mkF m 71 #[.val (.ref a1), .val (.int (200 : Int32)), .unset, .unset] [])) _
      refine XS.iconst X5.here hx rfl (hb hby d1_71) ?_
      show Steps p.tables e below (T5.setTop (mkF m 72 #[.val (.ref a1), .val (.int (200 : Int32)), .unset, .unset] [(.int (1 : Int32))])) _
      refine XS.goto X5.here hx rfl (pc0 := 72) (pc' := 98) rfl (hb hby d1_72) (by decide) (by decide) ?_
      show Steps p.tables e below (T5.setTop (mkF m 98 #[.val (.ref a1), .val (.int (200 : Int32)), .unset, .unset] [(.int (1 : Int32))])) _
      refine XS.istoreN X5.here hx rfl (hb hby d1_98) rfl (l' := #[.val (.ref a1), .val (.int (200 : Int32)), .val (.int (1 : Int32)), .unset]) rfl ?_
      show Steps p.tables e below (T5.setTop (mkF m 99 #[.val (.ref a1), .val (.int (200 : Int32)), .val (.int (1 : Int32)), .unset] [])) _
      refine XS.iloadN X5.here hx rfl (hb hby d1_99) rfl ?_
      show Steps p.tables e below (T5.setTop (mkF m 100 #[.val (.ref a1), .val (.int (200 : Int32)), .val (.int (1 : Int32)), .unset] [(.int (1 : Int32))])) _
      refine XS.ifNo X5.here hx rfl (hb hby d1_100) rfl ((if0 _ _).trans (feq (by decide +kernel : ¬ ((1 : Int32) = (0 : Int32)))).1) ?_
      show Steps p.tables e below (T5.setTop (mkF m 103 #[.val (.ref a1), .val (.int (200 : Int32)), .val (.int (1 : Int32)), .unset] [])) _
      refine st13 _ ?_
      show Steps p.tables e below (T13.setTop (mkF m 106 #[.val (.ref a1), .val (.int (200 : Int32)), .val (.int (1 : Int32)), .unset] [(.ref a11)])) _
      refine XS.astoreN X13.here hx rfl (hb hby d1_106) rfl rfl (l' := #[.val (.ref a1), .val (.int (200 : Int32)), .val (.int (1 : Int32)), .val (.ref a11)]) rfl ?_
      show Steps p.tables e below (T13.setTop (mkF m 107 #[.val (.ref a1), .val (.int (200 : Int32)), .val (.int (1 : Int32)), .val (.ref a11)] [])) _
      refine XS.goto X13.here hx rfl (pc0 := 107) (pc' := 135) rfl (hb hby d1_107) (by decide) (by decide) ?_
      show Steps p.tables e below (T13.setTop (mkF m 135 #[.val (.ref a1), .val (.int (200 : Int32)), .val (.int (1 : Int32)), .val (.ref a11)] [])) _
      refine XS.aloadN X13.here hx rfl (hb hby d1_135) rfl rfl ?_
      show Steps p.tables e below (T13.setTop (mkF m 136 #[.val (.ref a1), .val (.int (200 : Int32)), .val (.int (1 : Int32)), .val (.ref a11)] [(.ref a11)])) _
      jvm_step X13.here [X13.here.top, hx, (hb hby d1_136), X13.method', Bd.returns, Value.isRef, FieldType.isReference]
      first | (intro acts; rw [hr _ acts rfl rfl rfl]) | rw [hr _ _ rfl rfl rfl]
      exact Steps.refl _
    · show Q1_30 Z _ _ _ _ _ h0 n0 _ T13.heap _
      rw [e13]
      exact Or.inl (⟨rfl, rfl, N5, rfl⟩)
  · skip
    have pre14 : ∀ t, Steps p.tables e below (T5.setTop (mkF m 68 #[.val (.ref a1), .val (.int p2), .unset, .unset] [(.int (404 : Int32)), (.int p2)])) t → Steps p.tables e below (s₁.setTop (entryFrame m #[(.ref a1), (.int p2)] 4)) t := by
      intro t kt
      refine pre9 t ?_
      show Steps p.tables e below (T5.setTop (mkF m 61 #[.val (.ref a1), .val (.int p2), .unset, .unset] [(.int (200 : Int32)), (.int p2)])) _
      refine XS.icmpNo X5.here hx rfl (hb hby d1_61) rfl (feq hc10).1 ?_
      show Steps p.tables e below (T5.setTop (mkF m 64 #[.val (.ref a1), .val (.int p2), .unset, .unset] [])) _
      refine XS.iloadN X5.here hx rfl (hb hby d1_64) rfl ?_
      show Steps p.tables e below (T5.setTop (mkF m 65 #[.val (.ref a1), .val (.int p2), .unset, .unset] [(.int p2)])) _
      refine XS.sipush X5.here hx rfl (hb hby d1_65) ?_
      exact kt
    by_cases hc15 : p2 = (404 : Int32)
    · skip
      subst hc15
      obtain ⟨T16, X16, e16, st16⟩ := getS2 X5 hx hZ hown (host := "") (Or.inl (hw _ (gw 28 rfl))) Via.refl u8 (Sta.ext O0.2 S_12) (g := (mkF m 103 #[.val (.ref a1), .val (.int (404 : Int32)), .val (.int (1 : Int32)), .unset] [])) rfl (hb hby d1_103)
      obtain ⟨fs, hr, hrun, hended, hW, hsame⟩ := X16.leave (v := some (.ref a11)) (fun h => by rw [Bd.returns] at h; cases h)
      refine ⟨_, _, pre14 _ ?_, hrun, hended, _, _, rfl, ?_, ⟨_, rfl⟩, hW, hsame.mono (by decide) (by decide)⟩
      · show Steps p.tables e below (T5.setTop (mkF m 68 #[.val (.ref a1), .val (.int (404 : Int32)), .unset, .unset] [(.int (404 : Int32)), (.int (404 : Int32))])) _
        refine XS.icmpNo X5.here hx rfl (hb hby d1_68) rfl (teq (by decide +kernel : (404 : Int32) = (404 : Int32))).2 ?_
        show Steps p.tables e below (T5.setTop (mkF m 71 #[.val (.ref a1), .val (.int (404 : Int32)), .unset, .unset] [])) _
        refine XS.iconst X5.here hx rfl (hb hby d1_71) ?_
        show Steps p.tables e below (T5.setTop (mkF m 72 #[.val (.ref a1), .val (.int (404 : Int32)), .unset, .unset] [(.int (1 : Int32))])) _
        refine XS.goto X5.here hx rfl (pc0 := 72) (pc' := 98) rfl (hb hby d1_72) (by decide) (by decide) ?_
        show Steps p.tables e below (T5.setTop (mkF m 98 #[.val (.ref a1), .val (.int (404 : Int32)), .unset, .unset] [(.int (1 : Int32))])) _
        refine XS.istoreN X5.here hx rfl (hb hby d1_98) rfl (l' := #[.val (.ref a1), .val (.int (404 : Int32)), .val (.int (1 : Int32)), .unset]) rfl ?_
        show Steps p.tables e below (T5.setTop (mkF m 99 #[.val (.ref a1), .val (.int (404 : Int32)), .val (.int (1 : Int32)), .unset] [])) _
        refine XS.iloadN X5.here hx rfl (hb hby d1_99) rfl ?_
        show Steps p.tables e below (T5.setTop (mkF m 100 #[.val (.ref a1), .val (.int (404 : Int32)), .val (.int (1 : Int32)), .unset] [(.int (1 : Int32))])) _
        refine XS.ifNo X5.here hx rfl (hb hby d1_100) rfl ((if0 _ _).trans (feq (by decide +kernel : ¬ ((1 : Int32) = (0 : Int32)))).1) ?_
        show Steps p.tables e below (T5.setTop (mkF m 103 #[.val (.ref a1), .val (.int (404 : Int32)), .val (.int (1 : Int32)), .unset] [])) _
        refine st16 _ ?_
        show Steps p.tables e below (T16.setTop (mkF m 106 #[.val (.ref a1), .val (.int (404 : Int32)), .val (.int (1 : Int32)), .unset] [(.ref a11)])) _
        refine XS.astoreN X16.here hx rfl (hb hby d1_106) rfl rfl (l' := #[.val (.ref a1), .val (.int (404 : Int32)), .val (.int (1 : Int32)), .val (.ref a11)]) rfl ?_
        show Steps p.tables e below (T16.setTop (mkF m 107 #[.val (.ref a1), .val (.int (404 : Int32)), .val (.int (1 : Int32)), .val (.ref a11)] [])) _
        refine XS.goto X16.here hx rfl (pc0 := 107) (pc' := 135) rfl (hb hby d1_107) (by decide) (by decide) ?_
        show Steps p.tables e below (T16.setTop (mkF m 135 #[.val (.ref a1), .val (.int (404 : Int32)), .val (.int (1 : Int32)), .val (.ref a11)] [])) _
        refine XS.aloadN X16.here hx rfl (hb hby d1_135) rfl rfl ?_
        show Steps p.tables e below (T16.setTop (mkF m 136 #[.val (.ref a1), .val (.int (404 : Int32)), .val (.int (1 : Int32)), .val (.ref a11)] [(.ref a11)])) _
        jvm_step X16.here [X16.here.top, hx, (hb hby d1_136), X16.method', Bd.returns, Value.isRef, FieldType.isReference]
        first | (intro acts; rw [hr _ acts rfl rfl rfl]) | rw [hr _ _ rfl rfl rfl]
        exact Steps.refl _
      · show Q1_30 Z _ _ _ _ _ h0 n0 _ T16.heap _
        rw [e16]
        exact Or.inr (Or.inl (⟨rfl, hc10, rfl, N5, rfl⟩))
    · skip
      have pre17 : ∀ t, Steps p.tables e below (T5.setTop (mkF m 114 #[.val (.ref a1), .val (.int p2), .val (.int (0 : Int32)), .unset] [(.int (400 : Int32)), (.int p2)])) t → Steps p.tables e below (s₁.setTop (entryFrame m #[(.ref a1), (.int p2)] 4)) t := by
        intro t kt
        refine pre14 t ?_
        show Steps p.tables e below (T5.setTop (mkF m 68 #[.val (.ref a1), .val (.int p2), .unset, .unset] [(.int (404 : Int32)), (.int p2)])) _
        refine XS.icmpYes X5.here hx rfl (pc0 := 68) (pc' := 75) rfl (hb hby d1_68) rfl (feq hc15).2 (by decide) (by decide) ?_
        show Steps p.tables e below (T5.setTop (mkF m 75 #[.val (.ref a1), .val (.int p2), .unset, .unset] [])) _
        refine XS.iconst X5.here hx rfl (hb hby d1_75) ?_
        show Steps p.tables e below (T5.setTop (mkF m 76 #[.val (.ref a1), .val (.int p2), .unset, .unset] [(.int (0 : Int32))])) _
        refine XS.goto X5.here hx rfl (pc0 := 76) (pc' := 98) rfl (hb hby d1_76) (by decide) (by decide) ?_
        show Steps p.tables e below (T5.setTop (mkF m 98 #[.val (.ref a1), .val (.int p2), .unset, .unset] [(.int (0 : Int32))])) _
        refine XS.istoreN X5.here hx rfl (hb hby d1_98) rfl (l' := #[.val (.ref a1), .val (.int p2), .val (.int (0 : Int32)), .unset]) rfl ?_
        show Steps p.tables e below (T5.setTop (mkF m 99 #[.val (.ref a1), .val (.int p2), .val (.int (0 : Int32)), .unset] [])) _
        refine XS.iloadN X5.here hx rfl (hb hby d1_99) rfl ?_
        show Steps p.tables e below (T5.setTop (mkF m 100 #[.val (.ref a1), .val (.int p2), .val (.int (0 : Int32)), .unset] [(.int (0 : Int32))])) _
        refine XS.ifYes X5.here hx rfl (pc0 := 100) (pc' := 110) rfl (hb hby d1_100) rfl ((if0 _ _).trans (teq (by decide +kernel : (0 : Int32) = (0 : Int32))).1) (by decide) (by decide) ?_
        show Steps p.tables e below (T5.setTop (mkF m 110 #[.val (.ref a1), .val (.int p2), .val (.int (0 : Int32)), .unset] [])) _
        refine XS.iloadN X5.here hx rfl (hb hby d1_110) rfl ?_
        show Steps p.tables e below (T5.setTop (mkF m 111 #[.val (.ref a1), .val (.int p2), .val (.int (0 : Int32)), .unset] [(.int p2)])) _
        refine XS.sipush X5.here hx rfl (hb hby d1_111) ?_
        exact kt
      by_cases hc18 : p2 = (400 : Int32)
      · skip
        subst hc18
        obtain ⟨T21, X21, e21, st21⟩ := getS2 X5 hx hZ hown (host := "") (Or.inl (hw _ (gw 17 rfl))) Via.refl u8 (Sta.ext O0.2 S_20) (g := (mkF m 124 #[.val (.ref a1), .val (.int (400 : Int32)), .val (.int (0 : Int32)), .unset] [])) rfl (hb hby d1_124)
        obtain ⟨fs, hr, hrun, hended, hW, hsame⟩ := X21.leave (v := some (.ref a19)) (fun h => by rw [Bd.returns] at h; cases h)
        refine ⟨_, _, pre17 _ ?_, hrun, hended, _, _, rfl, ?_, ⟨_, rfl⟩, hW, hsame.mono (by decide) (by decide)⟩
        · show Steps p.tables e below (T5.setTop (mkF m 114 #[.val (.ref a1), .val (.int (400 : Int32)), .val (.int (0 : Int32)), .unset] [(.int (400 : Int32)), (.int (400 : Int32))])) _
          refine XS.icmpYes X5.here hx rfl (pc0 := 114) (pc' := 124) rfl (hb hby d1_114) rfl (teq (by decide +kernel : (400 : Int32) = (400 : Int32))).1 (by decide) (by decide) ?_
          show Steps p.tables e below (T5.setTop (mkF m 124 #[.val (.ref a1), .val (.int (400 : Int32)), .val (.int (0 : Int32)), .unset] [])) _
          refine st21 _ ?_
          show Steps p.tables e below (T21.setTop (mkF m 127 #[.val (.ref a1), .val (.int (400 : Int32)), .val (.int (0 : Int32)), .unset] [(.ref a19)])) _
          refine XS.astoreN X21.here hx rfl (hb hby d1_127) rfl rfl (l' := #[.val (.ref a1), .val (.int (400 : Int32)), .val (.int (0 : Int32)), .val (.ref a19)]) rfl ?_
          show Steps p.tables e below (T21.setTop (mkF m 128 #[.val (.ref a1), .val (.int (400 : Int32)), .val (.int (0 : Int32)), .val (.ref a19)] [])) _
          refine XS.goto X21.here hx rfl (pc0 := 128) (pc' := 135) rfl (hb hby d1_128) (by decide) (by decide) ?_
          show Steps p.tables e below (T21.setTop (mkF m 135 #[.val (.ref a1), .val (.int (400 : Int32)), .val (.int (0 : Int32)), .val (.ref a19)] [])) _
          refine XS.aloadN X21.here hx rfl (hb hby d1_135) rfl rfl ?_
          show Steps p.tables e below (T21.setTop (mkF m 136 #[.val (.ref a1), .val (.int (400 : Int32)), .val (.int (0 : Int32)), .val (.ref a19)] [(.ref a19)])) _
          jvm_step X21.here [X21.here.top, hx, (hb hby d1_136), X21.method', Bd.returns, Value.isRef, FieldType.isReference]
          first | (intro acts; rw [hr _ acts rfl rfl rfl]) | rw [hr _ _ rfl rfl rfl]
          exact Steps.refl _
        · show Q1_30 Z _ _ _ _ _ h0 n0 _ T21.heap _
          rw [e21]
          exact Or.inr (Or.inr (Or.inl (⟨rfl, hc10, hc15, rfl, N5, rfl⟩)))
      · skip
        have pre22 : ∀ t, Steps p.tables e below (T5.setTop (mkF m 121 #[.val (.ref a1), .val (.int p2), .val (.int (0 : Int32)), .unset] [(.int (413 : Int32)), (.int p2)])) t → Steps p.tables e below (s₁.setTop (entryFrame m #[(.ref a1), (.int p2)] 4)) t := by
          intro t kt
          refine pre17 t ?_
          show Steps p.tables e below (T5.setTop (mkF m 114 #[.val (.ref a1), .val (.int p2), .val (.int (0 : Int32)), .unset] [(.int (400 : Int32)), (.int p2)])) _
          refine XS.icmpNo X5.here hx rfl (hb hby d1_114) rfl (feq hc18).1 ?_
          show Steps p.tables e below (T5.setTop (mkF m 117 #[.val (.ref a1), .val (.int p2), .val (.int (0 : Int32)), .unset] [])) _
          refine XS.iloadN X5.here hx rfl (hb hby d1_117) rfl ?_
          show Steps p.tables e below (T5.setTop (mkF m 118 #[.val (.ref a1), .val (.int p2), .val (.int (0 : Int32)), .unset] [(.int p2)])) _
          refine XS.sipush X5.here hx rfl (hb hby d1_118) ?_
          exact kt
        by_cases hc23 : p2 = (413 : Int32)
        · skip
          subst hc23
          obtain ⟨T24, X24, e24, st24⟩ := getS2 X5 hx hZ hown (host := "") (Or.inl (hw _ (gw 17 rfl))) Via.refl u8 (Sta.ext O0.2 S_20) (g := (mkF m 124 #[.val (.ref a1), .val (.int (413 : Int32)), .val (.int (0 : Int32)), .unset] [])) rfl (hb hby d1_124)
          obtain ⟨fs, hr, hrun, hended, hW, hsame⟩ := X24.leave (v := some (.ref a19)) (fun h => by rw [Bd.returns] at h; cases h)
          refine ⟨_, _, pre22 _ ?_, hrun, hended, _, _, rfl, ?_, ⟨_, rfl⟩, hW, hsame.mono (by decide) (by decide)⟩
          · show Steps p.tables e below (T5.setTop (mkF m 121 #[.val (.ref a1), .val (.int (413 : Int32)), .val (.int (0 : Int32)), .unset] [(.int (413 : Int32)), (.int (413 : Int32))])) _
            refine XS.icmpNo X5.here hx rfl (hb hby d1_121) rfl (teq (by decide +kernel : (413 : Int32) = (413 : Int32))).2 ?_
            show Steps p.tables e below (T5.setTop (mkF m 124 #[.val (.ref a1), .val (.int (413 : Int32)), .val (.int (0 : Int32)), .unset] [])) _
            refine st24 _ ?_
            show Steps p.tables e below (T24.setTop (mkF m 127 #[.val (.ref a1), .val (.int (413 : Int32)), .val (.int (0 : Int32)), .unset] [(.ref a19)])) _
            refine XS.astoreN X24.here hx rfl (hb hby d1_127) rfl rfl (l' := #[.val (.ref a1), .val (.int (413 : Int32)), .val (.int (0 : Int32)), .val (.ref a19)]) rfl ?_
            show Steps p.tables e below (T24.setTop (mkF m 128 #[.val (.ref a1), .val (.int (413 : Int32)), .val (.int (0 : Int32)), .val (.ref a19)] [])) _
            refine XS.goto X24.here hx rfl (pc0 := 128) (pc' := 135) rfl (hb hby d1_128) (by decide) (by decide) ?_
            show Steps p.tables e below (T24.setTop (mkF m 135 #[.val (.ref a1), .val (.int (413 : Int32)), .val (.int (0 : Int32)), .val (.ref a19)] [])) _
            refine XS.aloadN X24.here hx rfl (hb hby d1_135) rfl rfl ?_
            show Steps p.tables e below (T24.setTop (mkF m 136 #[.val (.ref a1), .val (.int (413 : Int32)), .val (.int (0 : Int32)), .val (.ref a19)] [(.ref a19)])) _
            jvm_step X24.here [X24.here.top, hx, (hb hby d1_136), X24.method', Bd.returns, Value.isRef, FieldType.isReference]
            first | (intro acts; rw [hr _ acts rfl rfl rfl]) | rw [hr _ _ rfl rfl rfl]
            exact Steps.refl _
          · show Q1_30 Z _ _ _ _ _ h0 n0 _ T24.heap _
            rw [e24]
            exact Or.inr (Or.inr (Or.inr (Or.inl (⟨rfl, hc10, hc15, hc18, rfl, N5, rfl⟩))))
        · skip
          obtain ⟨T27, X27, e27, st27⟩ := getS2 X5 hx hZ hown (host := "") (Or.inl (hw _ (gw 31 rfl))) Via.refl u8 (Sta.ext O0.2 S_26) (g := (mkF m 131 #[.val (.ref a1), .val (.int p2), .val (.int (0 : Int32)), .unset] [])) rfl (hb hby d1_131)
          obtain ⟨fs, hr, hrun, hended, hW, hsame⟩ := X27.leave (v := some (.ref a25)) (fun h => by rw [Bd.returns] at h; cases h)
          refine ⟨_, _, pre22 _ ?_, hrun, hended, _, _, rfl, ?_, ⟨_, rfl⟩, hW, hsame.mono (by decide) (by decide)⟩
          · show Steps p.tables e below (T5.setTop (mkF m 121 #[.val (.ref a1), .val (.int p2), .val (.int (0 : Int32)), .unset] [(.int (413 : Int32)), (.int p2)])) _
            refine XS.icmpYes X5.here hx rfl (pc0 := 121) (pc' := 131) rfl (hb hby d1_121) rfl (feq hc23).2 (by decide) (by decide) ?_
            show Steps p.tables e below (T5.setTop (mkF m 131 #[.val (.ref a1), .val (.int p2), .val (.int (0 : Int32)), .unset] [])) _
            refine st27 _ ?_
            show Steps p.tables e below (T27.setTop (mkF m 134 #[.val (.ref a1), .val (.int p2), .val (.int (0 : Int32)), .unset] [(.ref a25)])) _
            refine XS.astoreN X27.here hx rfl (hb hby d1_134) rfl rfl (l' := #[.val (.ref a1), .val (.int p2), .val (.int (0 : Int32)), .val (.ref a25)]) rfl ?_
            show Steps p.tables e below (T27.setTop (mkF m 135 #[.val (.ref a1), .val (.int p2), .val (.int (0 : Int32)), .val (.ref a25)] [])) _
            refine XS.aloadN X27.here hx rfl (hb hby d1_135) rfl rfl ?_
            show Steps p.tables e below (T27.setTop (mkF m 136 #[.val (.ref a1), .val (.int p2), .val (.int (0 : Int32)), .val (.ref a25)] [(.ref a25)])) _
            jvm_step X27.here [X27.here.top, hx, (hb hby d1_136), X27.method', Bd.returns, Value.isRef, FieldType.isReference]
            first | (intro acts; rw [hr _ acts rfl rfl rfl]) | rw [hr _ _ rfl rfl rfl]
            exact Steps.refl _
          · show Q1_30 Z _ _ _ _ _ h0 n0 _ T27.heap _
            rw [e27]
            exact Or.inr (Or.inr (Or.inr (Or.inr (⟨hc10, hc15, hc18, hc23, rfl, N5, rfl⟩))))
theorem ef_rm3_31 (m : MethodId) (x1 : Int32) : entryFrame m #[(.int (1 : Int32)), (.int x1)] 2 = mkF m 0 #[.val (.int (1 : Int32)), .val (.int x1)] [] := by first | (simp [entryFrame, mkF, argsToLocals, Value.category]; done) | rfl
def Q3_31 (Z : State) (p1 : Int32) (a4 : Addr) (h0 : Heap) (n0 : Nat) (v : Option Value) (h : Heap) (L : List Loc) : Prop := (p1 = (204 : Int32) ∧ v = some (.ref a4) ∧ Fr n0 L ∧ h = h0) ∨ (¬ (p1 = (204 : Int32)) ∧ v = some (.ref a4) ∧ Fr n0 L ∧ h = h0)
set_option maxRecDepth 65536 in
set_option maxHeartbeats 40000000 in
theorem rm3_31 (l : Launch) (Z : State) (a0 : Array Value) (hw : ∀ d ∈ own_ws, d.before a0 Z = true) (ws : List Jvm.Cond) (p1 : Int32) (a4 : Addr) (h0 : Heap) (n0 : Nat) (O0 : Old Z n0 h0) (S_5 : Sta Z Z.heap "com/example/ringstead/ringstead/node/History$Type" "INFO" "Lcom/example/ringstead/ringstead/node/History$Type;" (.ref a4)) (hk7 : ¬ (p1 = (200 : Int32))) (hk8 : ¬ (p1 = (404 : Int32))) (hk9 : ¬ (p1 = (400 : Int32))) (hk10 : ¬ (p1 = (413 : Int32))) :
    MetFree l M_3 (head1 (Jvm.Cond.code M_3 method_2_code 2 (some (.object "com/example/ringstead/ringstead/node/History$Type")) :: ws) ({ frames := 0, cells := 0, slots := 0, locals := 0 } : Room)) (fun a U => a = #[(.int (1 : Int32)), (.int p1)] ∧ Z.Warmed39 U.vm ∧ U.heap = h0) (fun _ _ _ _ _ => True) (fun _ U o U' => ∃ v L, o = .returned v ∧ Q3_31 Z p1 a4 h0 n0 v U'.heap L ∧ FrameEnd U o U' L ({ frames := 0, cells := 0, slots := 0, locals := 0 } : Room).cells ({ frames := 0, cells := 0, slots := 0, locals := 0 } : Room).slots) := by
  refine MetFree.of_bodySF (plainFor_of_name pn_2) hisR ?_
  intro p e s m args below meth c s₁ Bd hml0 hP hK
  obtain ⟨rfl, hZ, hh⟩ := hP
  have hx := Bd.exec
  have hby := Bd.bytes
  have hml : c.maxLocals = 2 := hml0
  have hown : s.vm.findClass "com/example/ringstead/ringstead/node/TypeOfPinLaw" = some m.cls := findClass_of_methodNamed Bd.named
  have hnm := (name_of_methodNamed Bd.named Bd.method).1
  have X0 : Stand p l e ({ frames := 0, cells := 0, slots := 0, locals := 0 } : Room) s m #[(.int (1 : Int32)), (.int p1)] below meth c s₁ [] 0 0 := Stand.of_body Bd
  have e0 : s₁.heap = h0 := by rw [← hh, Bd.state]; rfl
  have N0 := Fr.nil n0
  have pre0 : ∀ t, Steps p.tables e below (s₁.setTop (mkF m 0 #[.val (.int (1 : Int32)), .val (.int p1)] [])) t → Steps p.tables e below (s₁.setTop (entryFrame m #[(.int (1 : Int32)), (.int p1)] 2)) t := fun t k => castTop (ef_rm3_31 m p1) k
  have pre2 : ∀ t, Steps p.tables e below (s₁.setTop (mkF m 4 #[.val (.int (1 : Int32)), .val (.int p1)] [(.int (204 : Int32)), (.int p1)])) t → Steps p.tables e below (s₁.setTop (entryFrame m #[(.int (1 : Int32)), (.int p1)] 2)) t := by
    intro t kt
    refine pre0 t ?_
    show Steps p.tables e below (s₁.setTop (mkF m 0 #[.val (.int (1 : Int32)), .val (.int p1)] [])) _
    refine XS.iloadN X0.here hx rfl (hb hby d3_0) rfl ?_
    show Steps p.tables e below (s₁.setTop (mkF m 1 #[.val (.int (1 : Int32)), .val (.int p1)] [(.int p1)])) _
    refine XS.sipush X0.here hx rfl (hb hby d3_1) ?_
    exact kt
  by_cases hc3 : p1 = (204 : Int32)
  · skip
    subst hc3
    obtain ⟨T6, X6, e6, st6⟩ := getS2 X0 hx hZ hown (host := "") (Or.inl (hw _ (gw 33 rfl))) Via.refl e0 (Sta.ext O0.2 S_5) (g := (mkF m 12 #[.val (.int (1 : Int32)), .val (.int (204 : Int32))] [])) rfl (hb hby d3_12)
    obtain ⟨fs, hr, hrun, hended, hW, hsame⟩ := X6.leave (v := some (.ref a4)) (fun h => by rw [Bd.returns] at h; cases h)
    refine ⟨_, _, pre2 _ ?_, hrun, hended, _, _, rfl, ?_, ⟨_, rfl⟩, hW, hsame.mono (by decide) (by decide)⟩
    · show Steps p.tables e below (s₁.setTop (mkF m 4 #[.val (.int (1 : Int32)), .val (.int (204 : Int32))] [(.int (204 : Int32)), (.int (204 : Int32))])) _
      refine XS.icmpNo X0.here hx rfl (hb hby d3_4) rfl (teq (by decide +kernel : (204 : Int32) = (204 : Int32))).2 ?_
      show Steps p.tables e below (s₁.setTop (mkF m 7 #[.val (.int (1 : Int32)), .val (.int (204 : Int32))] [])) _
      refine XS.iloadN X0.here hx rfl (hb hby d3_7) rfl ?_
      show Steps p.tables e below (s₁.setTop (mkF m 8 #[.val (.int (1 : Int32)), .val (.int (204 : Int32))] [(.int (1 : Int32))])) _
      refine XS.iconst X0.here hx rfl (hb hby d3_8) ?_
      show Steps p.tables e below (s₁.setTop (mkF m 9 #[.val (.int (1 : Int32)), .val (.int (204 : Int32))] [(.int (1 : Int32)), (.int (1 : Int32))])) _
      refine XS.icmpNo X0.here hx rfl (hb hby d3_9) rfl (teq (by decide +kernel : (1 : Int32) = (1 : Int32))).2 ?_
      show Steps p.tables e below (s₁.setTop (mkF m 12 #[.val (.int (1 : Int32)), .val (.int (204 : Int32))] [])) _
      refine st6 _ ?_
      show Steps p.tables e below (T6.setTop (mkF m 15 #[.val (.int (1 : Int32)), .val (.int (204 : Int32))] [(.ref a4)])) _
      refine XS.goto X6.here hx rfl (pc0 := 15) (pc' := 21) rfl (hb hby d3_15) (by decide) (by decide) ?_
      show Steps p.tables e below (T6.setTop (mkF m 21 #[.val (.int (1 : Int32)), .val (.int (204 : Int32))] [(.ref a4)])) _
      jvm_step X6.here [X6.here.top, hx, (hb hby d3_21), X6.method', Bd.returns, Value.isRef, FieldType.isReference]
      first | (intro acts; rw [hr _ acts rfl rfl rfl]) | rw [hr _ _ rfl rfl rfl]
      exact Steps.refl _
    · show Q3_31 Z _ _ h0 n0 _ T6.heap _
      rw [e6]
      exact Or.inl (⟨rfl, rfl, N0, rfl⟩)
  · skip
    obtain ⟨T11, X11, e11, st11⟩ := getS2 X0 hx hZ hown (host := "") (Or.inl (hw _ (gw 33 rfl))) Via.refl e0 (Sta.ext O0.2 S_5) (g := (mkF m 83 #[.val (.int (1 : Int32)), .val (.int p1)] [])) rfl (hb hby d3_83)
    obtain ⟨fs, hr, hrun, hended, hW, hsame⟩ := X11.leave (v := some (.ref a4)) (fun h => by rw [Bd.returns] at h; cases h)
    refine ⟨_, _, pre2 _ ?_, hrun, hended, _, _, rfl, ?_, ⟨_, rfl⟩, hW, hsame.mono (by decide) (by decide)⟩
    · show Steps p.tables e below (s₁.setTop (mkF m 4 #[.val (.int (1 : Int32)), .val (.int p1)] [(.int (204 : Int32)), (.int p1)])) _
      refine XS.icmpYes X0.here hx rfl (pc0 := 4) (pc' := 22) rfl (hb hby d3_4) rfl (feq hc3).2 (by decide) (by decide) ?_
      show Steps p.tables e below (s₁.setTop (mkF m 22 #[.val (.int (1 : Int32)), .val (.int p1)] [])) _
      refine XS.iloadN X0.here hx rfl (hb hby d3_22) rfl ?_
      show Steps p.tables e below (s₁.setTop (mkF m 23 #[.val (.int (1 : Int32)), .val (.int p1)] [(.int p1)])) _
      refine XS.sipush X0.here hx rfl (hb hby d3_23) ?_
      show Steps p.tables e below (s₁.setTop (mkF m 26 #[.val (.int (1 : Int32)), .val (.int p1)] [(.int (200 : Int32)), (.int p1)])) _
      refine XS.icmpYes X0.here hx rfl (pc0 := 26) (pc' := 44) rfl (hb hby d3_26) rfl (feq hk7).2 (by decide) (by decide) ?_
      show Steps p.tables e below (s₁.setTop (mkF m 44 #[.val (.int (1 : Int32)), .val (.int p1)] [])) _
      refine XS.iloadN X0.here hx rfl (hb hby d3_44) rfl ?_
      show Steps p.tables e below (s₁.setTop (mkF m 45 #[.val (.int (1 : Int32)), .val (.int p1)] [(.int p1)])) _
      refine XS.sipush X0.here hx rfl (hb hby d3_45) ?_
      show Steps p.tables e below (s₁.setTop (mkF m 48 #[.val (.int (1 : Int32)), .val (.int p1)] [(.int (404 : Int32)), (.int p1)])) _
      refine XS.icmpYes X0.here hx rfl (pc0 := 48) (pc' := 65) rfl (hb hby d3_48) rfl (feq hk8).2 (by decide) (by decide) ?_
      show Steps p.tables e below (s₁.setTop (mkF m 65 #[.val (.int (1 : Int32)), .val (.int p1)] [])) _
      refine XS.iloadN X0.here hx rfl (hb hby d3_65) rfl ?_
      show Steps p.tables e below (s₁.setTop (mkF m 66 #[.val (.int (1 : Int32)), .val (.int p1)] [(.int p1)])) _
      refine XS.sipush X0.here hx rfl (hb hby d3_66) ?_
      show Steps p.tables e below (s₁.setTop (mkF m 69 #[.val (.int (1 : Int32)), .val (.int p1)] [(.int (400 : Int32)), (.int p1)])) _
      refine XS.icmpNo X0.here hx rfl (hb hby d3_69) rfl (feq hk9).1 ?_
      show Steps p.tables e below (s₁.setTop (mkF m 72 #[.val (.int (1 : Int32)), .val (.int p1)] [])) _
      refine XS.iloadN X0.here hx rfl (hb hby d3_72) rfl ?_
      show Steps p.tables e below (s₁.setTop (mkF m 73 #[.val (.int (1 : Int32)), .val (.int p1)] [(.int p1)])) _
      refine XS.sipush X0.here hx rfl (hb hby d3_73) ?_
      show Steps p.tables e below (s₁.setTop (mkF m 76 #[.val (.int (1 : Int32)), .val (.int p1)] [(.int (413 : Int32)), (.int p1)])) _
      refine XS.icmpYes X0.here hx rfl (pc0 := 76) (pc' := 83) rfl (hb hby d3_76) rfl (feq hk10).2 (by decide) (by decide) ?_
      show Steps p.tables e below (s₁.setTop (mkF m 83 #[.val (.int (1 : Int32)), .val (.int p1)] [])) _
      refine st11 _ ?_
      show Steps p.tables e below (T11.setTop (mkF m 86 #[.val (.int (1 : Int32)), .val (.int p1)] [(.ref a4)])) _
      jvm_step X11.here [X11.here.top, hx, (hb hby d3_86), X11.method', Bd.returns, Value.isRef, FieldType.isReference]
      first | (intro acts; rw [hr _ acts rfl rfl rfl]) | rw [hr _ _ rfl rfl rfl]
      exact Steps.refl _
    · show Q3_31 Z _ _ h0 n0 _ T11.heap _
      rw [e11]
      exact Or.inr (⟨hc3, rfl, N0, rfl⟩)
theorem ef_rm2_33 (m : MethodId) (x0 : Addr) : entryFrame m #[(.ref x0)] 1 = mkF m 0 #[.val (.ref x0)] [] := by first | (simp [entryFrame, mkF, argsToLocals, Value.category]; done) | rfl
def Q2_33 (Z : State) (a1 : Addr) (h0 : Heap) (n0 : Nat) (v : Option Value) (h : Heap) (L : List Loc) : Prop := (v = some (.int (2 : Int32)) ∧ Fr n0 L ∧ h = h0)
set_option maxRecDepth 65536 in
set_option maxHeartbeats 40000000 in
theorem rm2_33 (l : Launch) (Z : State) (a0 : Array Value) (hw : ∀ d ∈ own_ws, d.before a0 Z = true) (ws : List Jvm.Cond) (a1 : Addr) (h0 : Heap) (n0 : Nat) (O0 : Old Z n0 h0) (F2 : Fld Z Z.heap a1 "java/lang/Enum" "ordinal" "I" (.int (2 : Int32))) :
    MetFree l M_0 (head1 (Jvm.Cond.code M_0 jdk_37_method_2_code 1 (some .int) :: ws) ({ frames := 0, cells := 0, slots := 0, locals := 0 } : Room)) (fun a U => a = #[(.ref a1)] ∧ Z.Warmed39 U.vm ∧ U.heap = h0) (fun _ _ _ _ _ => True) (fun _ U o U' => ∃ v L, o = .returned v ∧ Q2_33 Z a1 h0 n0 v U'.heap L ∧ FrameEnd U o U' L ({ frames := 0, cells := 0, slots := 0, locals := 0 } : Room).cells ({ frames := 0, cells := 0, slots := 0, locals := 0 } : Room).slots) := by
  refine MetFree.of_bodySF (plainFor_of_name pn_0) hisR ?_
  intro p e s m args below meth c s₁ Bd hml0 hP hK
  obtain ⟨rfl, hZ, hh⟩ := hP
  have hx := Bd.exec
  have hby := Bd.bytes
  have hml : c.maxLocals = 1 := hml0
  have hown : s.vm.findClass "java/lang/Enum" = some m.cls := findClass_of_methodNamed Bd.named
  have hnm := (name_of_methodNamed Bd.named Bd.method).1
  have X0 : Stand p l e ({ frames := 0, cells := 0, slots := 0, locals := 0 } : Room) s m #[(.ref a1)] below meth c s₁ [] 0 0 := Stand.of_body Bd
  have e0 : s₁.heap = h0 := by rw [← hh, Bd.state]; rfl
  have N0 := Fr.nil n0
  have pre0 : ∀ t, Steps p.tables e below (s₁.setTop (mkF m 0 #[.val (.ref a1)] [])) t → Steps p.tables e below (s₁.setTop (entryFrame m #[(.ref a1)] 1)) t := fun t k => castTop (ef_rm2_33 m a1) k
  obtain ⟨T3, X3, e3, st3⟩ := getF X0 hx hZ hown (host := "") (Or.inl (hw _ (gw 15 rfl))) Via.refl e0 (Fld.ext O0.2 F2) (g := (mkF m 1 #[.val (.ref a1)] [(.ref a1)])) rfl rfl (hb hby d2_1)
  obtain ⟨fs, hr, hrun, hended, hW, hsame⟩ := X3.leave (v := some (.int (2 : Int32))) (fun h => by rw [Bd.returns] at h; cases h)
  refine ⟨_, _, pre0 _ ?_, hrun, hended, _, _, rfl, ?_, ⟨_, rfl⟩, hW, hsame.mono (by decide) (by decide)⟩
  · show Steps p.tables e below (s₁.setTop (mkF m 0 #[.val (.ref a1)] [])) _
    refine XS.aloadN X0.here hx rfl (hb hby d2_0) rfl rfl ?_
    show Steps p.tables e below (s₁.setTop (mkF m 1 #[.val (.ref a1)] [(.ref a1)])) _
    refine st3 _ ?_
    show Steps p.tables e below (T3.setTop (mkF m 4 #[.val (.ref a1)] [(.int (2 : Int32))])) _
    exact retI X3 hx Bd.returns (hb hby d2_4) hr
  · show Q2_33 Z _ h0 n0 _ T3.heap _
    rw [e3]
    exact ⟨rfl, N0, rfl⟩
theorem ef_rm1_32 (m : MethodId) (x0 : Addr) : entryFrame m #[(.ref x0), (.int (200 : Int32))] 4 = mkF m 0 #[.val (.ref x0), .val (.int (200 : Int32)), .unset, .unset] [] := by first | (simp [entryFrame, mkF, argsToLocals, Value.category]; done) | rfl
def Q1_32 (Z : State) (a1 : Addr) (a8 : Addr) (h0 : Heap) (n0 : Nat) (v : Option Value) (h : Heap) (L : List Loc) : Prop := (v = some (.ref a8) ∧ Fr n0 L ∧ h = h0)
set_option maxRecDepth 65536 in
set_option maxHeartbeats 40000000 in
theorem rm1_32 (l : Launch) (Z : State) (a0 : Array Value) (hw : ∀ d ∈ own_ws, d.before a0 Z = true) (ws : List Jvm.Cond) (a1 : Addr) (a8 : Addr) (h0 : Heap) (n0 : Nat) (O0 : Old Z n0 h0) (E_2 : Exa Z Z.heap a1 "com/example/ringstead/ringstead/node/History$Operation") (F3 : Fld Z Z.heap a1 "java/lang/Enum" "ordinal" "I" (.int (2 : Int32))) (S_9 : Sta Z Z.heap "com/example/ringstead/ringstead/node/History$Type" "INFO" "Lcom/example/ringstead/ringstead/node/History$Type;" (.ref a8)) :
    MetFree l M_2 (head1 (Jvm.Cond.code M_2 prog_19_method_5_code 4 (some (.object "com/example/ringstead/ringstead/node/History$Type")) :: ws) ({ frames := 1, cells := 0, slots := 0, locals := 12 } : Room)) (fun a U => a = #[(.ref a1), (.int (200 : Int32))] ∧ Z.Warmed39 U.vm ∧ U.heap = h0) (fun _ _ _ _ _ => True) (fun _ U o U' => ∃ v L, o = .returned v ∧ Q1_32 Z a1 a8 h0 n0 v U'.heap L ∧ FrameEnd U o U' L ({ frames := 1, cells := 0, slots := 0, locals := 12 } : Room).cells ({ frames := 1, cells := 0, slots := 0, locals := 12 } : Room).slots) := by
  refine MetFree.of_bodySF (plainFor_of_name pn_1) hisR ?_
  intro p e s m args below meth c s₁ Bd hml0 hP hK
  obtain ⟨rfl, hZ, hh⟩ := hP
  have hx := Bd.exec
  have hby := Bd.bytes
  have hml : c.maxLocals = 4 := hml0
  have hown : s.vm.findClass "com/example/ringstead/ringstead/node/History$Type" = some m.cls := findClass_of_methodNamed Bd.named
  have hnm := (name_of_methodNamed Bd.named Bd.method).1
  have X0 : Stand p l e ({ frames := 1, cells := 0, slots := 0, locals := 12 } : Room) s m #[(.ref a1), (.int (200 : Int32))] below meth c s₁ [] 0 0 := Stand.of_body Bd
  have e0 : s₁.heap = h0 := by rw [← hh, Bd.state]; rfl
  have N0 := Fr.nil n0
  have pre0 : ∀ t, Steps p.tables e below (s₁.setTop (mkF m 0 #[.val (.ref a1), .val (.int (200 : Int32)), .unset, .unset] [])) t → Steps p.tables e below (s₁.setTop (entryFrame m #[(.ref a1), (.int (200 : Int32))] 4)) t := fun t k => castTop (ef_rm1_32 m a1) k
  obtain ⟨cq4, kq4, q4a, q4b, q4c⟩ := isOf hZ e0 (Exa.ext O0.2 E_2)
  obtain ⟨_, _, ⟨T4, L4, k4, n4⟩, -, X4, ⟨Lc4, hQ4, l4, y4, z4⟩, st4⟩ := X0.virtualBackUp hx (owner := "java/lang/Enum") (x := M_1) (y := M_0) hown (mvT hZ (hw _ (gw 8 rfl))) (mvT hZ (hw _ (gw 9 rfl))) (mvT hZ (hw _ (gw 10 rfl))) (by decide) (mvT hZ (hw _ (gw 12 rfl))) (mvT hZ (hw _ (gw 11 rfl))) (backOf (W := 0) (rm2_33 l Z a0 hw [] a1 h0 n0  O0 F3) hZ (hw _ (gw 14 rfl)) (hw _ (gw 13 rfl)) (by decide) (by decide)) q4a q4c (g := (mkF m 1 #[.val (.ref a1), .val (.int (200 : Int32)), .unset, .unset] [(.ref a1)])) rfl (by rw [hml]; rfl) (Steps.refl _) (argsL := []) (rest := []) (lenOf pd_0 rfl) rfl (by show 2 * 0 + _ ≤ _; exact Nat.le_of_eq rfl) (hb hby d1_1) (fun _ _ => ⟨rfl, e0, (by decide : 0 + 0 ≤ _), (by decide : 0 + 0 ≤ _)⟩)
  dsimp only [Pt.U, Pt.locs, Pt.cells, Pt.slots] at X4 l4 y4 z4 st4 hQ4
  subst l4 y4 z4
  obtain ⟨rfl, u6, u7⟩ := hQ4
  have N4 := Fr.app N0 u6
  obtain ⟨T10, X10, e10, st10⟩ := getS2 X4 hx hZ hown (host := "") (Or.inl (hw _ (gw 31 rfl))) Via.refl u7 (Sta.ext O0.2 S_9) (g := (mkF m 131 #[.val (.ref a1), .val (.int (200 : Int32)), .val (.int (0 : Int32)), .unset] [])) rfl (hb hby d1_131)
  obtain ⟨fs, hr, hrun, hended, hW, hsame⟩ := X10.leave (v := some (.ref a8)) (fun h => by rw [Bd.returns] at h; cases h)
  refine ⟨_, _, pre0 _ ?_, hrun, hended, _, _, rfl, ?_, ⟨_, rfl⟩, hW, hsame.mono (by decide) (by decide)⟩
  · show Steps p.tables e below (s₁.setTop (mkF m 0 #[.val (.ref a1), .val (.int (200 : Int32)), .unset, .unset] [])) _
    refine XS.aloadN X0.here hx rfl (hb hby d1_0) rfl rfl ?_
    show Steps p.tables e below (s₁.setTop (mkF m 1 #[.val (.ref a1), .val (.int (200 : Int32)), .unset, .unset] [(.ref a1)])) _
    refine st4.trans ?_
    show Steps p.tables e below (T4.setTop (mkF m 4 #[.val (.ref a1), .val (.int (200 : Int32)), .unset, .unset] [(.int (2 : Int32))])) _
    refine XS.tswIn X4.here hx rfl (pc0 := 4) (pc' := 79) rfl (hb hby d1_4) rfl (by decide) (o := 75) rfl (by decide) (by decide) ?_
    show Steps p.tables e below (T4.setTop (mkF m 79 #[.val (.ref a1), .val (.int (200 : Int32)), .unset, .unset] [])) _
    refine XS.iloadN X4.here hx rfl (hb hby d1_79) rfl ?_
    show Steps p.tables e below (T4.setTop (mkF m 80 #[.val (.ref a1), .val (.int (200 : Int32)), .unset, .unset] [(.int (200 : Int32))])) _
    refine XS.sipush X4.here hx rfl (hb hby d1_80) ?_
    show Steps p.tables e below (T4.setTop (mkF m 83 #[.val (.ref a1), .val (.int (200 : Int32)), .unset, .unset] [(.int (204 : Int32)), (.int (200 : Int32))])) _
    refine XS.icmpNo X4.here hx rfl (hb hby d1_83) rfl (feq (by decide +kernel : ¬ ((200 : Int32) = (204 : Int32)))).1 ?_
    show Steps p.tables e below (T4.setTop (mkF m 86 #[.val (.ref a1), .val (.int (200 : Int32)), .unset, .unset] [])) _
    refine XS.iloadN X4.here hx rfl (hb hby d1_86) rfl ?_
    show Steps p.tables e below (T4.setTop (mkF m 87 #[.val (.ref a1), .val (.int (200 : Int32)), .unset, .unset] [(.int (200 : Int32))])) _
    refine XS.sipush X4.here hx rfl (hb hby d1_87) ?_
    show Steps p.tables e below (T4.setTop (mkF m 90 #[.val (.ref a1), .val (.int (200 : Int32)), .unset, .unset] [(.int (404 : Int32)), (.int (200 : Int32))])) _
    refine XS.icmpYes X4.here hx rfl (pc0 := 90) (pc' := 97) rfl (hb hby d1_90) rfl (feq (by decide +kernel : ¬ ((200 : Int32) = (404 : Int32)))).2 (by decide) (by decide) ?_
    show Steps p.tables e below (T4.setTop (mkF m 97 #[.val (.ref a1), .val (.int (200 : Int32)), .unset, .unset] [])) _
    refine XS.iconst X4.here hx rfl (hb hby d1_97) ?_
    show Steps p.tables e below (T4.setTop (mkF m 98 #[.val (.ref a1), .val (.int (200 : Int32)), .unset, .unset] [(.int (0 : Int32))])) _
    refine XS.istoreN X4.here hx rfl (hb hby d1_98) rfl (l' := #[.val (.ref a1), .val (.int (200 : Int32)), .val (.int (0 : Int32)), .unset]) rfl ?_
    show Steps p.tables e below (T4.setTop (mkF m 99 #[.val (.ref a1), .val (.int (200 : Int32)), .val (.int (0 : Int32)), .unset] [])) _
    refine XS.iloadN X4.here hx rfl (hb hby d1_99) rfl ?_
    show Steps p.tables e below (T4.setTop (mkF m 100 #[.val (.ref a1), .val (.int (200 : Int32)), .val (.int (0 : Int32)), .unset] [(.int (0 : Int32))])) _
    refine XS.ifYes X4.here hx rfl (pc0 := 100) (pc' := 110) rfl (hb hby d1_100) rfl ((if0 _ _).trans (teq (by decide +kernel : (0 : Int32) = (0 : Int32))).1) (by decide) (by decide) ?_
    show Steps p.tables e below (T4.setTop (mkF m 110 #[.val (.ref a1), .val (.int (200 : Int32)), .val (.int (0 : Int32)), .unset] [])) _
    refine XS.iloadN X4.here hx rfl (hb hby d1_110) rfl ?_
    show Steps p.tables e below (T4.setTop (mkF m 111 #[.val (.ref a1), .val (.int (200 : Int32)), .val (.int (0 : Int32)), .unset] [(.int (200 : Int32))])) _
    refine XS.sipush X4.here hx rfl (hb hby d1_111) ?_
    show Steps p.tables e below (T4.setTop (mkF m 114 #[.val (.ref a1), .val (.int (200 : Int32)), .val (.int (0 : Int32)), .unset] [(.int (400 : Int32)), (.int (200 : Int32))])) _
    refine XS.icmpNo X4.here hx rfl (hb hby d1_114) rfl (feq (by decide +kernel : ¬ ((200 : Int32) = (400 : Int32)))).1 ?_
    show Steps p.tables e below (T4.setTop (mkF m 117 #[.val (.ref a1), .val (.int (200 : Int32)), .val (.int (0 : Int32)), .unset] [])) _
    refine XS.iloadN X4.here hx rfl (hb hby d1_117) rfl ?_
    show Steps p.tables e below (T4.setTop (mkF m 118 #[.val (.ref a1), .val (.int (200 : Int32)), .val (.int (0 : Int32)), .unset] [(.int (200 : Int32))])) _
    refine XS.sipush X4.here hx rfl (hb hby d1_118) ?_
    show Steps p.tables e below (T4.setTop (mkF m 121 #[.val (.ref a1), .val (.int (200 : Int32)), .val (.int (0 : Int32)), .unset] [(.int (413 : Int32)), (.int (200 : Int32))])) _
    refine XS.icmpYes X4.here hx rfl (pc0 := 121) (pc' := 131) rfl (hb hby d1_121) rfl (feq (by decide +kernel : ¬ ((200 : Int32) = (413 : Int32)))).2 (by decide) (by decide) ?_
    show Steps p.tables e below (T4.setTop (mkF m 131 #[.val (.ref a1), .val (.int (200 : Int32)), .val (.int (0 : Int32)), .unset] [])) _
    refine st10 _ ?_
    show Steps p.tables e below (T10.setTop (mkF m 134 #[.val (.ref a1), .val (.int (200 : Int32)), .val (.int (0 : Int32)), .unset] [(.ref a8)])) _
    refine XS.astoreN X10.here hx rfl (hb hby d1_134) rfl rfl (l' := #[.val (.ref a1), .val (.int (200 : Int32)), .val (.int (0 : Int32)), .val (.ref a8)]) rfl ?_
    show Steps p.tables e below (T10.setTop (mkF m 135 #[.val (.ref a1), .val (.int (200 : Int32)), .val (.int (0 : Int32)), .val (.ref a8)] [])) _
    refine XS.aloadN X10.here hx rfl (hb hby d1_135) rfl rfl ?_
    show Steps p.tables e below (T10.setTop (mkF m 136 #[.val (.ref a1), .val (.int (200 : Int32)), .val (.int (0 : Int32)), .val (.ref a8)] [(.ref a8)])) _
    jvm_step X10.here [X10.here.top, hx, (hb hby d1_136), X10.method', Bd.returns, Value.isRef, FieldType.isReference]
    first | (intro acts; rw [hr _ acts rfl rfl rfl]) | rw [hr _ _ rfl rfl rfl]
    exact Steps.refl _
  · show Q1_32 Z _ _ h0 n0 _ T10.heap _
    rw [e10]
    exact ⟨rfl, N4, rfl⟩
theorem ef_rm3_34 (m : MethodId) (x0 : Int32) : entryFrame m #[(.int x0), (.int (200 : Int32))] 2 = mkF m 0 #[.val (.int x0), .val (.int (200 : Int32))] [] := by first | (simp [entryFrame, mkF, argsToLocals, Value.category]; done) | rfl
def Q3_34 (Z : State) (p1 : Int32) (a3 : Addr) (h0 : Heap) (n0 : Nat) (v : Option Value) (h : Heap) (L : List Loc) : Prop := (v = some (.ref a3) ∧ Fr n0 L ∧ h = h0)
set_option maxRecDepth 65536 in
set_option maxHeartbeats 40000000 in
theorem rm3_34 (l : Launch) (Z : State) (a0 : Array Value) (hw : ∀ d ∈ own_ws, d.before a0 Z = true) (ws : List Jvm.Cond) (p1 : Int32) (a3 : Addr) (h0 : Heap) (n0 : Nat) (O0 : Old Z n0 h0) (hk2 : ¬ (p1 = (1 : Int32))) (S_4 : Sta Z Z.heap "com/example/ringstead/ringstead/node/History$Type" "INFO" "Lcom/example/ringstead/ringstead/node/History$Type;" (.ref a3)) :
    MetFree l M_3 (head1 (Jvm.Cond.code M_3 method_2_code 2 (some (.object "com/example/ringstead/ringstead/node/History$Type")) :: ws) ({ frames := 0, cells := 0, slots := 0, locals := 0 } : Room)) (fun a U => a = #[(.int p1), (.int (200 : Int32))] ∧ Z.Warmed39 U.vm ∧ U.heap = h0) (fun _ _ _ _ _ => True) (fun _ U o U' => ∃ v L, o = .returned v ∧ Q3_34 Z p1 a3 h0 n0 v U'.heap L ∧ FrameEnd U o U' L ({ frames := 0, cells := 0, slots := 0, locals := 0 } : Room).cells ({ frames := 0, cells := 0, slots := 0, locals := 0 } : Room).slots) := by
  refine MetFree.of_bodySF (plainFor_of_name pn_2) hisR ?_
  intro p e s m args below meth c s₁ Bd hml0 hP hK
  obtain ⟨rfl, hZ, hh⟩ := hP
  have hx := Bd.exec
  have hby := Bd.bytes
  have hml : c.maxLocals = 2 := hml0
  have hown : s.vm.findClass "com/example/ringstead/ringstead/node/TypeOfPinLaw" = some m.cls := findClass_of_methodNamed Bd.named
  have hnm := (name_of_methodNamed Bd.named Bd.method).1
  have X0 : Stand p l e ({ frames := 0, cells := 0, slots := 0, locals := 0 } : Room) s m #[(.int p1), (.int (200 : Int32))] below meth c s₁ [] 0 0 := Stand.of_body Bd
  have e0 : s₁.heap = h0 := by rw [← hh, Bd.state]; rfl
  have N0 := Fr.nil n0
  have pre0 : ∀ t, Steps p.tables e below (s₁.setTop (mkF m 0 #[.val (.int p1), .val (.int (200 : Int32))] [])) t → Steps p.tables e below (s₁.setTop (entryFrame m #[(.int p1), (.int (200 : Int32))] 2)) t := fun t k => castTop (ef_rm3_34 m p1) k
  obtain ⟨T5, X5, e5, st5⟩ := getS2 X0 hx hZ hown (host := "") (Or.inl (hw _ (gw 33 rfl))) Via.refl e0 (Sta.ext O0.2 S_4) (g := (mkF m 40 #[.val (.int p1), .val (.int (200 : Int32))] [])) rfl (hb hby d3_40)
  obtain ⟨fs, hr, hrun, hended, hW, hsame⟩ := X5.leave (v := some (.ref a3)) (fun h => by rw [Bd.returns] at h; cases h)
  refine ⟨_, _, pre0 _ ?_, hrun, hended, _, _, rfl, ?_, ⟨_, rfl⟩, hW, hsame.mono (by decide) (by decide)⟩
  · show Steps p.tables e below (s₁.setTop (mkF m 0 #[.val (.int p1), .val (.int (200 : Int32))] [])) _
    refine XS.iloadN X0.here hx rfl (hb hby d3_0) rfl ?_
    show Steps p.tables e below (s₁.setTop (mkF m 1 #[.val (.int p1), .val (.int (200 : Int32))] [(.int (200 : Int32))])) _
    refine XS.sipush X0.here hx rfl (hb hby d3_1) ?_
    show Steps p.tables e below (s₁.setTop (mkF m 4 #[.val (.int p1), .val (.int (200 : Int32))] [(.int (204 : Int32)), (.int (200 : Int32))])) _
    refine XS.icmpYes X0.here hx rfl (pc0 := 4) (pc' := 22) rfl (hb hby d3_4) rfl (feq (by decide +kernel : ¬ ((200 : Int32) = (204 : Int32)))).2 (by decide) (by decide) ?_
    show Steps p.tables e below (s₁.setTop (mkF m 22 #[.val (.int p1), .val (.int (200 : Int32))] [])) _
    refine XS.iloadN X0.here hx rfl (hb hby d3_22) rfl ?_
    show Steps p.tables e below (s₁.setTop (mkF m 23 #[.val (.int p1), .val (.int (200 : Int32))] [(.int (200 : Int32))])) _
    refine XS.sipush X0.here hx rfl (hb hby d3_23) ?_
    show Steps p.tables e below (s₁.setTop (mkF m 26 #[.val (.int p1), .val (.int (200 : Int32))] [(.int (200 : Int32)), (.int (200 : Int32))])) _
    refine XS.icmpNo X0.here hx rfl (hb hby d3_26) rfl (teq (by decide +kernel : (200 : Int32) = (200 : Int32))).2 ?_
    show Steps p.tables e below (s₁.setTop (mkF m 29 #[.val (.int p1), .val (.int (200 : Int32))] [])) _
    refine XS.iloadN X0.here hx rfl (hb hby d3_29) rfl ?_
    show Steps p.tables e below (s₁.setTop (mkF m 30 #[.val (.int p1), .val (.int (200 : Int32))] [(.int p1)])) _
    refine XS.iconst X0.here hx rfl (hb hby d3_30) ?_
    show Steps p.tables e below (s₁.setTop (mkF m 31 #[.val (.int p1), .val (.int (200 : Int32))] [(.int (1 : Int32)), (.int p1)])) _
    refine XS.icmpYes X0.here hx rfl (pc0 := 31) (pc' := 40) rfl (hb hby d3_31) rfl (feq hk2).2 (by decide) (by decide) ?_
    show Steps p.tables e below (s₁.setTop (mkF m 40 #[.val (.int p1), .val (.int (200 : Int32))] [])) _
    refine st5 _ ?_
    show Steps p.tables e below (T5.setTop (mkF m 43 #[.val (.int p1), .val (.int (200 : Int32))] [(.ref a3)])) _
    jvm_step X5.here [X5.here.top, hx, (hb hby d3_43), X5.method', Bd.returns, Value.isRef, FieldType.isReference]
    first | (intro acts; rw [hr _ acts rfl rfl rfl]) | rw [hr _ _ rfl rfl rfl]
    exact Steps.refl _
  · show Q3_34 Z _ _ h0 n0 _ T5.heap _
    rw [e5]
    exact ⟨rfl, N0, rfl⟩
theorem ef_rm1_35 (m : MethodId) (x0 : Addr) : entryFrame m #[(.ref x0), (.int (204 : Int32))] 4 = mkF m 0 #[.val (.ref x0), .val (.int (204 : Int32)), .unset, .unset] [] := by first | (simp [entryFrame, mkF, argsToLocals, Value.category]; done) | rfl
def Q1_35 (Z : State) (a1 : Addr) (a8 : Addr) (h0 : Heap) (n0 : Nat) (v : Option Value) (h : Heap) (L : List Loc) : Prop := (v = some (.ref a8) ∧ Fr n0 L ∧ h = h0)
set_option maxRecDepth 65536 in
set_option maxHeartbeats 40000000 in
theorem rm1_35 (l : Launch) (Z : State) (a0 : Array Value) (hw : ∀ d ∈ own_ws, d.before a0 Z = true) (ws : List Jvm.Cond) (a1 : Addr) (a8 : Addr) (h0 : Heap) (n0 : Nat) (O0 : Old Z n0 h0) (E_2 : Exa Z Z.heap a1 "com/example/ringstead/ringstead/node/History$Operation") (F3 : Fld Z Z.heap a1 "java/lang/Enum" "ordinal" "I" (.int (2 : Int32))) (S_9 : Sta Z Z.heap "com/example/ringstead/ringstead/node/History$Type" "OK" "Lcom/example/ringstead/ringstead/node/History$Type;" (.ref a8)) :
    MetFree l M_2 (head1 (Jvm.Cond.code M_2 prog_19_method_5_code 4 (some (.object "com/example/ringstead/ringstead/node/History$Type")) :: ws) ({ frames := 1, cells := 0, slots := 0, locals := 12 } : Room)) (fun a U => a = #[(.ref a1), (.int (204 : Int32))] ∧ Z.Warmed39 U.vm ∧ U.heap = h0) (fun _ _ _ _ _ => True) (fun _ U o U' => ∃ v L, o = .returned v ∧ Q1_35 Z a1 a8 h0 n0 v U'.heap L ∧ FrameEnd U o U' L ({ frames := 1, cells := 0, slots := 0, locals := 12 } : Room).cells ({ frames := 1, cells := 0, slots := 0, locals := 12 } : Room).slots) := by
  refine MetFree.of_bodySF (plainFor_of_name pn_1) hisR ?_
  intro p e s m args below meth c s₁ Bd hml0 hP hK
  obtain ⟨rfl, hZ, hh⟩ := hP
  have hx := Bd.exec
  have hby := Bd.bytes
  have hml : c.maxLocals = 4 := hml0
  have hown : s.vm.findClass "com/example/ringstead/ringstead/node/History$Type" = some m.cls := findClass_of_methodNamed Bd.named
  have hnm := (name_of_methodNamed Bd.named Bd.method).1
  have X0 : Stand p l e ({ frames := 1, cells := 0, slots := 0, locals := 12 } : Room) s m #[(.ref a1), (.int (204 : Int32))] below meth c s₁ [] 0 0 := Stand.of_body Bd
  have e0 : s₁.heap = h0 := by rw [← hh, Bd.state]; rfl
  have N0 := Fr.nil n0
  have pre0 : ∀ t, Steps p.tables e below (s₁.setTop (mkF m 0 #[.val (.ref a1), .val (.int (204 : Int32)), .unset, .unset] [])) t → Steps p.tables e below (s₁.setTop (entryFrame m #[(.ref a1), (.int (204 : Int32))] 4)) t := fun t k => castTop (ef_rm1_35 m a1) k
  obtain ⟨cq4, kq4, q4a, q4b, q4c⟩ := isOf hZ e0 (Exa.ext O0.2 E_2)
  obtain ⟨_, _, ⟨T4, L4, k4, n4⟩, -, X4, ⟨Lc4, hQ4, l4, y4, z4⟩, st4⟩ := X0.virtualBackUp hx (owner := "java/lang/Enum") (x := M_1) (y := M_0) hown (mvT hZ (hw _ (gw 8 rfl))) (mvT hZ (hw _ (gw 9 rfl))) (mvT hZ (hw _ (gw 10 rfl))) (by decide) (mvT hZ (hw _ (gw 12 rfl))) (mvT hZ (hw _ (gw 11 rfl))) (backOf (W := 0) (rm2_33 l Z a0 hw [] a1 h0 n0  O0 F3) hZ (hw _ (gw 14 rfl)) (hw _ (gw 13 rfl)) (by decide) (by decide)) q4a q4c (g := (mkF m 1 #[.val (.ref a1), .val (.int (204 : Int32)), .unset, .unset] [(.ref a1)])) rfl (by rw [hml]; rfl) (Steps.refl _) (argsL := []) (rest := []) (lenOf pd_0 rfl) rfl (by show 2 * 0 + _ ≤ _; exact Nat.le_of_eq rfl) (hb hby d1_1) (fun _ _ => ⟨rfl, e0, (by decide : 0 + 0 ≤ _), (by decide : 0 + 0 ≤ _)⟩)
  dsimp only [Pt.U, Pt.locs, Pt.cells, Pt.slots] at X4 l4 y4 z4 st4 hQ4
  subst l4 y4 z4
  obtain ⟨rfl, u6, u7⟩ := hQ4
  have N4 := Fr.app N0 u6
  obtain ⟨T10, X10, e10, st10⟩ := getS2 X4 hx hZ hown (host := "") (Or.inl (hw _ (gw 28 rfl))) Via.refl u7 (Sta.ext O0.2 S_9) (g := (mkF m 103 #[.val (.ref a1), .val (.int (204 : Int32)), .val (.int (1 : Int32)), .unset] [])) rfl (hb hby d1_103)
  obtain ⟨fs, hr, hrun, hended, hW, hsame⟩ := X10.leave (v := some (.ref a8)) (fun h => by rw [Bd.returns] at h; cases h)
  refine ⟨_, _, pre0 _ ?_, hrun, hended, _, _, rfl, ?_, ⟨_, rfl⟩, hW, hsame.mono (by decide) (by decide)⟩
  · show Steps p.tables e below (s₁.setTop (mkF m 0 #[.val (.ref a1), .val (.int (204 : Int32)), .unset, .unset] [])) _
    refine XS.aloadN X0.here hx rfl (hb hby d1_0) rfl rfl ?_
    show Steps p.tables e below (s₁.setTop (mkF m 1 #[.val (.ref a1), .val (.int (204 : Int32)), .unset, .unset] [(.ref a1)])) _
    refine st4.trans ?_
    show Steps p.tables e below (T4.setTop (mkF m 4 #[.val (.ref a1), .val (.int (204 : Int32)), .unset, .unset] [(.int (2 : Int32))])) _
    refine XS.tswIn X4.here hx rfl (pc0 := 4) (pc' := 79) rfl (hb hby d1_4) rfl (by decide) (o := 75) rfl (by decide) (by decide) ?_
    show Steps p.tables e below (T4.setTop (mkF m 79 #[.val (.ref a1), .val (.int (204 : Int32)), .unset, .unset] [])) _
    refine XS.iloadN X4.here hx rfl (hb hby d1_79) rfl ?_
    show Steps p.tables e below (T4.setTop (mkF m 80 #[.val (.ref a1), .val (.int (204 : Int32)), .unset, .unset] [(.int (204 : Int32))])) _
    refine XS.sipush X4.here hx rfl (hb hby d1_80) ?_
    show Steps p.tables e below (T4.setTop (mkF m 83 #[.val (.ref a1), .val (.int (204 : Int32)), .unset, .unset] [(.int (204 : Int32)), (.int (204 : Int32))])) _
    refine XS.icmpYes X4.here hx rfl (pc0 := 83) (pc' := 93) rfl (hb hby d1_83) rfl (teq (by decide +kernel : (204 : Int32) = (204 : Int32))).1 (by decide) (by decide) ?_
    show Steps p.tables e below (T4.setTop (mkF m 93 #[.val (.ref a1), .val (.int (204 : Int32)), .unset, .unset] [])) _
    refine XS.iconst X4.here hx rfl (hb hby d1_93) ?_
    show Steps p.tables e below (T4.setTop (mkF m 94 #[.val (.ref a1), .val (.int (204 : Int32)), .unset, .unset] [(.int (1 : Int32))])) _
    refine XS.goto X4.here hx rfl (pc0 := 94) (pc' := 98) rfl (hb hby d1_94) (by decide) (by decide) ?_
    show Steps p.tables e below (T4.setTop (mkF m 98 #[.val (.ref a1), .val (.int (204 : Int32)), .unset, .unset] [(.int (1 : Int32))])) _
    refine XS.istoreN X4.here hx rfl (hb hby d1_98) rfl (l' := #[.val (.ref a1), .val (.int (204 : Int32)), .val (.int (1 : Int32)), .unset]) rfl ?_
    show Steps p.tables e below (T4.setTop (mkF m 99 #[.val (.ref a1), .val (.int (204 : Int32)), .val (.int (1 : Int32)), .unset] [])) _
    refine XS.iloadN X4.here hx rfl (hb hby d1_99) rfl ?_
    show Steps p.tables e below (T4.setTop (mkF m 100 #[.val (.ref a1), .val (.int (204 : Int32)), .val (.int (1 : Int32)), .unset] [(.int (1 : Int32))])) _
    refine XS.ifNo X4.here hx rfl (hb hby d1_100) rfl ((if0 _ _).trans (feq (by decide +kernel : ¬ ((1 : Int32) = (0 : Int32)))).1) ?_
    show Steps p.tables e below (T4.setTop (mkF m 103 #[.val (.ref a1), .val (.int (204 : Int32)), .val (.int (1 : Int32)), .unset] [])) _
    refine st10 _ ?_
    show Steps p.tables e below (T10.setTop (mkF m 106 #[.val (.ref a1), .val (.int (204 : Int32)), .val (.int (1 : Int32)), .unset] [(.ref a8)])) _
    refine XS.astoreN X10.here hx rfl (hb hby d1_106) rfl rfl (l' := #[.val (.ref a1), .val (.int (204 : Int32)), .val (.int (1 : Int32)), .val (.ref a8)]) rfl ?_
    show Steps p.tables e below (T10.setTop (mkF m 107 #[.val (.ref a1), .val (.int (204 : Int32)), .val (.int (1 : Int32)), .val (.ref a8)] [])) _
    refine XS.goto X10.here hx rfl (pc0 := 107) (pc' := 135) rfl (hb hby d1_107) (by decide) (by decide) ?_
    show Steps p.tables e below (T10.setTop (mkF m 135 #[.val (.ref a1), .val (.int (204 : Int32)), .val (.int (1 : Int32)), .val (.ref a8)] [])) _
    refine XS.aloadN X10.here hx rfl (hb hby d1_135) rfl rfl ?_
    show Steps p.tables e below (T10.setTop (mkF m 136 #[.val (.ref a1), .val (.int (204 : Int32)), .val (.int (1 : Int32)), .val (.ref a8)] [(.ref a8)])) _
    jvm_step X10.here [X10.here.top, hx, (hb hby d1_136), X10.method', Bd.returns, Value.isRef, FieldType.isReference]
    first | (intro acts; rw [hr _ acts rfl rfl rfl]) | rw [hr _ _ rfl rfl rfl]
    exact Steps.refl _
  · show Q1_35 Z _ _ h0 n0 _ T10.heap _
    rw [e10]
    exact ⟨rfl, N4, rfl⟩
theorem ef_rm3_36 (m : MethodId) (x0 : Int32) : entryFrame m #[(.int x0), (.int (204 : Int32))] 2 = mkF m 0 #[.val (.int x0), .val (.int (204 : Int32))] [] := by first | (simp [entryFrame, mkF, argsToLocals, Value.category]; done) | rfl
def Q3_36 (Z : State) (p1 : Int32) (a3 : Addr) (h0 : Heap) (n0 : Nat) (v : Option Value) (h : Heap) (L : List Loc) : Prop := (v = some (.ref a3) ∧ Fr n0 L ∧ h = h0)
set_option maxRecDepth 65536 in
set_option maxHeartbeats 40000000 in
theorem rm3_36 (l : Launch) (Z : State) (a0 : Array Value) (hw : ∀ d ∈ own_ws, d.before a0 Z = true) (ws : List Jvm.Cond) (p1 : Int32) (a3 : Addr) (h0 : Heap) (n0 : Nat) (O0 : Old Z n0 h0) (hk2 : ¬ (p1 = (1 : Int32))) (S_4 : Sta Z Z.heap "com/example/ringstead/ringstead/node/History$Type" "OK" "Lcom/example/ringstead/ringstead/node/History$Type;" (.ref a3)) :
    MetFree l M_3 (head1 (Jvm.Cond.code M_3 method_2_code 2 (some (.object "com/example/ringstead/ringstead/node/History$Type")) :: ws) ({ frames := 0, cells := 0, slots := 0, locals := 0 } : Room)) (fun a U => a = #[(.int p1), (.int (204 : Int32))] ∧ Z.Warmed39 U.vm ∧ U.heap = h0) (fun _ _ _ _ _ => True) (fun _ U o U' => ∃ v L, o = .returned v ∧ Q3_36 Z p1 a3 h0 n0 v U'.heap L ∧ FrameEnd U o U' L ({ frames := 0, cells := 0, slots := 0, locals := 0 } : Room).cells ({ frames := 0, cells := 0, slots := 0, locals := 0 } : Room).slots) := by
  refine MetFree.of_bodySF (plainFor_of_name pn_2) hisR ?_
  intro p e s m args below meth c s₁ Bd hml0 hP hK
  obtain ⟨rfl, hZ, hh⟩ := hP
  have hx := Bd.exec
  have hby := Bd.bytes
  have hml : c.maxLocals = 2 := hml0
  have hown : s.vm.findClass "com/example/ringstead/ringstead/node/TypeOfPinLaw" = some m.cls := findClass_of_methodNamed Bd.named
  have hnm := (name_of_methodNamed Bd.named Bd.method).1
  have X0 : Stand p l e ({ frames := 0, cells := 0, slots := 0, locals := 0 } : Room) s m #[(.int p1), (.int (204 : Int32))] below meth c s₁ [] 0 0 := Stand.of_body Bd
  have e0 : s₁.heap = h0 := by rw [← hh, Bd.state]; rfl
  have N0 := Fr.nil n0
  have pre0 : ∀ t, Steps p.tables e below (s₁.setTop (mkF m 0 #[.val (.int p1), .val (.int (204 : Int32))] [])) t → Steps p.tables e below (s₁.setTop (entryFrame m #[(.int p1), (.int (204 : Int32))] 2)) t := fun t k => castTop (ef_rm3_36 m p1) k
  obtain ⟨T5, X5, e5, st5⟩ := getS2 X0 hx hZ hown (host := "") (Or.inl (hw _ (gw 30 rfl))) Via.refl e0 (Sta.ext O0.2 S_4) (g := (mkF m 18 #[.val (.int p1), .val (.int (204 : Int32))] [])) rfl (hb hby d3_18)
  obtain ⟨fs, hr, hrun, hended, hW, hsame⟩ := X5.leave (v := some (.ref a3)) (fun h => by rw [Bd.returns] at h; cases h)
  refine ⟨_, _, pre0 _ ?_, hrun, hended, _, _, rfl, ?_, ⟨_, rfl⟩, hW, hsame.mono (by decide) (by decide)⟩
  · show Steps p.tables e below (s₁.setTop (mkF m 0 #[.val (.int p1), .val (.int (204 : Int32))] [])) _
    refine XS.iloadN X0.here hx rfl (hb hby d3_0) rfl ?_
    show Steps p.tables e below (s₁.setTop (mkF m 1 #[.val (.int p1), .val (.int (204 : Int32))] [(.int (204 : Int32))])) _
    refine XS.sipush X0.here hx rfl (hb hby d3_1) ?_
    show Steps p.tables e below (s₁.setTop (mkF m 4 #[.val (.int p1), .val (.int (204 : Int32))] [(.int (204 : Int32)), (.int (204 : Int32))])) _
    refine XS.icmpNo X0.here hx rfl (hb hby d3_4) rfl (teq (by decide +kernel : (204 : Int32) = (204 : Int32))).2 ?_
    show Steps p.tables e below (s₁.setTop (mkF m 7 #[.val (.int p1), .val (.int (204 : Int32))] [])) _
    refine XS.iloadN X0.here hx rfl (hb hby d3_7) rfl ?_
    show Steps p.tables e below (s₁.setTop (mkF m 8 #[.val (.int p1), .val (.int (204 : Int32))] [(.int p1)])) _
    refine XS.iconst X0.here hx rfl (hb hby d3_8) ?_
    show Steps p.tables e below (s₁.setTop (mkF m 9 #[.val (.int p1), .val (.int (204 : Int32))] [(.int (1 : Int32)), (.int p1)])) _
    refine XS.icmpYes X0.here hx rfl (pc0 := 9) (pc' := 18) rfl (hb hby d3_9) rfl (feq hk2).2 (by decide) (by decide) ?_
    show Steps p.tables e below (s₁.setTop (mkF m 18 #[.val (.int p1), .val (.int (204 : Int32))] [])) _
    refine st5 _ ?_
    show Steps p.tables e below (T5.setTop (mkF m 21 #[.val (.int p1), .val (.int (204 : Int32))] [(.ref a3)])) _
    jvm_step X5.here [X5.here.top, hx, (hb hby d3_21), X5.method', Bd.returns, Value.isRef, FieldType.isReference]
    first | (intro acts; rw [hr _ acts rfl rfl rfl]) | rw [hr _ _ rfl rfl rfl]
    exact Steps.refl _
  · show Q3_36 Z _ _ h0 n0 _ T5.heap _
    rw [e5]
    exact ⟨rfl, N0, rfl⟩
theorem ef_rm1_37 (m : MethodId) (x0 : Addr) : entryFrame m #[(.ref x0), (.int (404 : Int32))] 4 = mkF m 0 #[.val (.ref x0), .val (.int (404 : Int32)), .unset, .unset] [] := by first | (simp [entryFrame, mkF, argsToLocals, Value.category]; done) | rfl
def Q1_37 (Z : State) (a1 : Addr) (a8 : Addr) (h0 : Heap) (n0 : Nat) (v : Option Value) (h : Heap) (L : List Loc) : Prop := (v = some (.ref a8) ∧ Fr n0 L ∧ h = h0)
set_option maxRecDepth 65536 in
set_option maxHeartbeats 40000000 in
theorem rm1_37 (l : Launch) (Z : State) (a0 : Array Value) (hw : ∀ d ∈ own_ws, d.before a0 Z = true) (ws : List Jvm.Cond) (a1 : Addr) (a8 : Addr) (h0 : Heap) (n0 : Nat) (O0 : Old Z n0 h0) (E_2 : Exa Z Z.heap a1 "com/example/ringstead/ringstead/node/History$Operation") (F3 : Fld Z Z.heap a1 "java/lang/Enum" "ordinal" "I" (.int (2 : Int32))) (S_9 : Sta Z Z.heap "com/example/ringstead/ringstead/node/History$Type" "OK" "Lcom/example/ringstead/ringstead/node/History$Type;" (.ref a8)) :
    MetFree l M_2 (head1 (Jvm.Cond.code M_2 prog_19_method_5_code 4 (some (.object "com/example/ringstead/ringstead/node/History$Type")) :: ws) ({ frames := 1, cells := 0, slots := 0, locals := 12 } : Room)) (fun a U => a = #[(.ref a1), (.int (404 : Int32))] ∧ Z.Warmed39 U.vm ∧ U.heap = h0) (fun _ _ _ _ _ => True) (fun _ U o U' => ∃ v L, o = .returned v ∧ Q1_37 Z a1 a8 h0 n0 v U'.heap L ∧ FrameEnd U o U' L ({ frames := 1, cells := 0, slots := 0, locals := 12 } : Room).cells ({ frames := 1, cells := 0, slots := 0, locals := 12 } : Room).slots) := by
  refine MetFree.of_bodySF (plainFor_of_name pn_1) hisR ?_
  intro p e s m args below meth c s₁ Bd hml0 hP hK
  obtain ⟨rfl, hZ, hh⟩ := hP
  have hx := Bd.exec
  have hby := Bd.bytes
  have hml : c.maxLocals = 4 := hml0
  have hown : s.vm.findClass "com/example/ringstead/ringstead/node/History$Type" = some m.cls := findClass_of_methodNamed Bd.named
  have hnm := (name_of_methodNamed Bd.named Bd.method).1
  have X0 : Stand p l e ({ frames := 1, cells := 0, slots := 0, locals := 12 } : Room) s m #[(.ref a1), (.int (404 : Int32))] below meth c s₁ [] 0 0 := Stand.of_body Bd
  have e0 : s₁.heap = h0 := by rw [← hh, Bd.state]; rfl
  have N0 := Fr.nil n0
  have pre0 : ∀ t, Steps p.tables e below (s₁.setTop (mkF m 0 #[.val (.ref a1), .val (.int (404 : Int32)), .unset, .unset] [])) t → Steps p.tables e below (s₁.setTop (entryFrame m #[(.ref a1), (.int (404 : Int32))] 4)) t := fun t k => castTop (ef_rm1_37 m a1) k
  obtain ⟨cq4, kq4, q4a, q4b, q4c⟩ := isOf hZ e0 (Exa.ext O0.2 E_2)
  obtain ⟨_, _, ⟨T4, L4, k4, n4⟩, -, X4, ⟨Lc4, hQ4, l4, y4, z4⟩, st4⟩ := X0.virtualBackUp hx (owner := "java/lang/Enum") (x := M_1) (y := M_0) hown (mvT hZ (hw _ (gw 8 rfl))) (mvT hZ (hw _ (gw 9 rfl))) (mvT hZ (hw _ (gw 10 rfl))) (by decide) (mvT hZ (hw _ (gw 12 rfl))) (mvT hZ (hw _ (gw 11 rfl))) (backOf (W := 0) (rm2_33 l Z a0 hw [] a1 h0 n0  O0 F3) hZ (hw _ (gw 14 rfl)) (hw _ (gw 13 rfl)) (by decide) (by decide)) q4a q4c (g := (mkF m 1 #[.val (.ref a1), .val (.int (404 : Int32)), .unset, .unset] [(.ref a1)])) rfl (by rw [hml]; rfl) (Steps.refl _) (argsL := []) (rest := []) (lenOf pd_0 rfl) rfl (by show 2 * 0 + _ ≤ _; exact Nat.le_of_eq rfl) (hb hby d1_1) (fun _ _ => ⟨rfl, e0, (by decide : 0 + 0 ≤ _), (by decide : 0 + 0 ≤ _)⟩)
  dsimp only [Pt.U, Pt.locs, Pt.cells, Pt.slots] at X4 l4 y4 z4 st4 hQ4
  subst l4 y4 z4
  obtain ⟨rfl, u6, u7⟩ := hQ4
  have N4 := Fr.app N0 u6
  obtain ⟨T10, X10, e10, st10⟩ := getS2 X4 hx hZ hown (host := "") (Or.inl (hw _ (gw 28 rfl))) Via.refl u7 (Sta.ext O0.2 S_9) (g := (mkF m 103 #[.val (.ref a1), .val (.int (404 : Int32)), .val (.int (1 : Int32)), .unset] [])) rfl (hb hby d1_103)
  obtain ⟨fs, hr, hrun, hended, hW, hsame⟩ := X10.leave (v := some (.ref a8)) (fun h => by rw [Bd.returns] at h; cases h)
  refine ⟨_, _, pre0 _ ?_, hrun, hended, _, _, rfl, ?_, ⟨_, rfl⟩, hW, hsame.mono (by decide) (by decide)⟩
  · show Steps p.tables e below (s₁.setTop (mkF m 0 #[.val (.ref a1), .val (.int (404 : Int32)), .unset, .unset] [])) _
    refine XS.aloadN X0.here hx rfl (hb hby d1_0) rfl rfl ?_
    show Steps p.tables e below (s₁.setTop (mkF m 1 #[.val (.ref a1), .val (.int (404 : Int32)), .unset, .unset] [(.ref a1)])) _
    refine st4.trans ?_
    show Steps p.tables e below (T4.setTop (mkF m 4 #[.val (.ref a1), .val (.int (404 : Int32)), .unset, .unset] [(.int (2 : Int32))])) _
    refine XS.tswIn X4.here hx rfl (pc0 := 4) (pc' := 79) rfl (hb hby d1_4) rfl (by decide) (o := 75) rfl (by decide) (by decide) ?_
    show Steps p.tables e below (T4.setTop (mkF m 79 #[.val (.ref a1), .val (.int (404 : Int32)), .unset, .unset] [])) _
    refine XS.iloadN X4.here hx rfl (hb hby d1_79) rfl ?_
    show Steps p.tables e below (T4.setTop (mkF m 80 #[.val (.ref a1), .val (.int (404 : Int32)), .unset, .unset] [(.int (404 : Int32))])) _
    refine XS.sipush X4.here hx rfl (hb hby d1_80) ?_
    show Steps p.tables e below (T4.setTop (mkF m 83 #[.val (.ref a1), .val (.int (404 : Int32)), .unset, .unset] [(.int (204 : Int32)), (.int (404 : Int32))])) _
    refine XS.icmpNo X4.here hx rfl (hb hby d1_83) rfl (feq (by decide +kernel : ¬ ((404 : Int32) = (204 : Int32)))).1 ?_
    show Steps p.tables e below (T4.setTop (mkF m 86 #[.val (.ref a1), .val (.int (404 : Int32)), .unset, .unset] [])) _
    refine XS.iloadN X4.here hx rfl (hb hby d1_86) rfl ?_
    show Steps p.tables e below (T4.setTop (mkF m 87 #[.val (.ref a1), .val (.int (404 : Int32)), .unset, .unset] [(.int (404 : Int32))])) _
    refine XS.sipush X4.here hx rfl (hb hby d1_87) ?_
    show Steps p.tables e below (T4.setTop (mkF m 90 #[.val (.ref a1), .val (.int (404 : Int32)), .unset, .unset] [(.int (404 : Int32)), (.int (404 : Int32))])) _
    refine XS.icmpNo X4.here hx rfl (hb hby d1_90) rfl (teq (by decide +kernel : (404 : Int32) = (404 : Int32))).2 ?_
    show Steps p.tables e below (T4.setTop (mkF m 93 #[.val (.ref a1), .val (.int (404 : Int32)), .unset, .unset] [])) _
    refine XS.iconst X4.here hx rfl (hb hby d1_93) ?_
    show Steps p.tables e below (T4.setTop (mkF m 94 #[.val (.ref a1), .val (.int (404 : Int32)), .unset, .unset] [(.int (1 : Int32))])) _
    refine XS.goto X4.here hx rfl (pc0 := 94) (pc' := 98) rfl (hb hby d1_94) (by decide) (by decide) ?_
    show Steps p.tables e below (T4.setTop (mkF m 98 #[.val (.ref a1), .val (.int (404 : Int32)), .unset, .unset] [(.int (1 : Int32))])) _
    refine XS.istoreN X4.here hx rfl (hb hby d1_98) rfl (l' := #[.val (.ref a1), .val (.int (404 : Int32)), .val (.int (1 : Int32)), .unset]) rfl ?_
    show Steps p.tables e below (T4.setTop (mkF m 99 #[.val (.ref a1), .val (.int (404 : Int32)), .val (.int (1 : Int32)), .unset] [])) _
    refine XS.iloadN X4.here hx rfl (hb hby d1_99) rfl ?_
    show Steps p.tables e below (T4.setTop (mkF m 100 #[.val (.ref a1), .val (.int (404 : Int32)), .val (.int (1 : Int32)), .unset] [(.int (1 : Int32))])) _
    refine XS.ifNo X4.here hx rfl (hb hby d1_100) rfl ((if0 _ _).trans (feq (by decide +kernel : ¬ ((1 : Int32) = (0 : Int32)))).1) ?_
    show Steps p.tables e below (T4.setTop (mkF m 103 #[.val (.ref a1), .val (.int (404 : Int32)), .val (.int (1 : Int32)), .unset] [])) _
    refine st10 _ ?_
    show Steps p.tables e below (T10.setTop (mkF m 106 #[.val (.ref a1), .val (.int (404 : Int32)), .val (.int (1 : Int32)), .unset] [(.ref a8)])) _
    refine XS.astoreN X10.here hx rfl (hb hby d1_106) rfl rfl (l' := #[.val (.ref a1), .val (.int (404 : Int32)), .val (.int (1 : Int32)), .val (.ref a8)]) rfl ?_
    show Steps p.tables e below (T10.setTop (mkF m 107 #[.val (.ref a1), .val (.int (404 : Int32)), .val (.int (1 : Int32)), .val (.ref a8)] [])) _
    refine XS.goto X10.here hx rfl (pc0 := 107) (pc' := 135) rfl (hb hby d1_107) (by decide) (by decide) ?_
    show Steps p.tables e below (T10.setTop (mkF m 135 #[.val (.ref a1), .val (.int (404 : Int32)), .val (.int (1 : Int32)), .val (.ref a8)] [])) _
    refine XS.aloadN X10.here hx rfl (hb hby d1_135) rfl rfl ?_
    show Steps p.tables e below (T10.setTop (mkF m 136 #[.val (.ref a1), .val (.int (404 : Int32)), .val (.int (1 : Int32)), .val (.ref a8)] [(.ref a8)])) _
    jvm_step X10.here [X10.here.top, hx, (hb hby d1_136), X10.method', Bd.returns, Value.isRef, FieldType.isReference]
    first | (intro acts; rw [hr _ acts rfl rfl rfl]) | rw [hr _ _ rfl rfl rfl]
    exact Steps.refl _
  · show Q1_37 Z _ _ h0 n0 _ T10.heap _
    rw [e10]
    exact ⟨rfl, N4, rfl⟩
theorem ef_rm3_38 (m : MethodId) (x0 : Int32) : entryFrame m #[(.int x0), (.int (404 : Int32))] 2 = mkF m 0 #[.val (.int x0), .val (.int (404 : Int32))] [] := by first | (simp [entryFrame, mkF, argsToLocals, Value.category]; done) | rfl
def Q3_38 (Z : State) (p1 : Int32) (a3 : Addr) (h0 : Heap) (n0 : Nat) (v : Option Value) (h : Heap) (L : List Loc) : Prop := (v = some (.ref a3) ∧ Fr n0 L ∧ h = h0)
set_option maxRecDepth 65536 in
set_option maxHeartbeats 40000000 in
theorem rm3_38 (l : Launch) (Z : State) (a0 : Array Value) (hw : ∀ d ∈ own_ws, d.before a0 Z = true) (ws : List Jvm.Cond) (p1 : Int32) (a3 : Addr) (h0 : Heap) (n0 : Nat) (O0 : Old Z n0 h0) (hk2 : ¬ (p1 = (0 : Int32))) (S_4 : Sta Z Z.heap "com/example/ringstead/ringstead/node/History$Type" "OK" "Lcom/example/ringstead/ringstead/node/History$Type;" (.ref a3)) :
    MetFree l M_3 (head1 (Jvm.Cond.code M_3 method_2_code 2 (some (.object "com/example/ringstead/ringstead/node/History$Type")) :: ws) ({ frames := 0, cells := 0, slots := 0, locals := 0 } : Room)) (fun a U => a = #[(.int p1), (.int (404 : Int32))] ∧ Z.Warmed39 U.vm ∧ U.heap = h0) (fun _ _ _ _ _ => True) (fun _ U o U' => ∃ v L, o = .returned v ∧ Q3_38 Z p1 a3 h0 n0 v U'.heap L ∧ FrameEnd U o U' L ({ frames := 0, cells := 0, slots := 0, locals := 0 } : Room).cells ({ frames := 0, cells := 0, slots := 0, locals := 0 } : Room).slots) := by
  refine MetFree.of_bodySF (plainFor_of_name pn_2) hisR ?_
  intro p e s m args below meth c s₁ Bd hml0 hP hK
  obtain ⟨rfl, hZ, hh⟩ := hP
  have hx := Bd.exec
  have hby := Bd.bytes
  have hml : c.maxLocals = 2 := hml0
  have hown : s.vm.findClass "com/example/ringstead/ringstead/node/TypeOfPinLaw" = some m.cls := findClass_of_methodNamed Bd.named
  have hnm := (name_of_methodNamed Bd.named Bd.method).1
  have X0 : Stand p l e ({ frames := 0, cells := 0, slots := 0, locals := 0 } : Room) s m #[(.int p1), (.int (404 : Int32))] below meth c s₁ [] 0 0 := Stand.of_body Bd
  have e0 : s₁.heap = h0 := by rw [← hh, Bd.state]; rfl
  have N0 := Fr.nil n0
  have pre0 : ∀ t, Steps p.tables e below (s₁.setTop (mkF m 0 #[.val (.int p1), .val (.int (404 : Int32))] [])) t → Steps p.tables e below (s₁.setTop (entryFrame m #[(.int p1), (.int (404 : Int32))] 2)) t := fun t k => castTop (ef_rm3_38 m p1) k
  obtain ⟨T5, X5, e5, st5⟩ := getS2 X0 hx hZ hown (host := "") (Or.inl (hw _ (gw 30 rfl))) Via.refl e0 (Sta.ext O0.2 S_4) (g := (mkF m 61 #[.val (.int p1), .val (.int (404 : Int32))] [])) rfl (hb hby d3_61)
  obtain ⟨fs, hr, hrun, hended, hW, hsame⟩ := X5.leave (v := some (.ref a3)) (fun h => by rw [Bd.returns] at h; cases h)
  refine ⟨_, _, pre0 _ ?_, hrun, hended, _, _, rfl, ?_, ⟨_, rfl⟩, hW, hsame.mono (by decide) (by decide)⟩
  · show Steps p.tables e below (s₁.setTop (mkF m 0 #[.val (.int p1), .val (.int (404 : Int32))] [])) _
    refine XS.iloadN X0.here hx rfl (hb hby d3_0) rfl ?_
    show Steps p.tables e below (s₁.setTop (mkF m 1 #[.val (.int p1), .val (.int (404 : Int32))] [(.int (404 : Int32))])) _
    refine XS.sipush X0.here hx rfl (hb hby d3_1) ?_
    show Steps p.tables e below (s₁.setTop (mkF m 4 #[.val (.int p1), .val (.int (404 : Int32))] [(.int (204 : Int32)), (.int (404 : Int32))])) _
    refine XS.icmpYes X0.here hx rfl (pc0 := 4) (pc' := 22) rfl (hb hby d3_4) rfl (feq (by decide +kernel : ¬ ((404 : Int32) = (204 : Int32)))).2 (by decide) (by decide) ?_
    show Steps p.tables e below (s₁.setTop (mkF m 22 #[.val (.int p1), .val (.int (404 : Int32))] [])) _
    refine XS.iloadN X0.here hx rfl (hb hby d3_22) rfl ?_
    show Steps p.tables e below (s₁.setTop (mkF m 23 #[.val (.int p1), .val (.int (404 : Int32))] [(.int (404 : Int32))])) _
    refine XS.sipush X0.here hx rfl (hb hby d3_23) ?_
    show Steps p.tables e below (s₁.setTop (mkF m 26 #[.val (.int p1), .val (.int (404 : Int32))] [(.int (200 : Int32)), (.int (404 : Int32))])) _
    refine XS.icmpYes X0.here hx rfl (pc0 := 26) (pc' := 44) rfl (hb hby d3_26) rfl (feq (by decide +kernel : ¬ ((404 : Int32) = (200 : Int32)))).2 (by decide) (by decide) ?_
    show Steps p.tables e below (s₁.setTop (mkF m 44 #[.val (.int p1), .val (.int (404 : Int32))] [])) _
    refine XS.iloadN X0.here hx rfl (hb hby d3_44) rfl ?_
    show Steps p.tables e below (s₁.setTop (mkF m 45 #[.val (.int p1), .val (.int (404 : Int32))] [(.int (404 : Int32))])) _
    refine XS.sipush X0.here hx rfl (hb hby d3_45) ?_
    show Steps p.tables e below (s₁.setTop (mkF m 48 #[.val (.int p1), .val (.int (404 : Int32))] [(.int (404 : Int32)), (.int (404 : Int32))])) _
    refine XS.icmpNo X0.here hx rfl (hb hby d3_48) rfl (teq (by decide +kernel : (404 : Int32) = (404 : Int32))).2 ?_
    show Steps p.tables e below (s₁.setTop (mkF m 51 #[.val (.int p1), .val (.int (404 : Int32))] [])) _
    refine XS.iloadN X0.here hx rfl (hb hby d3_51) rfl ?_
    show Steps p.tables e below (s₁.setTop (mkF m 52 #[.val (.int p1), .val (.int (404 : Int32))] [(.int p1)])) _
    refine XS.ifYes X0.here hx rfl (pc0 := 52) (pc' := 61) rfl (hb hby d3_52) rfl ((if0 _ _).trans (feq hk2).2) (by decide) (by decide) ?_
    show Steps p.tables e below (s₁.setTop (mkF m 61 #[.val (.int p1), .val (.int (404 : Int32))] [])) _
    refine st5 _ ?_
    show Steps p.tables e below (T5.setTop (mkF m 64 #[.val (.int p1), .val (.int (404 : Int32))] [(.ref a3)])) _
    jvm_step X5.here [X5.here.top, hx, (hb hby d3_64), X5.method', Bd.returns, Value.isRef, FieldType.isReference]
    first | (intro acts; rw [hr _ acts rfl rfl rfl]) | rw [hr _ _ rfl rfl rfl]
    exact Steps.refl _
  · show Q3_38 Z _ _ h0 n0 _ T5.heap _
    rw [e5]
    exact ⟨rfl, N0, rfl⟩
theorem ef_rm1_39 (m : MethodId) (x0 : Addr) : entryFrame m #[(.ref x0), (.int (400 : Int32))] 4 = mkF m 0 #[.val (.ref x0), .val (.int (400 : Int32)), .unset, .unset] [] := by first | (simp [entryFrame, mkF, argsToLocals, Value.category]; done) | rfl
def Q1_39 (Z : State) (a1 : Addr) (a8 : Addr) (h0 : Heap) (n0 : Nat) (v : Option Value) (h : Heap) (L : List Loc) : Prop := (v = some (.ref a8) ∧ Fr n0 L ∧ h = h0)
set_option maxRecDepth 65536 in
set_option maxHeartbeats 40000000 in
theorem rm1_39 (l : Launch) (Z : State) (a0 : Array Value) (hw : ∀ d ∈ own_ws, d.before a0 Z = true) (ws : List Jvm.Cond) (a1 : Addr) (a8 : Addr) (h0 : Heap) (n0 : Nat) (O0 : Old Z n0 h0) (E_2 : Exa Z Z.heap a1 "com/example/ringstead/ringstead/node/History$Operation") (F3 : Fld Z Z.heap a1 "java/lang/Enum" "ordinal" "I" (.int (2 : Int32))) (S_9 : Sta Z Z.heap "com/example/ringstead/ringstead/node/History$Type" "FAIL" "Lcom/example/ringstead/ringstead/node/History$Type;" (.ref a8)) :
    MetFree l M_2 (head1 (Jvm.Cond.code M_2 prog_19_method_5_code 4 (some (.object "com/example/ringstead/ringstead/node/History$Type")) :: ws) ({ frames := 1, cells := 0, slots := 0, locals := 12 } : Room)) (fun a U => a = #[(.ref a1), (.int (400 : Int32))] ∧ Z.Warmed39 U.vm ∧ U.heap = h0) (fun _ _ _ _ _ => True) (fun _ U o U' => ∃ v L, o = .returned v ∧ Q1_39 Z a1 a8 h0 n0 v U'.heap L ∧ FrameEnd U o U' L ({ frames := 1, cells := 0, slots := 0, locals := 12 } : Room).cells ({ frames := 1, cells := 0, slots := 0, locals := 12 } : Room).slots) := by
  refine MetFree.of_bodySF (plainFor_of_name pn_1) hisR ?_
  intro p e s m args below meth c s₁ Bd hml0 hP hK
  obtain ⟨rfl, hZ, hh⟩ := hP
  have hx := Bd.exec
  have hby := Bd.bytes
  have hml : c.maxLocals = 4 := hml0
  have hown : s.vm.findClass "com/example/ringstead/ringstead/node/History$Type" = some m.cls := findClass_of_methodNamed Bd.named
  have hnm := (name_of_methodNamed Bd.named Bd.method).1
  have X0 : Stand p l e ({ frames := 1, cells := 0, slots := 0, locals := 12 } : Room) s m #[(.ref a1), (.int (400 : Int32))] below meth c s₁ [] 0 0 := Stand.of_body Bd
  have e0 : s₁.heap = h0 := by rw [← hh, Bd.state]; rfl
  have N0 := Fr.nil n0
  have pre0 : ∀ t, Steps p.tables e below (s₁.setTop (mkF m 0 #[.val (.ref a1), .val (.int (400 : Int32)), .unset, .unset] [])) t → Steps p.tables e below (s₁.setTop (entryFrame m #[(.ref a1), (.int (400 : Int32))] 4)) t := fun t k => castTop (ef_rm1_39 m a1) k
  obtain ⟨cq4, kq4, q4a, q4b, q4c⟩ := isOf hZ e0 (Exa.ext O0.2 E_2)
  obtain ⟨_, _, ⟨T4, L4, k4, n4⟩, -, X4, ⟨Lc4, hQ4, l4, y4, z4⟩, st4⟩ := X0.virtualBackUp hx (owner := "java/lang/Enum") (x := M_1) (y := M_0) hown (mvT hZ (hw _ (gw 8 rfl))) (mvT hZ (hw _ (gw 9 rfl))) (mvT hZ (hw _ (gw 10 rfl))) (by decide) (mvT hZ (hw _ (gw 12 rfl))) (mvT hZ (hw _ (gw 11 rfl))) (backOf (W := 0) (rm2_33 l Z a0 hw [] a1 h0 n0  O0 F3) hZ (hw _ (gw 14 rfl)) (hw _ (gw 13 rfl)) (by decide) (by decide)) q4a q4c (g := (mkF m 1 #[.val (.ref a1), .val (.int (400 : Int32)), .unset, .unset] [(.ref a1)])) rfl (by rw [hml]; rfl) (Steps.refl _) (argsL := []) (rest := []) (lenOf pd_0 rfl) rfl (by show 2 * 0 + _ ≤ _; exact Nat.le_of_eq rfl) (hb hby d1_1) (fun _ _ => ⟨rfl, e0, (by decide : 0 + 0 ≤ _), (by decide : 0 + 0 ≤ _)⟩)
  dsimp only [Pt.U, Pt.locs, Pt.cells, Pt.slots] at X4 l4 y4 z4 st4 hQ4
  subst l4 y4 z4
  obtain ⟨rfl, u6, u7⟩ := hQ4
  have N4 := Fr.app N0 u6
  obtain ⟨T10, X10, e10, st10⟩ := getS2 X4 hx hZ hown (host := "") (Or.inl (hw _ (gw 17 rfl))) Via.refl u7 (Sta.ext O0.2 S_9) (g := (mkF m 124 #[.val (.ref a1), .val (.int (400 : Int32)), .val (.int (0 : Int32)), .unset] [])) rfl (hb hby d1_124)
  obtain ⟨fs, hr, hrun, hended, hW, hsame⟩ := X10.leave (v := some (.ref a8)) (fun h => by rw [Bd.returns] at h; cases h)
  refine ⟨_, _, pre0 _ ?_, hrun, hended, _, _, rfl, ?_, ⟨_, rfl⟩, hW, hsame.mono (by decide) (by decide)⟩
  · show Steps p.tables e below (s₁.setTop (mkF m 0 #[.val (.ref a1), .val (.int (400 : Int32)), .unset, .unset] [])) _
    refine XS.aloadN X0.here hx rfl (hb hby d1_0) rfl rfl ?_
    show Steps p.tables e below (s₁.setTop (mkF m 1 #[.val (.ref a1), .val (.int (400 : Int32)), .unset, .unset] [(.ref a1)])) _
    refine st4.trans ?_
    show Steps p.tables e below (T4.setTop (mkF m 4 #[.val (.ref a1), .val (.int (400 : Int32)), .unset, .unset] [(.int (2 : Int32))])) _
    refine XS.tswIn X4.here hx rfl (pc0 := 4) (pc' := 79) rfl (hb hby d1_4) rfl (by decide) (o := 75) rfl (by decide) (by decide) ?_
    show Steps p.tables e below (T4.setTop (mkF m 79 #[.val (.ref a1), .val (.int (400 : Int32)), .unset, .unset] [])) _
    refine XS.iloadN X4.here hx rfl (hb hby d1_79) rfl ?_
    show Steps p.tables e below (T4.setTop (mkF m 80 #[.val (.ref a1), .val (.int (400 : Int32)), .unset, .unset] [(.int (400 : Int32))])) _
    refine XS.sipush X4.here hx rfl (hb hby d1_80) ?_
    show Steps p.tables e below (T4.setTop (mkF m 83 #[.val (.ref a1), .val (.int (400 : Int32)), .unset, .unset] [(.int (204 : Int32)), (.int (400 : Int32))])) _
    refine XS.icmpNo X4.here hx rfl (hb hby d1_83) rfl (feq (by decide +kernel : ¬ ((400 : Int32) = (204 : Int32)))).1 ?_
    show Steps p.tables e below (T4.setTop (mkF m 86 #[.val (.ref a1), .val (.int (400 : Int32)), .unset, .unset] [])) _
    refine XS.iloadN X4.here hx rfl (hb hby d1_86) rfl ?_
    show Steps p.tables e below (T4.setTop (mkF m 87 #[.val (.ref a1), .val (.int (400 : Int32)), .unset, .unset] [(.int (400 : Int32))])) _
    refine XS.sipush X4.here hx rfl (hb hby d1_87) ?_
    show Steps p.tables e below (T4.setTop (mkF m 90 #[.val (.ref a1), .val (.int (400 : Int32)), .unset, .unset] [(.int (404 : Int32)), (.int (400 : Int32))])) _
    refine XS.icmpYes X4.here hx rfl (pc0 := 90) (pc' := 97) rfl (hb hby d1_90) rfl (feq (by decide +kernel : ¬ ((400 : Int32) = (404 : Int32)))).2 (by decide) (by decide) ?_
    show Steps p.tables e below (T4.setTop (mkF m 97 #[.val (.ref a1), .val (.int (400 : Int32)), .unset, .unset] [])) _
    refine XS.iconst X4.here hx rfl (hb hby d1_97) ?_
    show Steps p.tables e below (T4.setTop (mkF m 98 #[.val (.ref a1), .val (.int (400 : Int32)), .unset, .unset] [(.int (0 : Int32))])) _
    refine XS.istoreN X4.here hx rfl (hb hby d1_98) rfl (l' := #[.val (.ref a1), .val (.int (400 : Int32)), .val (.int (0 : Int32)), .unset]) rfl ?_
    show Steps p.tables e below (T4.setTop (mkF m 99 #[.val (.ref a1), .val (.int (400 : Int32)), .val (.int (0 : Int32)), .unset] [])) _
    refine XS.iloadN X4.here hx rfl (hb hby d1_99) rfl ?_
    show Steps p.tables e below (T4.setTop (mkF m 100 #[.val (.ref a1), .val (.int (400 : Int32)), .val (.int (0 : Int32)), .unset] [(.int (0 : Int32))])) _
    refine XS.ifYes X4.here hx rfl (pc0 := 100) (pc' := 110) rfl (hb hby d1_100) rfl ((if0 _ _).trans (teq (by decide +kernel : (0 : Int32) = (0 : Int32))).1) (by decide) (by decide) ?_
    show Steps p.tables e below (T4.setTop (mkF m 110 #[.val (.ref a1), .val (.int (400 : Int32)), .val (.int (0 : Int32)), .unset] [])) _
    refine XS.iloadN X4.here hx rfl (hb hby d1_110) rfl ?_
    show Steps p.tables e below (T4.setTop (mkF m 111 #[.val (.ref a1), .val (.int (400 : Int32)), .val (.int (0 : Int32)), .unset] [(.int (400 : Int32))])) _
    refine XS.sipush X4.here hx rfl (hb hby d1_111) ?_
    show Steps p.tables e below (T4.setTop (mkF m 114 #[.val (.ref a1), .val (.int (400 : Int32)), .val (.int (0 : Int32)), .unset] [(.int (400 : Int32)), (.int (400 : Int32))])) _
    refine XS.icmpYes X4.here hx rfl (pc0 := 114) (pc' := 124) rfl (hb hby d1_114) rfl (teq (by decide +kernel : (400 : Int32) = (400 : Int32))).1 (by decide) (by decide) ?_
    show Steps p.tables e below (T4.setTop (mkF m 124 #[.val (.ref a1), .val (.int (400 : Int32)), .val (.int (0 : Int32)), .unset] [])) _
    refine st10 _ ?_
    show Steps p.tables e below (T10.setTop (mkF m 127 #[.val (.ref a1), .val (.int (400 : Int32)), .val (.int (0 : Int32)), .unset] [(.ref a8)])) _
    refine XS.astoreN X10.here hx rfl (hb hby d1_127) rfl rfl (l' := #[.val (.ref a1), .val (.int (400 : Int32)), .val (.int (0 : Int32)), .val (.ref a8)]) rfl ?_
    show Steps p.tables e below (T10.setTop (mkF m 128 #[.val (.ref a1), .val (.int (400 : Int32)), .val (.int (0 : Int32)), .val (.ref a8)] [])) _
    refine XS.goto X10.here hx rfl (pc0 := 128) (pc' := 135) rfl (hb hby d1_128) (by decide) (by decide) ?_
    show Steps p.tables e below (T10.setTop (mkF m 135 #[.val (.ref a1), .val (.int (400 : Int32)), .val (.int (0 : Int32)), .val (.ref a8)] [])) _
    refine XS.aloadN X10.here hx rfl (hb hby d1_135) rfl rfl ?_
    show Steps p.tables e below (T10.setTop (mkF m 136 #[.val (.ref a1), .val (.int (400 : Int32)), .val (.int (0 : Int32)), .val (.ref a8)] [(.ref a8)])) _
    jvm_step X10.here [X10.here.top, hx, (hb hby d1_136), X10.method', Bd.returns, Value.isRef, FieldType.isReference]
    first | (intro acts; rw [hr _ acts rfl rfl rfl]) | rw [hr _ _ rfl rfl rfl]
    exact Steps.refl _
  · show Q1_39 Z _ _ h0 n0 _ T10.heap _
    rw [e10]
    exact ⟨rfl, N4, rfl⟩
theorem ef_rm3_40 (m : MethodId) (x0 : Int32) : entryFrame m #[(.int x0), (.int (400 : Int32))] 2 = mkF m 0 #[.val (.int x0), .val (.int (400 : Int32))] [] := by first | (simp [entryFrame, mkF, argsToLocals, Value.category]; done) | rfl
def Q3_40 (Z : State) (p1 : Int32) (a2 : Addr) (h0 : Heap) (n0 : Nat) (v : Option Value) (h : Heap) (L : List Loc) : Prop := (v = some (.ref a2) ∧ Fr n0 L ∧ h = h0)
set_option maxRecDepth 65536 in
set_option maxHeartbeats 40000000 in
theorem rm3_40 (l : Launch) (Z : State) (a0 : Array Value) (hw : ∀ d ∈ own_ws, d.before a0 Z = true) (ws : List Jvm.Cond) (p1 : Int32) (a2 : Addr) (h0 : Heap) (n0 : Nat) (O0 : Old Z n0 h0) (S_3 : Sta Z Z.heap "com/example/ringstead/ringstead/node/History$Type" "FAIL" "Lcom/example/ringstead/ringstead/node/History$Type;" (.ref a2)) :
    MetFree l M_3 (head1 (Jvm.Cond.code M_3 method_2_code 2 (some (.object "com/example/ringstead/ringstead/node/History$Type")) :: ws) ({ frames := 0, cells := 0, slots := 0, locals := 0 } : Room)) (fun a U => a = #[(.int p1), (.int (400 : Int32))] ∧ Z.Warmed39 U.vm ∧ U.heap = h0) (fun _ _ _ _ _ => True) (fun _ U o U' => ∃ v L, o = .returned v ∧ Q3_40 Z p1 a2 h0 n0 v U'.heap L ∧ FrameEnd U o U' L ({ frames := 0, cells := 0, slots := 0, locals := 0 } : Room).cells ({ frames := 0, cells := 0, slots := 0, locals := 0 } : Room).slots) := by
  refine MetFree.of_bodySF (plainFor_of_name pn_2) hisR ?_
  intro p e s m args below meth c s₁ Bd hml0 hP hK
  obtain ⟨rfl, hZ, hh⟩ := hP
  have hx := Bd.exec
  have hby := Bd.bytes
  have hml : c.maxLocals = 2 := hml0
  have hown : s.vm.findClass "com/example/ringstead/ringstead/node/TypeOfPinLaw" = some m.cls := findClass_of_methodNamed Bd.named
  have hnm := (name_of_methodNamed Bd.named Bd.method).1
  have X0 : Stand p l e ({ frames := 0, cells := 0, slots := 0, locals := 0 } : Room) s m #[(.int p1), (.int (400 : Int32))] below meth c s₁ [] 0 0 := Stand.of_body Bd
  have e0 : s₁.heap = h0 := by rw [← hh, Bd.state]; rfl
  have N0 := Fr.nil n0
  have pre0 : ∀ t, Steps p.tables e below (s₁.setTop (mkF m 0 #[.val (.int p1), .val (.int (400 : Int32))] [])) t → Steps p.tables e below (s₁.setTop (entryFrame m #[(.int p1), (.int (400 : Int32))] 2)) t := fun t k => castTop (ef_rm3_40 m p1) k
  obtain ⟨T4, X4, e4, st4⟩ := getS2 X0 hx hZ hown (host := "") (Or.inl (hw _ (gw 23 rfl))) Via.refl e0 (Sta.ext O0.2 S_3) (g := (mkF m 79 #[.val (.int p1), .val (.int (400 : Int32))] [])) rfl (hb hby d3_79)
  obtain ⟨fs, hr, hrun, hended, hW, hsame⟩ := X4.leave (v := some (.ref a2)) (fun h => by rw [Bd.returns] at h; cases h)
  refine ⟨_, _, pre0 _ ?_, hrun, hended, _, _, rfl, ?_, ⟨_, rfl⟩, hW, hsame.mono (by decide) (by decide)⟩
  · show Steps p.tables e below (s₁.setTop (mkF m 0 #[.val (.int p1), .val (.int (400 : Int32))] [])) _
    refine XS.iloadN X0.here hx rfl (hb hby d3_0) rfl ?_
    show Steps p.tables e below (s₁.setTop (mkF m 1 #[.val (.int p1), .val (.int (400 : Int32))] [(.int (400 : Int32))])) _
    refine XS.sipush X0.here hx rfl (hb hby d3_1) ?_
    show Steps p.tables e below (s₁.setTop (mkF m 4 #[.val (.int p1), .val (.int (400 : Int32))] [(.int (204 : Int32)), (.int (400 : Int32))])) _
    refine XS.icmpYes X0.here hx rfl (pc0 := 4) (pc' := 22) rfl (hb hby d3_4) rfl (feq (by decide +kernel : ¬ ((400 : Int32) = (204 : Int32)))).2 (by decide) (by decide) ?_
    show Steps p.tables e below (s₁.setTop (mkF m 22 #[.val (.int p1), .val (.int (400 : Int32))] [])) _
    refine XS.iloadN X0.here hx rfl (hb hby d3_22) rfl ?_
    show Steps p.tables e below (s₁.setTop (mkF m 23 #[.val (.int p1), .val (.int (400 : Int32))] [(.int (400 : Int32))])) _
    refine XS.sipush X0.here hx rfl (hb hby d3_23) ?_
    show Steps p.tables e below (s₁.setTop (mkF m 26 #[.val (.int p1), .val (.int (400 : Int32))] [(.int (200 : Int32)), (.int (400 : Int32))])) _
    refine XS.icmpYes X0.here hx rfl (pc0 := 26) (pc' := 44) rfl (hb hby d3_26) rfl (feq (by decide +kernel : ¬ ((400 : Int32) = (200 : Int32)))).2 (by decide) (by decide) ?_
    show Steps p.tables e below (s₁.setTop (mkF m 44 #[.val (.int p1), .val (.int (400 : Int32))] [])) _
    refine XS.iloadN X0.here hx rfl (hb hby d3_44) rfl ?_
    show Steps p.tables e below (s₁.setTop (mkF m 45 #[.val (.int p1), .val (.int (400 : Int32))] [(.int (400 : Int32))])) _
    refine XS.sipush X0.here hx rfl (hb hby d3_45) ?_
    show Steps p.tables e below (s₁.setTop (mkF m 48 #[.val (.int p1), .val (.int (400 : Int32))] [(.int (404 : Int32)), (.int (400 : Int32))])) _
    refine XS.icmpYes X0.here hx rfl (pc0 := 48) (pc' := 65) rfl (hb hby d3_48) rfl (feq (by decide +kernel : ¬ ((400 : Int32) = (404 : Int32)))).2 (by decide) (by decide) ?_
    show Steps p.tables e below (s₁.setTop (mkF m 65 #[.val (.int p1), .val (.int (400 : Int32))] [])) _
    refine XS.iloadN X0.here hx rfl (hb hby d3_65) rfl ?_
    show Steps p.tables e below (s₁.setTop (mkF m 66 #[.val (.int p1), .val (.int (400 : Int32))] [(.int (400 : Int32))])) _
    refine XS.sipush X0.here hx rfl (hb hby d3_66) ?_
    show Steps p.tables e below (s₁.setTop (mkF m 69 #[.val (.int p1), .val (.int (400 : Int32))] [(.int (400 : Int32)), (.int (400 : Int32))])) _
    refine XS.icmpYes X0.here hx rfl (pc0 := 69) (pc' := 79) rfl (hb hby d3_69) rfl (teq (by decide +kernel : (400 : Int32) = (400 : Int32))).1 (by decide) (by decide) ?_
    show Steps p.tables e below (s₁.setTop (mkF m 79 #[.val (.int p1), .val (.int (400 : Int32))] [])) _
    refine st4 _ ?_
    show Steps p.tables e below (T4.setTop (mkF m 82 #[.val (.int p1), .val (.int (400 : Int32))] [(.ref a2)])) _
    jvm_step X4.here [X4.here.top, hx, (hb hby d3_82), X4.method', Bd.returns, Value.isRef, FieldType.isReference]
    first | (intro acts; rw [hr _ acts rfl rfl rfl]) | rw [hr _ _ rfl rfl rfl]
    exact Steps.refl _
  · show Q3_40 Z _ _ h0 n0 _ T4.heap _
    rw [e4]
    exact ⟨rfl, N0, rfl⟩
theorem ef_rm1_41 (m : MethodId) (x0 : Addr) : entryFrame m #[(.ref x0), (.int (413 : Int32))] 4 = mkF m 0 #[.val (.ref x0), .val (.int (413 : Int32)), .unset, .unset] [] := by first | (simp [entryFrame, mkF, argsToLocals, Value.category]; done) | rfl
def Q1_41 (Z : State) (a1 : Addr) (a8 : Addr) (h0 : Heap) (n0 : Nat) (v : Option Value) (h : Heap) (L : List Loc) : Prop := (v = some (.ref a8) ∧ Fr n0 L ∧ h = h0)
set_option maxRecDepth 65536 in
set_option maxHeartbeats 40000000 in
theorem rm1_41 (l : Launch) (Z : State) (a0 : Array Value) (hw : ∀ d ∈ own_ws, d.before a0 Z = true) (ws : List Jvm.Cond) (a1 : Addr) (a8 : Addr) (h0 : Heap) (n0 : Nat) (O0 : Old Z n0 h0) (E_2 : Exa Z Z.heap a1 "com/example/ringstead/ringstead/node/History$Operation") (F3 : Fld Z Z.heap a1 "java/lang/Enum" "ordinal" "I" (.int (2 : Int32))) (S_9 : Sta Z Z.heap "com/example/ringstead/ringstead/node/History$Type" "FAIL" "Lcom/example/ringstead/ringstead/node/History$Type;" (.ref a8)) :
    MetFree l M_2 (head1 (Jvm.Cond.code M_2 prog_19_method_5_code 4 (some (.object "com/example/ringstead/ringstead/node/History$Type")) :: ws) ({ frames := 1, cells := 0, slots := 0, locals := 12 } : Room)) (fun a U => a = #[(.ref a1), (.int (413 : Int32))] ∧ Z.Warmed39 U.vm ∧ U.heap = h0) (fun _ _ _ _ _ => True) (fun _ U o U' => ∃ v L, o = .returned v ∧ Q1_41 Z a1 a8 h0 n0 v U'.heap L ∧ FrameEnd U o U' L ({ frames := 1, cells := 0, slots := 0, locals := 12 } : Room).cells ({ frames := 1, cells := 0, slots := 0, locals := 12 } : Room).slots) := by
  refine MetFree.of_bodySF (plainFor_of_name pn_1) hisR ?_
  intro p e s m args below meth c s₁ Bd hml0 hP hK
  obtain ⟨rfl, hZ, hh⟩ := hP
  have hx := Bd.exec
  have hby := Bd.bytes
  have hml : c.maxLocals = 4 := hml0
  have hown : s.vm.findClass "com/example/ringstead/ringstead/node/History$Type" = some m.cls := findClass_of_methodNamed Bd.named
  have hnm := (name_of_methodNamed Bd.named Bd.method).1
  have X0 : Stand p l e ({ frames := 1, cells := 0, slots := 0, locals := 12 } : Room) s m #[(.ref a1), (.int (413 : Int32))] below meth c s₁ [] 0 0 := Stand.of_body Bd
  have e0 : s₁.heap = h0 := by rw [← hh, Bd.state]; rfl
  have N0 := Fr.nil n0
  have pre0 : ∀ t, Steps p.tables e below (s₁.setTop (mkF m 0 #[.val (.ref a1), .val (.int (413 : Int32)), .unset, .unset] [])) t → Steps p.tables e below (s₁.setTop (entryFrame m #[(.ref a1), (.int (413 : Int32))] 4)) t := fun t k => castTop (ef_rm1_41 m a1) k
  obtain ⟨cq4, kq4, q4a, q4b, q4c⟩ := isOf hZ e0 (Exa.ext O0.2 E_2)
  obtain ⟨_, _, ⟨T4, L4, k4, n4⟩, -, X4, ⟨Lc4, hQ4, l4, y4, z4⟩, st4⟩ := X0.virtualBackUp hx (owner := "java/lang/Enum") (x := M_1) (y := M_0) hown (mvT hZ (hw _ (gw 8 rfl))) (mvT hZ (hw _ (gw 9 rfl))) (mvT hZ (hw _ (gw 10 rfl))) (by decide) (mvT hZ (hw _ (gw 12 rfl))) (mvT hZ (hw _ (gw 11 rfl))) (backOf (W := 0) (rm2_33 l Z a0 hw [] a1 h0 n0  O0 F3) hZ (hw _ (gw 14 rfl)) (hw _ (gw 13 rfl)) (by decide) (by decide)) q4a q4c (g := (mkF m 1 #[.val (.ref a1), .val (.int (413 : Int32)), .unset, .unset] [(.ref a1)])) rfl (by rw [hml]; rfl) (Steps.refl _) (argsL := []) (rest := []) (lenOf pd_0 rfl) rfl (by show 2 * 0 + _ ≤ _; exact Nat.le_of_eq rfl) (hb hby d1_1) (fun _ _ => ⟨rfl, e0, (by decide : 0 + 0 ≤ _), (by decide : 0 + 0 ≤ _)⟩)
  dsimp only [Pt.U, Pt.locs, Pt.cells, Pt.slots] at X4 l4 y4 z4 st4 hQ4
  subst l4 y4 z4
  obtain ⟨rfl, u6, u7⟩ := hQ4
  have N4 := Fr.app N0 u6
  obtain ⟨T10, X10, e10, st10⟩ := getS2 X4 hx hZ hown (host := "") (Or.inl (hw _ (gw 17 rfl))) Via.refl u7 (Sta.ext O0.2 S_9) (g := (mkF m 124 #[.val (.ref a1), .val (.int (413 : Int32)), .val (.int (0 : Int32)), .unset] [])) rfl (hb hby d1_124)
  obtain ⟨fs, hr, hrun, hended, hW, hsame⟩ := X10.leave (v := some (.ref a8)) (fun h => by rw [Bd.returns] at h; cases h)
  refine ⟨_, _, pre0 _ ?_, hrun, hended, _, _, rfl, ?_, ⟨_, rfl⟩, hW, hsame.mono (by decide) (by decide)⟩
  · show Steps p.tables e below (s₁.setTop (mkF m 0 #[.val (.ref a1), .val (.int (413 : Int32)), .unset, .unset] [])) _
    refine XS.aloadN X0.here hx rfl (hb hby d1_0) rfl rfl ?_
    show Steps p.tables e below (s₁.setTop (mkF m 1 #[.val (.ref a1), .val (.int (413 : Int32)), .unset, .unset] [(.ref a1)])) _
    refine st4.trans ?_
    show Steps p.tables e below (T4.setTop (mkF m 4 #[.val (.ref a1), .val (.int (413 : Int32)), .unset, .unset] [(.int (2 : Int32))])) _
    refine XS.tswIn X4.here hx rfl (pc0 := 4) (pc' := 79) rfl (hb hby d1_4) rfl (by decide) (o := 75) rfl (by decide) (by decide) ?_
    show Steps p.tables e below (T4.setTop (mkF m 79 #[.val (.ref a1), .val (.int (413 : Int32)), .unset, .unset] [])) _
    refine XS.iloadN X4.here hx rfl (hb hby d1_79) rfl ?_
    show Steps p.tables e below (T4.setTop (mkF m 80 #[.val (.ref a1), .val (.int (413 : Int32)), .unset, .unset] [(.int (413 : Int32))])) _
    refine XS.sipush X4.here hx rfl (hb hby d1_80) ?_
    show Steps p.tables e below (T4.setTop (mkF m 83 #[.val (.ref a1), .val (.int (413 : Int32)), .unset, .unset] [(.int (204 : Int32)), (.int (413 : Int32))])) _
    refine XS.icmpNo X4.here hx rfl (hb hby d1_83) rfl (feq (by decide +kernel : ¬ ((413 : Int32) = (204 : Int32)))).1 ?_
    show Steps p.tables e below (T4.setTop (mkF m 86 #[.val (.ref a1), .val (.int (413 : Int32)), .unset, .unset] [])) _
    refine XS.iloadN X4.here hx rfl (hb hby d1_86) rfl ?_
    show Steps p.tables e below (T4.setTop (mkF m 87 #[.val (.ref a1), .val (.int (413 : Int32)), .unset, .unset] [(.int (413 : Int32))])) _
    refine XS.sipush X4.here hx rfl (hb hby d1_87) ?_
    show Steps p.tables e below (T4.setTop (mkF m 90 #[.val (.ref a1), .val (.int (413 : Int32)), .unset, .unset] [(.int (404 : Int32)), (.int (413 : Int32))])) _
    refine XS.icmpYes X4.here hx rfl (pc0 := 90) (pc' := 97) rfl (hb hby d1_90) rfl (feq (by decide +kernel : ¬ ((413 : Int32) = (404 : Int32)))).2 (by decide) (by decide) ?_
    show Steps p.tables e below (T4.setTop (mkF m 97 #[.val (.ref a1), .val (.int (413 : Int32)), .unset, .unset] [])) _
    refine XS.iconst X4.here hx rfl (hb hby d1_97) ?_
    show Steps p.tables e below (T4.setTop (mkF m 98 #[.val (.ref a1), .val (.int (413 : Int32)), .unset, .unset] [(.int (0 : Int32))])) _
    refine XS.istoreN X4.here hx rfl (hb hby d1_98) rfl (l' := #[.val (.ref a1), .val (.int (413 : Int32)), .val (.int (0 : Int32)), .unset]) rfl ?_
    show Steps p.tables e below (T4.setTop (mkF m 99 #[.val (.ref a1), .val (.int (413 : Int32)), .val (.int (0 : Int32)), .unset] [])) _
    refine XS.iloadN X4.here hx rfl (hb hby d1_99) rfl ?_
    show Steps p.tables e below (T4.setTop (mkF m 100 #[.val (.ref a1), .val (.int (413 : Int32)), .val (.int (0 : Int32)), .unset] [(.int (0 : Int32))])) _
    refine XS.ifYes X4.here hx rfl (pc0 := 100) (pc' := 110) rfl (hb hby d1_100) rfl ((if0 _ _).trans (teq (by decide +kernel : (0 : Int32) = (0 : Int32))).1) (by decide) (by decide) ?_
    show Steps p.tables e below (T4.setTop (mkF m 110 #[.val (.ref a1), .val (.int (413 : Int32)), .val (.int (0 : Int32)), .unset] [])) _
    refine XS.iloadN X4.here hx rfl (hb hby d1_110) rfl ?_
    show Steps p.tables e below (T4.setTop (mkF m 111 #[.val (.ref a1), .val (.int (413 : Int32)), .val (.int (0 : Int32)), .unset] [(.int (413 : Int32))])) _
    refine XS.sipush X4.here hx rfl (hb hby d1_111) ?_
    show Steps p.tables e below (T4.setTop (mkF m 114 #[.val (.ref a1), .val (.int (413 : Int32)), .val (.int (0 : Int32)), .unset] [(.int (400 : Int32)), (.int (413 : Int32))])) _
    refine XS.icmpNo X4.here hx rfl (hb hby d1_114) rfl (feq (by decide +kernel : ¬ ((413 : Int32) = (400 : Int32)))).1 ?_
    show Steps p.tables e below (T4.setTop (mkF m 117 #[.val (.ref a1), .val (.int (413 : Int32)), .val (.int (0 : Int32)), .unset] [])) _
    refine XS.iloadN X4.here hx rfl (hb hby d1_117) rfl ?_
    show Steps p.tables e below (T4.setTop (mkF m 118 #[.val (.ref a1), .val (.int (413 : Int32)), .val (.int (0 : Int32)), .unset] [(.int (413 : Int32))])) _
    refine XS.sipush X4.here hx rfl (hb hby d1_118) ?_
    show Steps p.tables e below (T4.setTop (mkF m 121 #[.val (.ref a1), .val (.int (413 : Int32)), .val (.int (0 : Int32)), .unset] [(.int (413 : Int32)), (.int (413 : Int32))])) _
    refine XS.icmpNo X4.here hx rfl (hb hby d1_121) rfl (teq (by decide +kernel : (413 : Int32) = (413 : Int32))).2 ?_
    show Steps p.tables e below (T4.setTop (mkF m 124 #[.val (.ref a1), .val (.int (413 : Int32)), .val (.int (0 : Int32)), .unset] [])) _
    refine st10 _ ?_
    show Steps p.tables e below (T10.setTop (mkF m 127 #[.val (.ref a1), .val (.int (413 : Int32)), .val (.int (0 : Int32)), .unset] [(.ref a8)])) _
    refine XS.astoreN X10.here hx rfl (hb hby d1_127) rfl rfl (l' := #[.val (.ref a1), .val (.int (413 : Int32)), .val (.int (0 : Int32)), .val (.ref a8)]) rfl ?_
    show Steps p.tables e below (T10.setTop (mkF m 128 #[.val (.ref a1), .val (.int (413 : Int32)), .val (.int (0 : Int32)), .val (.ref a8)] [])) _
    refine XS.goto X10.here hx rfl (pc0 := 128) (pc' := 135) rfl (hb hby d1_128) (by decide) (by decide) ?_
    show Steps p.tables e below (T10.setTop (mkF m 135 #[.val (.ref a1), .val (.int (413 : Int32)), .val (.int (0 : Int32)), .val (.ref a8)] [])) _
    refine XS.aloadN X10.here hx rfl (hb hby d1_135) rfl rfl ?_
    show Steps p.tables e below (T10.setTop (mkF m 136 #[.val (.ref a1), .val (.int (413 : Int32)), .val (.int (0 : Int32)), .val (.ref a8)] [(.ref a8)])) _
    jvm_step X10.here [X10.here.top, hx, (hb hby d1_136), X10.method', Bd.returns, Value.isRef, FieldType.isReference]
    first | (intro acts; rw [hr _ acts rfl rfl rfl]) | rw [hr _ _ rfl rfl rfl]
    exact Steps.refl _
  · show Q1_41 Z _ _ h0 n0 _ T10.heap _
    rw [e10]
    exact ⟨rfl, N4, rfl⟩
theorem ef_rm3_42 (m : MethodId) (x0 : Int32) : entryFrame m #[(.int x0), (.int (413 : Int32))] 2 = mkF m 0 #[.val (.int x0), .val (.int (413 : Int32))] [] := by first | (simp [entryFrame, mkF, argsToLocals, Value.category]; done) | rfl
def Q3_42 (Z : State) (p1 : Int32) (a2 : Addr) (h0 : Heap) (n0 : Nat) (v : Option Value) (h : Heap) (L : List Loc) : Prop := (v = some (.ref a2) ∧ Fr n0 L ∧ h = h0)
set_option maxRecDepth 65536 in
set_option maxHeartbeats 40000000 in
theorem rm3_42 (l : Launch) (Z : State) (a0 : Array Value) (hw : ∀ d ∈ own_ws, d.before a0 Z = true) (ws : List Jvm.Cond) (p1 : Int32) (a2 : Addr) (h0 : Heap) (n0 : Nat) (O0 : Old Z n0 h0) (S_3 : Sta Z Z.heap "com/example/ringstead/ringstead/node/History$Type" "FAIL" "Lcom/example/ringstead/ringstead/node/History$Type;" (.ref a2)) :
    MetFree l M_3 (head1 (Jvm.Cond.code M_3 method_2_code 2 (some (.object "com/example/ringstead/ringstead/node/History$Type")) :: ws) ({ frames := 0, cells := 0, slots := 0, locals := 0 } : Room)) (fun a U => a = #[(.int p1), (.int (413 : Int32))] ∧ Z.Warmed39 U.vm ∧ U.heap = h0) (fun _ _ _ _ _ => True) (fun _ U o U' => ∃ v L, o = .returned v ∧ Q3_42 Z p1 a2 h0 n0 v U'.heap L ∧ FrameEnd U o U' L ({ frames := 0, cells := 0, slots := 0, locals := 0 } : Room).cells ({ frames := 0, cells := 0, slots := 0, locals := 0 } : Room).slots) := by
  refine MetFree.of_bodySF (plainFor_of_name pn_2) hisR ?_
  intro p e s m args below meth c s₁ Bd hml0 hP hK
  obtain ⟨rfl, hZ, hh⟩ := hP
  have hx := Bd.exec
  have hby := Bd.bytes
  have hml : c.maxLocals = 2 := hml0
  have hown : s.vm.findClass "com/example/ringstead/ringstead/node/TypeOfPinLaw" = some m.cls := findClass_of_methodNamed Bd.named
  have hnm := (name_of_methodNamed Bd.named Bd.method).1
  have X0 : Stand p l e ({ frames := 0, cells := 0, slots := 0, locals := 0 } : Room) s m #[(.int p1), (.int (413 : Int32))] below meth c s₁ [] 0 0 := Stand.of_body Bd
  have e0 : s₁.heap = h0 := by rw [← hh, Bd.state]; rfl
  have N0 := Fr.nil n0
  have pre0 : ∀ t, Steps p.tables e below (s₁.setTop (mkF m 0 #[.val (.int p1), .val (.int (413 : Int32))] [])) t → Steps p.tables e below (s₁.setTop (entryFrame m #[(.int p1), (.int (413 : Int32))] 2)) t := fun t k => castTop (ef_rm3_42 m p1) k
  obtain ⟨T4, X4, e4, st4⟩ := getS2 X0 hx hZ hown (host := "") (Or.inl (hw _ (gw 23 rfl))) Via.refl e0 (Sta.ext O0.2 S_3) (g := (mkF m 79 #[.val (.int p1), .val (.int (413 : Int32))] [])) rfl (hb hby d3_79)
  obtain ⟨fs, hr, hrun, hended, hW, hsame⟩ := X4.leave (v := some (.ref a2)) (fun h => by rw [Bd.returns] at h; cases h)
  refine ⟨_, _, pre0 _ ?_, hrun, hended, _, _, rfl, ?_, ⟨_, rfl⟩, hW, hsame.mono (by decide) (by decide)⟩
  · show Steps p.tables e below (s₁.setTop (mkF m 0 #[.val (.int p1), .val (.int (413 : Int32))] [])) _
    refine XS.iloadN X0.here hx rfl (hb hby d3_0) rfl ?_
    show Steps p.tables e below (s₁.setTop (mkF m 1 #[.val (.int p1), .val (.int (413 : Int32))] [(.int (413 : Int32))])) _
    refine XS.sipush X0.here hx rfl (hb hby d3_1) ?_
    show Steps p.tables e below (s₁.setTop (mkF m 4 #[.val (.int p1), .val (.int (413 : Int32))] [(.int (204 : Int32)), (.int (413 : Int32))])) _
    refine XS.icmpYes X0.here hx rfl (pc0 := 4) (pc' := 22) rfl (hb hby d3_4) rfl (feq (by decide +kernel : ¬ ((413 : Int32) = (204 : Int32)))).2 (by decide) (by decide) ?_
    show Steps p.tables e below (s₁.setTop (mkF m 22 #[.val (.int p1), .val (.int (413 : Int32))] [])) _
    refine XS.iloadN X0.here hx rfl (hb hby d3_22) rfl ?_
    show Steps p.tables e below (s₁.setTop (mkF m 23 #[.val (.int p1), .val (.int (413 : Int32))] [(.int (413 : Int32))])) _
    refine XS.sipush X0.here hx rfl (hb hby d3_23) ?_
    show Steps p.tables e below (s₁.setTop (mkF m 26 #[.val (.int p1), .val (.int (413 : Int32))] [(.int (200 : Int32)), (.int (413 : Int32))])) _
    refine XS.icmpYes X0.here hx rfl (pc0 := 26) (pc' := 44) rfl (hb hby d3_26) rfl (feq (by decide +kernel : ¬ ((413 : Int32) = (200 : Int32)))).2 (by decide) (by decide) ?_
    show Steps p.tables e below (s₁.setTop (mkF m 44 #[.val (.int p1), .val (.int (413 : Int32))] [])) _
    refine XS.iloadN X0.here hx rfl (hb hby d3_44) rfl ?_
    show Steps p.tables e below (s₁.setTop (mkF m 45 #[.val (.int p1), .val (.int (413 : Int32))] [(.int (413 : Int32))])) _
    refine XS.sipush X0.here hx rfl (hb hby d3_45) ?_
    show Steps p.tables e below (s₁.setTop (mkF m 48 #[.val (.int p1), .val (.int (413 : Int32))] [(.int (404 : Int32)), (.int (413 : Int32))])) _
    refine XS.icmpYes X0.here hx rfl (pc0 := 48) (pc' := 65) rfl (hb hby d3_48) rfl (feq (by decide +kernel : ¬ ((413 : Int32) = (404 : Int32)))).2 (by decide) (by decide) ?_
    show Steps p.tables e below (s₁.setTop (mkF m 65 #[.val (.int p1), .val (.int (413 : Int32))] [])) _
    refine XS.iloadN X0.here hx rfl (hb hby d3_65) rfl ?_
    show Steps p.tables e below (s₁.setTop (mkF m 66 #[.val (.int p1), .val (.int (413 : Int32))] [(.int (413 : Int32))])) _
    refine XS.sipush X0.here hx rfl (hb hby d3_66) ?_
    show Steps p.tables e below (s₁.setTop (mkF m 69 #[.val (.int p1), .val (.int (413 : Int32))] [(.int (400 : Int32)), (.int (413 : Int32))])) _
    refine XS.icmpNo X0.here hx rfl (hb hby d3_69) rfl (feq (by decide +kernel : ¬ ((413 : Int32) = (400 : Int32)))).1 ?_
    show Steps p.tables e below (s₁.setTop (mkF m 72 #[.val (.int p1), .val (.int (413 : Int32))] [])) _
    refine XS.iloadN X0.here hx rfl (hb hby d3_72) rfl ?_
    show Steps p.tables e below (s₁.setTop (mkF m 73 #[.val (.int p1), .val (.int (413 : Int32))] [(.int (413 : Int32))])) _
    refine XS.sipush X0.here hx rfl (hb hby d3_73) ?_
    show Steps p.tables e below (s₁.setTop (mkF m 76 #[.val (.int p1), .val (.int (413 : Int32))] [(.int (413 : Int32)), (.int (413 : Int32))])) _
    refine XS.icmpNo X0.here hx rfl (hb hby d3_76) rfl (teq (by decide +kernel : (413 : Int32) = (413 : Int32))).2 ?_
    show Steps p.tables e below (s₁.setTop (mkF m 79 #[.val (.int p1), .val (.int (413 : Int32))] [])) _
    refine st4 _ ?_
    show Steps p.tables e below (T4.setTop (mkF m 82 #[.val (.int p1), .val (.int (413 : Int32))] [(.ref a2)])) _
    jvm_step X4.here [X4.here.top, hx, (hb hby d3_82), X4.method', Bd.returns, Value.isRef, FieldType.isReference]
    first | (intro acts; rw [hr _ acts rfl rfl rfl]) | rw [hr _ _ rfl rfl rfl]
    exact Steps.refl _
  · show Q3_42 Z _ _ h0 n0 _ T4.heap _
    rw [e4]
    exact ⟨rfl, N0, rfl⟩
theorem ef_rm1_43 (m : MethodId) (x0 : Addr) : entryFrame m #[(.ref x0), (.int (503 : Int32))] 4 = mkF m 0 #[.val (.ref x0), .val (.int (503 : Int32)), .unset, .unset] [] := by first | (simp [entryFrame, mkF, argsToLocals, Value.category]; done) | rfl
def Q1_43 (Z : State) (a1 : Addr) (a8 : Addr) (h0 : Heap) (n0 : Nat) (v : Option Value) (h : Heap) (L : List Loc) : Prop := (v = some (.ref a8) ∧ Fr n0 L ∧ h = h0)
set_option maxRecDepth 65536 in
set_option maxHeartbeats 40000000 in
theorem rm1_43 (l : Launch) (Z : State) (a0 : Array Value) (hw : ∀ d ∈ own_ws, d.before a0 Z = true) (ws : List Jvm.Cond) (a1 : Addr) (a8 : Addr) (h0 : Heap) (n0 : Nat) (O0 : Old Z n0 h0) (E_2 : Exa Z Z.heap a1 "com/example/ringstead/ringstead/node/History$Operation") (F3 : Fld Z Z.heap a1 "java/lang/Enum" "ordinal" "I" (.int (2 : Int32))) (S_9 : Sta Z Z.heap "com/example/ringstead/ringstead/node/History$Type" "INFO" "Lcom/example/ringstead/ringstead/node/History$Type;" (.ref a8)) :
    MetFree l M_2 (head1 (Jvm.Cond.code M_2 prog_19_method_5_code 4 (some (.object "com/example/ringstead/ringstead/node/History$Type")) :: ws) ({ frames := 1, cells := 0, slots := 0, locals := 12 } : Room)) (fun a U => a = #[(.ref a1), (.int (503 : Int32))] ∧ Z.Warmed39 U.vm ∧ U.heap = h0) (fun _ _ _ _ _ => True) (fun _ U o U' => ∃ v L, o = .returned v ∧ Q1_43 Z a1 a8 h0 n0 v U'.heap L ∧ FrameEnd U o U' L ({ frames := 1, cells := 0, slots := 0, locals := 12 } : Room).cells ({ frames := 1, cells := 0, slots := 0, locals := 12 } : Room).slots) := by
  refine MetFree.of_bodySF (plainFor_of_name pn_1) hisR ?_
  intro p e s m args below meth c s₁ Bd hml0 hP hK
  obtain ⟨rfl, hZ, hh⟩ := hP
  have hx := Bd.exec
  have hby := Bd.bytes
  have hml : c.maxLocals = 4 := hml0
  have hown : s.vm.findClass "com/example/ringstead/ringstead/node/History$Type" = some m.cls := findClass_of_methodNamed Bd.named
  have hnm := (name_of_methodNamed Bd.named Bd.method).1
  have X0 : Stand p l e ({ frames := 1, cells := 0, slots := 0, locals := 12 } : Room) s m #[(.ref a1), (.int (503 : Int32))] below meth c s₁ [] 0 0 := Stand.of_body Bd
  have e0 : s₁.heap = h0 := by rw [← hh, Bd.state]; rfl
  have N0 := Fr.nil n0
  have pre0 : ∀ t, Steps p.tables e below (s₁.setTop (mkF m 0 #[.val (.ref a1), .val (.int (503 : Int32)), .unset, .unset] [])) t → Steps p.tables e below (s₁.setTop (entryFrame m #[(.ref a1), (.int (503 : Int32))] 4)) t := fun t k => castTop (ef_rm1_43 m a1) k
  obtain ⟨cq4, kq4, q4a, q4b, q4c⟩ := isOf hZ e0 (Exa.ext O0.2 E_2)
  obtain ⟨_, _, ⟨T4, L4, k4, n4⟩, -, X4, ⟨Lc4, hQ4, l4, y4, z4⟩, st4⟩ := X0.virtualBackUp hx (owner := "java/lang/Enum") (x := M_1) (y := M_0) hown (mvT hZ (hw _ (gw 8 rfl))) (mvT hZ (hw _ (gw 9 rfl))) (mvT hZ (hw _ (gw 10 rfl))) (by decide) (mvT hZ (hw _ (gw 12 rfl))) (mvT hZ (hw _ (gw 11 rfl))) (backOf (W := 0) (rm2_33 l Z a0 hw [] a1 h0 n0  O0 F3) hZ (hw _ (gw 14 rfl)) (hw _ (gw 13 rfl)) (by decide) (by decide)) q4a q4c (g := (mkF m 1 #[.val (.ref a1), .val (.int (503 : Int32)), .unset, .unset] [(.ref a1)])) rfl (by rw [hml]; rfl) (Steps.refl _) (argsL := []) (rest := []) (lenOf pd_0 rfl) rfl (by show 2 * 0 + _ ≤ _; exact Nat.le_of_eq rfl) (hb hby d1_1) (fun _ _ => ⟨rfl, e0, (by decide : 0 + 0 ≤ _), (by decide : 0 + 0 ≤ _)⟩)
  dsimp only [Pt.U, Pt.locs, Pt.cells, Pt.slots] at X4 l4 y4 z4 st4 hQ4
  subst l4 y4 z4
  obtain ⟨rfl, u6, u7⟩ := hQ4
  have N4 := Fr.app N0 u6
  obtain ⟨T10, X10, e10, st10⟩ := getS2 X4 hx hZ hown (host := "") (Or.inl (hw _ (gw 31 rfl))) Via.refl u7 (Sta.ext O0.2 S_9) (g := (mkF m 131 #[.val (.ref a1), .val (.int (503 : Int32)), .val (.int (0 : Int32)), .unset] [])) rfl (hb hby d1_131)
  obtain ⟨fs, hr, hrun, hended, hW, hsame⟩ := X10.leave (v := some (.ref a8)) (fun h => by rw [Bd.returns] at h; cases h)
  refine ⟨_, _, pre0 _ ?_, hrun, hended, _, _, rfl, ?_, ⟨_, rfl⟩, hW, hsame.mono (by decide) (by decide)⟩
  · show Steps p.tables e below (s₁.setTop (mkF m 0 #[.val (.ref a1), .val (.int (503 : Int32)), .unset, .unset] [])) _
    refine XS.aloadN X0.here hx rfl (hb hby d1_0) rfl rfl ?_
    show Steps p.tables e below (s₁.setTop (mkF m 1 #[.val (.ref a1), .val (.int (503 : Int32)), .unset, .unset] [(.ref a1)])) _
    refine st4.trans ?_
    show Steps p.tables e below (T4.setTop (mkF m 4 #[.val (.ref a1), .val (.int (503 : Int32)), .unset, .unset] [(.int (2 : Int32))])) _
    refine XS.tswIn X4.here hx rfl (pc0 := 4) (pc' := 79) rfl (hb hby d1_4) rfl (by decide) (o := 75) rfl (by decide) (by decide) ?_
    show Steps p.tables e below (T4.setTop (mkF m 79 #[.val (.ref a1), .val (.int (503 : Int32)), .unset, .unset] [])) _
    refine XS.iloadN X4.here hx rfl (hb hby d1_79) rfl ?_
    show Steps p.tables e below (T4.setTop (mkF m 80 #[.val (.ref a1), .val (.int (503 : Int32)), .unset, .unset] [(.int (503 : Int32))])) _
    refine XS.sipush X4.here hx rfl (hb hby d1_80) ?_
    show Steps p.tables e below (T4.setTop (mkF m 83 #[.val (.ref a1), .val (.int (503 : Int32)), .unset, .unset] [(.int (204 : Int32)), (.int (503 : Int32))])) _
    refine XS.icmpNo X4.here hx rfl (hb hby d1_83) rfl (feq (by decide +kernel : ¬ ((503 : Int32) = (204 : Int32)))).1 ?_
    show Steps p.tables e below (T4.setTop (mkF m 86 #[.val (.ref a1), .val (.int (503 : Int32)), .unset, .unset] [])) _
    refine XS.iloadN X4.here hx rfl (hb hby d1_86) rfl ?_
    show Steps p.tables e below (T4.setTop (mkF m 87 #[.val (.ref a1), .val (.int (503 : Int32)), .unset, .unset] [(.int (503 : Int32))])) _
    refine XS.sipush X4.here hx rfl (hb hby d1_87) ?_
    show Steps p.tables e below (T4.setTop (mkF m 90 #[.val (.ref a1), .val (.int (503 : Int32)), .unset, .unset] [(.int (404 : Int32)), (.int (503 : Int32))])) _
    refine XS.icmpYes X4.here hx rfl (pc0 := 90) (pc' := 97) rfl (hb hby d1_90) rfl (feq (by decide +kernel : ¬ ((503 : Int32) = (404 : Int32)))).2 (by decide) (by decide) ?_
    show Steps p.tables e below (T4.setTop (mkF m 97 #[.val (.ref a1), .val (.int (503 : Int32)), .unset, .unset] [])) _
    refine XS.iconst X4.here hx rfl (hb hby d1_97) ?_
    show Steps p.tables e below (T4.setTop (mkF m 98 #[.val (.ref a1), .val (.int (503 : Int32)), .unset, .unset] [(.int (0 : Int32))])) _
    refine XS.istoreN X4.here hx rfl (hb hby d1_98) rfl (l' := #[.val (.ref a1), .val (.int (503 : Int32)), .val (.int (0 : Int32)), .unset]) rfl ?_
    show Steps p.tables e below (T4.setTop (mkF m 99 #[.val (.ref a1), .val (.int (503 : Int32)), .val (.int (0 : Int32)), .unset] [])) _
    refine XS.iloadN X4.here hx rfl (hb hby d1_99) rfl ?_
    show Steps p.tables e below (T4.setTop (mkF m 100 #[.val (.ref a1), .val (.int (503 : Int32)), .val (.int (0 : Int32)), .unset] [(.int (0 : Int32))])) _
    refine XS.ifYes X4.here hx rfl (pc0 := 100) (pc' := 110) rfl (hb hby d1_100) rfl ((if0 _ _).trans (teq (by decide +kernel : (0 : Int32) = (0 : Int32))).1) (by decide) (by decide) ?_
    show Steps p.tables e below (T4.setTop (mkF m 110 #[.val (.ref a1), .val (.int (503 : Int32)), .val (.int (0 : Int32)), .unset] [])) _
    refine XS.iloadN X4.here hx rfl (hb hby d1_110) rfl ?_
    show Steps p.tables e below (T4.setTop (mkF m 111 #[.val (.ref a1), .val (.int (503 : Int32)), .val (.int (0 : Int32)), .unset] [(.int (503 : Int32))])) _
    refine XS.sipush X4.here hx rfl (hb hby d1_111) ?_
    show Steps p.tables e below (T4.setTop (mkF m 114 #[.val (.ref a1), .val (.int (503 : Int32)), .val (.int (0 : Int32)), .unset] [(.int (400 : Int32)), (.int (503 : Int32))])) _
    refine XS.icmpNo X4.here hx rfl (hb hby d1_114) rfl (feq (by decide +kernel : ¬ ((503 : Int32) = (400 : Int32)))).1 ?_
    show Steps p.tables e below (T4.setTop (mkF m 117 #[.val (.ref a1), .val (.int (503 : Int32)), .val (.int (0 : Int32)), .unset] [])) _
    refine XS.iloadN X4.here hx rfl (hb hby d1_117) rfl ?_
    show Steps p.tables e below (T4.setTop (mkF m 118 #[.val (.ref a1), .val (.int (503 : Int32)), .val (.int (0 : Int32)), .unset] [(.int (503 : Int32))])) _
    refine XS.sipush X4.here hx rfl (hb hby d1_118) ?_
    show Steps p.tables e below (T4.setTop (mkF m 121 #[.val (.ref a1), .val (.int (503 : Int32)), .val (.int (0 : Int32)), .unset] [(.int (413 : Int32)), (.int (503 : Int32))])) _
    refine XS.icmpYes X4.here hx rfl (pc0 := 121) (pc' := 131) rfl (hb hby d1_121) rfl (feq (by decide +kernel : ¬ ((503 : Int32) = (413 : Int32)))).2 (by decide) (by decide) ?_
    show Steps p.tables e below (T4.setTop (mkF m 131 #[.val (.ref a1), .val (.int (503 : Int32)), .val (.int (0 : Int32)), .unset] [])) _
    refine st10 _ ?_
    show Steps p.tables e below (T10.setTop (mkF m 134 #[.val (.ref a1), .val (.int (503 : Int32)), .val (.int (0 : Int32)), .unset] [(.ref a8)])) _
    refine XS.astoreN X10.here hx rfl (hb hby d1_134) rfl rfl (l' := #[.val (.ref a1), .val (.int (503 : Int32)), .val (.int (0 : Int32)), .val (.ref a8)]) rfl ?_
    show Steps p.tables e below (T10.setTop (mkF m 135 #[.val (.ref a1), .val (.int (503 : Int32)), .val (.int (0 : Int32)), .val (.ref a8)] [])) _
    refine XS.aloadN X10.here hx rfl (hb hby d1_135) rfl rfl ?_
    show Steps p.tables e below (T10.setTop (mkF m 136 #[.val (.ref a1), .val (.int (503 : Int32)), .val (.int (0 : Int32)), .val (.ref a8)] [(.ref a8)])) _
    jvm_step X10.here [X10.here.top, hx, (hb hby d1_136), X10.method', Bd.returns, Value.isRef, FieldType.isReference]
    first | (intro acts; rw [hr _ acts rfl rfl rfl]) | rw [hr _ _ rfl rfl rfl]
    exact Steps.refl _
  · show Q1_43 Z _ _ h0 n0 _ T10.heap _
    rw [e10]
    exact ⟨rfl, N4, rfl⟩
theorem ef_rm3_44 (m : MethodId) (x0 : Int32) : entryFrame m #[(.int x0), (.int (503 : Int32))] 2 = mkF m 0 #[.val (.int x0), .val (.int (503 : Int32))] [] := by first | (simp [entryFrame, mkF, argsToLocals, Value.category]; done) | rfl
def Q3_44 (Z : State) (p1 : Int32) (a2 : Addr) (h0 : Heap) (n0 : Nat) (v : Option Value) (h : Heap) (L : List Loc) : Prop := (v = some (.ref a2) ∧ Fr n0 L ∧ h = h0)
set_option maxRecDepth 65536 in
set_option maxHeartbeats 40000000 in
theorem rm3_44 (l : Launch) (Z : State) (a0 : Array Value) (hw : ∀ d ∈ own_ws, d.before a0 Z = true) (ws : List Jvm.Cond) (p1 : Int32) (a2 : Addr) (h0 : Heap) (n0 : Nat) (O0 : Old Z n0 h0) (S_3 : Sta Z Z.heap "com/example/ringstead/ringstead/node/History$Type" "INFO" "Lcom/example/ringstead/ringstead/node/History$Type;" (.ref a2)) :
    MetFree l M_3 (head1 (Jvm.Cond.code M_3 method_2_code 2 (some (.object "com/example/ringstead/ringstead/node/History$Type")) :: ws) ({ frames := 0, cells := 0, slots := 0, locals := 0 } : Room)) (fun a U => a = #[(.int p1), (.int (503 : Int32))] ∧ Z.Warmed39 U.vm ∧ U.heap = h0) (fun _ _ _ _ _ => True) (fun _ U o U' => ∃ v L, o = .returned v ∧ Q3_44 Z p1 a2 h0 n0 v U'.heap L ∧ FrameEnd U o U' L ({ frames := 0, cells := 0, slots := 0, locals := 0 } : Room).cells ({ frames := 0, cells := 0, slots := 0, locals := 0 } : Room).slots) := by
  refine MetFree.of_bodySF (plainFor_of_name pn_2) hisR ?_
  intro p e s m args below meth c s₁ Bd hml0 hP hK
  obtain ⟨rfl, hZ, hh⟩ := hP
  have hx := Bd.exec
  have hby := Bd.bytes
  have hml : c.maxLocals = 2 := hml0
  have hown : s.vm.findClass "com/example/ringstead/ringstead/node/TypeOfPinLaw" = some m.cls := findClass_of_methodNamed Bd.named
  have hnm := (name_of_methodNamed Bd.named Bd.method).1
  have X0 : Stand p l e ({ frames := 0, cells := 0, slots := 0, locals := 0 } : Room) s m #[(.int p1), (.int (503 : Int32))] below meth c s₁ [] 0 0 := Stand.of_body Bd
  have e0 : s₁.heap = h0 := by rw [← hh, Bd.state]; rfl
  have N0 := Fr.nil n0
  have pre0 : ∀ t, Steps p.tables e below (s₁.setTop (mkF m 0 #[.val (.int p1), .val (.int (503 : Int32))] [])) t → Steps p.tables e below (s₁.setTop (entryFrame m #[(.int p1), (.int (503 : Int32))] 2)) t := fun t k => castTop (ef_rm3_44 m p1) k
  obtain ⟨T4, X4, e4, st4⟩ := getS2 X0 hx hZ hown (host := "") (Or.inl (hw _ (gw 33 rfl))) Via.refl e0 (Sta.ext O0.2 S_3) (g := (mkF m 83 #[.val (.int p1), .val (.int (503 : Int32))] [])) rfl (hb hby d3_83)
  obtain ⟨fs, hr, hrun, hended, hW, hsame⟩ := X4.leave (v := some (.ref a2)) (fun h => by rw [Bd.returns] at h; cases h)
  refine ⟨_, _, pre0 _ ?_, hrun, hended, _, _, rfl, ?_, ⟨_, rfl⟩, hW, hsame.mono (by decide) (by decide)⟩
  · show Steps p.tables e below (s₁.setTop (mkF m 0 #[.val (.int p1), .val (.int (503 : Int32))] [])) _
    refine XS.iloadN X0.here hx rfl (hb hby d3_0) rfl ?_
    show Steps p.tables e below (s₁.setTop (mkF m 1 #[.val (.int p1), .val (.int (503 : Int32))] [(.int (503 : Int32))])) _
    refine XS.sipush X0.here hx rfl (hb hby d3_1) ?_
    show Steps p.tables e below (s₁.setTop (mkF m 4 #[.val (.int p1), .val (.int (503 : Int32))] [(.int (204 : Int32)), (.int (503 : Int32))])) _
    refine XS.icmpYes X0.here hx rfl (pc0 := 4) (pc' := 22) rfl (hb hby d3_4) rfl (feq (by decide +kernel : ¬ ((503 : Int32) = (204 : Int32)))).2 (by decide) (by decide) ?_
    show Steps p.tables e below (s₁.setTop (mkF m 22 #[.val (.int p1), .val (.int (503 : Int32))] [])) _
    refine XS.iloadN X0.here hx rfl (hb hby d3_22) rfl ?_
    show Steps p.tables e below (s₁.setTop (mkF m 23 #[.val (.int p1), .val (.int (503 : Int32))] [(.int (503 : Int32))])) _
    refine XS.sipush X0.here hx rfl (hb hby d3_23) ?_
    show Steps p.tables e below (s₁.setTop (mkF m 26 #[.val (.int p1), .val (.int (503 : Int32))] [(.int (200 : Int32)), (.int (503 : Int32))])) _
    refine XS.icmpYes X0.here hx rfl (pc0 := 26) (pc' := 44) rfl (hb hby d3_26) rfl (feq (by decide +kernel : ¬ ((503 : Int32) = (200 : Int32)))).2 (by decide) (by decide) ?_
    show Steps p.tables e below (s₁.setTop (mkF m 44 #[.val (.int p1), .val (.int (503 : Int32))] [])) _
    refine XS.iloadN X0.here hx rfl (hb hby d3_44) rfl ?_
    show Steps p.tables e below (s₁.setTop (mkF m 45 #[.val (.int p1), .val (.int (503 : Int32))] [(.int (503 : Int32))])) _
    refine XS.sipush X0.here hx rfl (hb hby d3_45) ?_
    show Steps p.tables e below (s₁.setTop (mkF m 48 #[.val (.int p1), .val (.int (503 : Int32))] [(.int (404 : Int32)), (.int (503 : Int32))])) _
    refine XS.icmpYes X0.here hx rfl (pc0 := 48) (pc' := 65) rfl (hb hby d3_48) rfl (feq (by decide +kernel : ¬ ((503 : Int32) = (404 : Int32)))).2 (by decide) (by decide) ?_
    show Steps p.tables e below (s₁.setTop (mkF m 65 #[.val (.int p1), .val (.int (503 : Int32))] [])) _
    refine XS.iloadN X0.here hx rfl (hb hby d3_65) rfl ?_
    show Steps p.tables e below (s₁.setTop (mkF m 66 #[.val (.int p1), .val (.int (503 : Int32))] [(.int (503 : Int32))])) _
    refine XS.sipush X0.here hx rfl (hb hby d3_66) ?_
    show Steps p.tables e below (s₁.setTop (mkF m 69 #[.val (.int p1), .val (.int (503 : Int32))] [(.int (400 : Int32)), (.int (503 : Int32))])) _
    refine XS.icmpNo X0.here hx rfl (hb hby d3_69) rfl (feq (by decide +kernel : ¬ ((503 : Int32) = (400 : Int32)))).1 ?_
    show Steps p.tables e below (s₁.setTop (mkF m 72 #[.val (.int p1), .val (.int (503 : Int32))] [])) _
    refine XS.iloadN X0.here hx rfl (hb hby d3_72) rfl ?_
    show Steps p.tables e below (s₁.setTop (mkF m 73 #[.val (.int p1), .val (.int (503 : Int32))] [(.int (503 : Int32))])) _
    refine XS.sipush X0.here hx rfl (hb hby d3_73) ?_
    show Steps p.tables e below (s₁.setTop (mkF m 76 #[.val (.int p1), .val (.int (503 : Int32))] [(.int (413 : Int32)), (.int (503 : Int32))])) _
    refine XS.icmpYes X0.here hx rfl (pc0 := 76) (pc' := 83) rfl (hb hby d3_76) rfl (feq (by decide +kernel : ¬ ((503 : Int32) = (413 : Int32)))).2 (by decide) (by decide) ?_
    show Steps p.tables e below (s₁.setTop (mkF m 83 #[.val (.int p1), .val (.int (503 : Int32))] [])) _
    refine st4 _ ?_
    show Steps p.tables e below (T4.setTop (mkF m 86 #[.val (.int p1), .val (.int (503 : Int32))] [(.ref a2)])) _
    jvm_step X4.here [X4.here.top, hx, (hb hby d3_86), X4.method', Bd.returns, Value.isRef, FieldType.isReference]
    first | (intro acts; rw [hr _ acts rfl rfl rfl]) | rw [hr _ _ rfl rfl rfl]
    exact Steps.refl _
  · show Q3_44 Z _ _ h0 n0 _ T4.heap _
    rw [e4]
    exact ⟨rfl, N0, rfl⟩
theorem ef_rm1_45 (m : MethodId) (x0 : Addr) (x1 : Int32) : entryFrame m #[(.ref x0), (.int x1)] 4 = mkF m 0 #[.val (.ref x0), .val (.int x1), .unset, .unset] [] := by first | (simp [entryFrame, mkF, argsToLocals, Value.category]; done) | rfl
def Q1_45 (Z : State) (a1 : Addr) (p2 : Int32) (a11 : Addr) (a19 : Addr) (a25 : Addr) (h0 : Heap) (n0 : Nat) (v : Option Value) (h : Heap) (L : List Loc) : Prop := (p2 = (204 : Int32) ∧ v = some (.ref a11) ∧ Fr n0 L ∧ h = h0) ∨ (p2 = (404 : Int32) ∧ ¬ ((404 : Int32) = (204 : Int32)) ∧ v = some (.ref a11) ∧ Fr n0 L ∧ h = h0) ∨ (p2 = (400 : Int32) ∧ ¬ ((400 : Int32) = (204 : Int32)) ∧ ¬ ((400 : Int32) = (404 : Int32)) ∧ v = some (.ref a19) ∧ Fr n0 L ∧ h = h0) ∨ (p2 = (413 : Int32) ∧ ¬ ((413 : Int32) = (204 : Int32)) ∧ ¬ ((413 : Int32) = (404 : Int32)) ∧ ¬ ((413 : Int32) = (400 : Int32)) ∧ v = some (.ref a19) ∧ Fr n0 L ∧ h = h0) ∨ (¬ (p2 = (204 : Int32)) ∧ ¬ (p2 = (404 : Int32)) ∧ ¬ (p2 = (400 : Int32)) ∧ ¬ (p2 = (413 : Int32)) ∧ v = some (.ref a25) ∧ Fr n0 L ∧ h = h0)
set_option maxRecDepth 65536 in
set_option maxHeartbeats 40000000 in
theorem rm1_45 (l : Launch) (Z : State) (a0 : Array Value) (hw : ∀ d ∈ own_ws, d.before a0 Z = true) (ws : List Jvm.Cond) (a1 : Addr) (p2 : Int32) (a11 : Addr) (a19 : Addr) (a25 : Addr) (h0 : Heap) (n0 : Nat) (O0 : Old Z n0 h0) (E_3 : Exa Z Z.heap a1 "com/example/ringstead/ringstead/node/History$Operation") (F4 : Fld Z Z.heap a1 "java/lang/Enum" "ordinal" "I" (.int (2 : Int32))) (S_12 : Sta Z Z.heap "com/example/ringstead/ringstead/node/History$Type" "OK" "Lcom/example/ringstead/ringstead/node/History$Type;" (.ref a11)) (S_20 : Sta Z Z.heap "com/example/ringstead/ringstead/node/History$Type" "FAIL" "Lcom/example/ringstead/ringstead/node/History$Type;" (.ref a19)) (S_26 : Sta Z Z.heap "com/example/ringstead/ringstead/node/History$Type" "INFO" "Lcom/example/ringstead/ringstead/node/History$Type;" (.ref a25)) :
    MetFree l M_2 (head1 (Jvm.Cond.code M_2 prog_19_method_5_code 4 (some (.object "com/example/ringstead/ringstead/node/History$Type")) :: ws) ({ frames := 1, cells := 0, slots := 0, locals := 12 } : Room)) (fun a U => a = #[(.ref a1), (.int p2)] ∧ Z.Warmed39 U.vm ∧ U.heap = h0) (fun _ _ _ _ _ => True) (fun _ U o U' => ∃ v L, o = .returned v ∧ Q1_45 Z a1 p2 a11 a19 a25 h0 n0 v U'.heap L ∧ FrameEnd U o U' L ({ frames := 1, cells := 0, slots := 0, locals := 12 } : Room).cells ({ frames := 1, cells := 0, slots := 0, locals := 12 } : Room).slots) := by
  refine MetFree.of_bodySF (plainFor_of_name pn_1) hisR ?_
  intro p e s m args below meth c s₁ Bd hml0 hP hK
  obtain ⟨rfl, hZ, hh⟩ := hP
  have hx := Bd.exec
  have hby := Bd.bytes
  have hml : c.maxLocals = 4 := hml0
  have hown : s.vm.findClass "com/example/ringstead/ringstead/node/History$Type" = some m.cls := findClass_of_methodNamed Bd.named
  have hnm := (name_of_methodNamed Bd.named Bd.method).1
  have X0 : Stand p l e ({ frames := 1, cells := 0, slots := 0, locals := 12 } : Room) s m #[(.ref a1), (.int p2)] below meth c s₁ [] 0 0 := Stand.of_body Bd
  have e0 : s₁.heap = h0 := by rw [← hh, Bd.state]; rfl
  have N0 := Fr.nil n0
  have pre0 : ∀ t, Steps p.tables e below (s₁.setTop (mkF m 0 #[.val (.ref a1), .val (.int p2), .unset, .unset] [])) t → Steps p.tables e below (s₁.setTop (entryFrame m #[(.ref a1), (.int p2)] 4)) t := fun t k => castTop (ef_rm1_45 m a1 p2) k
  obtain ⟨cq5, kq5, q5a, q5b, q5c⟩ := isOf hZ e0 (Exa.ext O0.2 E_3)
  obtain ⟨_, _, ⟨T5, L5, k5, n5⟩, -, X5, ⟨Lc5, hQ5, l5, y5, z5⟩, st5⟩ := X0.virtualBackUp hx (owner := "java/lang/Enum") (x := M_1) (y := M_0) hown (mvT hZ (hw _ (gw 8 rfl))) (mvT hZ (hw _ (gw 9 rfl))) (mvT hZ (hw _ (gw 10 rfl))) (by decide) (mvT hZ (hw _ (gw 12 rfl))) (mvT hZ (hw _ (gw 11 rfl))) (backOf (W := 0) (rm2_33 l Z a0 hw [] a1 h0 n0  O0 F4) hZ (hw _ (gw 14 rfl)) (hw _ (gw 13 rfl)) (by decide) (by decide)) q5a q5c (g := (mkF m 1 #[.val (.ref a1), .val (.int p2), .unset, .unset] [(.ref a1)])) rfl (by rw [hml]; rfl) (Steps.refl _) (argsL := []) (rest := []) (lenOf pd_0 rfl) rfl (by show 2 * 0 + _ ≤ _; exact Nat.le_of_eq rfl) (hb hby d1_1) (fun _ _ => ⟨rfl, e0, (by decide : 0 + 0 ≤ _), (by decide : 0 + 0 ≤ _)⟩)
  dsimp only [Pt.U, Pt.locs, Pt.cells, Pt.slots] at X5 l5 y5 z5 st5 hQ5
  subst l5 y5 z5
  obtain ⟨rfl, u7, u8⟩ := hQ5
  have N5 := Fr.app N0 u7
  have pre9 : ∀ t, Steps p.tables e below (T5.setTop (mkF m 83 #[.val (.ref a1), .val (.int p2), .unset, .unset] [(.int (204 : Int32)), (.int p2)])) t → Steps p.tables e below (s₁.setTop (entryFrame m #[(.ref a1), (.int p2)] 4)) t := by
    intro t kt
    refine pre0 t ?_
    show Steps p.tables e below (s₁.setTop (mkF m 0 #[.val (.ref a1), .val (.int p2), .unset, .unset] [])) _
    refine XS.aloadN X0.here hx rfl (hb hby d1_0) rfl rfl ?_
    show Steps p.tables e below (s₁.setTop (mkF m 1 #[.val (.ref a1), .val (.int p2), .unset, .unset] [(.ref a1)])) _
    refine st5.trans ?_
    show Steps p.tables e below (T5.setTop (mkF m 4 #[.val (.ref a1), .val (.int p2), .unset, .unset] [(.int (2 : Int32))])) _
    refine XS.tswIn X5.here hx rfl (pc0 := 4) (pc' := 79) rfl (hb hby d1_4) rfl (by decide) (o := 75) rfl (by decide) (by decide) ?_
    show Steps p.tables e below (T5.setTop (mkF m 79 #[.val (.ref a1), .val (.int p2), .unset, .unset] [])) _
    refine XS.iloadN X5.here hx rfl (hb hby d1_79) rfl ?_
    show Steps p.tables e below (T5.setTop (mkF m 80 #[.val (.ref a1), .val (.int p2), .unset, .unset] [(.int p2)])) _
    refine XS.sipush X5.here hx rfl (hb hby d1_80) ?_
    exact kt
  by_cases hc10 : p2 = (204 : Int32)
  · skip
    subst hc10
    obtain ⟨T13, X13, e13, st13⟩ := getS2 X5 hx hZ hown (host := "") (Or.inl (hw _ (gw 28 rfl))) Via.refl u8 (Sta.ext O0.2 S_12) (g := (mkF m 103 #[.val (.ref a1), .val (.int (204 : Int32)), .val (.int (1 : Int32)), .unset] [])) rfl (hb hby d1_103)
    obtain ⟨fs, hr, hrun, hended, hW, hsame⟩ := X13.leave (v := some (.ref a11)) (fun h => by rw [Bd.returns] at h; cases h)
    refine ⟨_, _, pre9 _ ?_, hrun, hended, _, _, rfl, ?_, ⟨_, rfl⟩, hW, hsame.mono (by decide) (by decide)⟩
    · show Steps p.tables e below (T5.setTop (mkF m 83 #[.val (.ref a1), .val (.int (204 : Int32)), .unset, .unset] [(.int (204 : Int32)), (.int (204 : Int32))])) _
      refine XS.icmpYes X5.here hx rfl (pc0 := 83) (pc' := 93) rfl (hb hby d1_83) rfl (teq (by decide +kernel : (204 : Int32) = (204 : Int32))).1 (by decide) (by decide) ?_
      show Steps p.tables e below (T5.setTop (mkF m 93 #[.val (.ref a1), .val (.int (204 : Int32)), .unset, .unset] [])) _
      refine XS.iconst X5.here hx rfl (hb hby d1_93) ?_
      show Steps p.tables e below (T5.setTop (mkF m 94 #[.val (.ref a1), .val (.int (204 : Int32)), .unset, .unset] [(.int (1 : Int32))])) _
      refine XS.goto X5.here hx rfl (pc0 := 94) (pc' := 98) rfl (hb hby d1_94) (by decide) (by decide) ?_
      show Steps p.tables e below (T5.setTop (mkF m 98 #[.val (.ref a1), .val (.int (204 : Int32)), .unset, .unset] [(.int (1 : Int32))])) _
      refine XS.istoreN X5.here hx rfl (hb hby d1_98) rfl (l' := #[.val (.ref a1), .val (.int (204 : Int32)), .val (.int (1 : Int32)), .unset]) rfl ?_
      show Steps p.tables e below (T5.setTop (mkF m 99 #[.val (.ref a1), .val (.int (204 : Int32)), .val (.int (1 : Int32)), .unset] [])) _
      refine XS.iloadN X5.here hx rfl (hb hby d1_99) rfl ?_
      show Steps p.tables e below (T5.setTop (mkF m 100 #[.val (.ref a1), .val (.int (204 : Int32)), .val (.int (1 : Int32)), .unset] [(.int (1 : Int32))])) _
      refine XS.ifNo X5.here hx rfl (hb hby d1_100) rfl ((if0 _ _).trans (feq (by decide +kernel : ¬ ((1 : Int32) = (0 : Int32)))).1) ?_
      show Steps p.tables e below (T5.setTop (mkF m 103 #[.val (.ref a1), .val (.int (204 : Int32)), .val (.int (1 : Int32)), .unset] [])) _
      refine st13 _ ?_
      show Steps p.tables e below (T13.setTop (mkF m 106 #[.val (.ref a1), .val (.int (204 : Int32)), .val (.int (1 : Int32)), .unset] [(.ref a11)])) _
      refine XS.astoreN X13.here hx rfl (hb hby d1_106) rfl rfl (l' := #[.val (.ref a1), .val (.int (204 : Int32)), .val (.int (1 : Int32)), .val (.ref a11)]) rfl ?_
      show Steps p.tables e below (T13.setTop (mkF m 107 #[.val (.ref a1), .val (.int (204 : Int32)), .val (.int (1 : Int32)), .val (.ref a11)] [])) _
      refine XS.goto X13.here hx rfl (pc0 := 107) (pc' := 135) rfl (hb hby d1_107) (by decide) (by decide) ?_
      show Steps p.tables e below (T13.setTop (mkF m 135 #[.val (.ref a1), .val (.int (204 : Int32)), .val (.int (1 : Int32)), .val (.ref a11)] [])) _
      refine XS.aloadN X13.here hx rfl (hb hby d1_135) rfl rfl ?_
      show Steps p.tables e below (T13.setTop (mkF m 136 #[.val (.ref a1), .val (.int (204 : Int32)), .val (.int (1 : Int32)), .val (.ref a11)] [(.ref a11)])) _
      jvm_step X13.here [X13.here.top, hx, (hb hby d1_136), X13.method', Bd.returns, Value.isRef, FieldType.isReference]
      first | (intro acts; rw [hr _ acts rfl rfl rfl]) | rw [hr _ _ rfl rfl rfl]
      exact Steps.refl _
    · show Q1_45 Z _ _ _ _ _ h0 n0 _ T13.heap _
      rw [e13]
      exact Or.inl (⟨rfl, rfl, N5, rfl⟩)
  · skip
    have pre14 : ∀ t, Steps p.tables e below (T5.setTop (mkF m 90 #[.val (.ref a1), .val (.int p2), .unset, .unset] [(.int (404 : Int32)), (.int p2)])) t → Steps p.tables e below (s₁.setTop (entryFrame m #[(.ref a1), (.int p2)] 4)) t := by
      intro t kt
      refine pre9 t ?_
      show Steps p.tables e below (T5.setTop (mkF m 83 #[.val (.ref a1), .val (.int p2), .unset, .unset] [(.int (204 : Int32)), (.int p2)])) _
      refine XS.icmpNo X5.here hx rfl (hb hby d1_83) rfl (feq hc10).1 ?_
      show Steps p.tables e below (T5.setTop (mkF m 86 #[.val (.ref a1), .val (.int p2), .unset, .unset] [])) _
      refine XS.iloadN X5.here hx rfl (hb hby d1_86) rfl ?_
      show Steps p.tables e below (T5.setTop (mkF m 87 #[.val (.ref a1), .val (.int p2), .unset, .unset] [(.int p2)])) _
      refine XS.sipush X5.here hx rfl (hb hby d1_87) ?_
      exact kt
    by_cases hc15 : p2 = (404 : Int32)
    · skip
      subst hc15
      obtain ⟨T16, X16, e16, st16⟩ := getS2 X5 hx hZ hown (host := "") (Or.inl (hw _ (gw 28 rfl))) Via.refl u8 (Sta.ext O0.2 S_12) (g := (mkF m 103 #[.val (.ref a1), .val (.int (404 : Int32)), .val (.int (1 : Int32)), .unset] [])) rfl (hb hby d1_103)
      obtain ⟨fs, hr, hrun, hended, hW, hsame⟩ := X16.leave (v := some (.ref a11)) (fun h => by rw [Bd.returns] at h; cases h)
      refine ⟨_, _, pre14 _ ?_, hrun, hended, _, _, rfl, ?_, ⟨_, rfl⟩, hW, hsame.mono (by decide) (by decide)⟩
      · show Steps p.tables e below (T5.setTop (mkF m 90 #[.val (.ref a1), .val (.int (404 : Int32)), .unset, .unset] [(.int (404 : Int32)), (.int (404 : Int32))])) _
        refine XS.icmpNo X5.here hx rfl (hb hby d1_90) rfl (teq (by decide +kernel : (404 : Int32) = (404 : Int32))).2 ?_
        show Steps p.tables e below (T5.setTop (mkF m 93 #[.val (.ref a1), .val (.int (404 : Int32)), .unset, .unset] [])) _
        refine XS.iconst X5.here hx rfl (hb hby d1_93) ?_
        show Steps p.tables e below (T5.setTop (mkF m 94 #[.val (.ref a1), .val (.int (404 : Int32)), .unset, .unset] [(.int (1 : Int32))])) _
        refine XS.goto X5.here hx rfl (pc0 := 94) (pc' := 98) rfl (hb hby d1_94) (by decide) (by decide) ?_
        show Steps p.tables e below (T5.setTop (mkF m 98 #[.val (.ref a1), .val (.int (404 : Int32)), .unset, .unset] [(.int (1 : Int32))])) _
        refine XS.istoreN X5.here hx rfl (hb hby d1_98) rfl (l' := #[.val (.ref a1), .val (.int (404 : Int32)), .val (.int (1 : Int32)), .unset]) rfl ?_
        show Steps p.tables e below (T5.setTop (mkF m 99 #[.val (.ref a1), .val (.int (404 : Int32)), .val (.int (1 : Int32)), .unset] [])) _
        refine XS.iloadN X5.here hx rfl (hb hby d1_99) rfl ?_
        show Steps p.tables e below (T5.setTop (mkF m 100 #[.val (.ref a1), .val (.int (404 : Int32)), .val (.int (1 : Int32)), .unset] [(.int (1 : Int32))])) _
        refine XS.ifNo X5.here hx rfl (hb hby d1_100) rfl ((if0 _ _).trans (feq (by decide +kernel : ¬ ((1 : Int32) = (0 : Int32)))).1) ?_
        show Steps p.tables e below (T5.setTop (mkF m 103 #[.val (.ref a1), .val (.int (404 : Int32)), .val (.int (1 : Int32)), .unset] [])) _
        refine st16 _ ?_
        show Steps p.tables e below (T16.setTop (mkF m 106 #[.val (.ref a1), .val (.int (404 : Int32)), .val (.int (1 : Int32)), .unset] [(.ref a11)])) _
        refine XS.astoreN X16.here hx rfl (hb hby d1_106) rfl rfl (l' := #[.val (.ref a1), .val (.int (404 : Int32)), .val (.int (1 : Int32)), .val (.ref a11)]) rfl ?_
        show Steps p.tables e below (T16.setTop (mkF m 107 #[.val (.ref a1), .val (.int (404 : Int32)), .val (.int (1 : Int32)), .val (.ref a11)] [])) _
        refine XS.goto X16.here hx rfl (pc0 := 107) (pc' := 135) rfl (hb hby d1_107) (by decide) (by decide) ?_
        show Steps p.tables e below (T16.setTop (mkF m 135 #[.val (.ref a1), .val (.int (404 : Int32)), .val (.int (1 : Int32)), .val (.ref a11)] [])) _
        refine XS.aloadN X16.here hx rfl (hb hby d1_135) rfl rfl ?_
        show Steps p.tables e below (T16.setTop (mkF m 136 #[.val (.ref a1), .val (.int (404 : Int32)), .val (.int (1 : Int32)), .val (.ref a11)] [(.ref a11)])) _
        jvm_step X16.here [X16.here.top, hx, (hb hby d1_136), X16.method', Bd.returns, Value.isRef, FieldType.isReference]
        first | (intro acts; rw [hr _ acts rfl rfl rfl]) | rw [hr _ _ rfl rfl rfl]
        exact Steps.refl _
      · show Q1_45 Z _ _ _ _ _ h0 n0 _ T16.heap _
        rw [e16]
        exact Or.inr (Or.inl (⟨rfl, hc10, rfl, N5, rfl⟩))
    · skip
      have pre17 : ∀ t, Steps p.tables e below (T5.setTop (mkF m 114 #[.val (.ref a1), .val (.int p2), .val (.int (0 : Int32)), .unset] [(.int (400 : Int32)), (.int p2)])) t → Steps p.tables e below (s₁.setTop (entryFrame m #[(.ref a1), (.int p2)] 4)) t := by
        intro t kt
        refine pre14 t ?_
        show Steps p.tables e below (T5.setTop (mkF m 90 #[.val (.ref a1), .val (.int p2), .unset, .unset] [(.int (404 : Int32)), (.int p2)])) _
        refine XS.icmpYes X5.here hx rfl (pc0 := 90) (pc' := 97) rfl (hb hby d1_90) rfl (feq hc15).2 (by decide) (by decide) ?_
        show Steps p.tables e below (T5.setTop (mkF m 97 #[.val (.ref a1), .val (.int p2), .unset, .unset] [])) _
        refine XS.iconst X5.here hx rfl (hb hby d1_97) ?_
        show Steps p.tables e below (T5.setTop (mkF m 98 #[.val (.ref a1), .val (.int p2), .unset, .unset] [(.int (0 : Int32))])) _
        refine XS.istoreN X5.here hx rfl (hb hby d1_98) rfl (l' := #[.val (.ref a1), .val (.int p2), .val (.int (0 : Int32)), .unset]) rfl ?_
        show Steps p.tables e below (T5.setTop (mkF m 99 #[.val (.ref a1), .val (.int p2), .val (.int (0 : Int32)), .unset] [])) _
        refine XS.iloadN X5.here hx rfl (hb hby d1_99) rfl ?_
        show Steps p.tables e below (T5.setTop (mkF m 100 #[.val (.ref a1), .val (.int p2), .val (.int (0 : Int32)), .unset] [(.int (0 : Int32))])) _
        refine XS.ifYes X5.here hx rfl (pc0 := 100) (pc' := 110) rfl (hb hby d1_100) rfl ((if0 _ _).trans (teq (by decide +kernel : (0 : Int32) = (0 : Int32))).1) (by decide) (by decide) ?_
        show Steps p.tables e below (T5.setTop (mkF m 110 #[.val (.ref a1), .val (.int p2), .val (.int (0 : Int32)), .unset] [])) _
        refine XS.iloadN X5.here hx rfl (hb hby d1_110) rfl ?_
        show Steps p.tables e below (T5.setTop (mkF m 111 #[.val (.ref a1), .val (.int p2), .val (.int (0 : Int32)), .unset] [(.int p2)])) _
        refine XS.sipush X5.here hx rfl (hb hby d1_111) ?_
        exact kt
      by_cases hc18 : p2 = (400 : Int32)
      · skip
        subst hc18
        obtain ⟨T21, X21, e21, st21⟩ := getS2 X5 hx hZ hown (host := "") (Or.inl (hw _ (gw 17 rfl))) Via.refl u8 (Sta.ext O0.2 S_20) (g := (mkF m 124 #[.val (.ref a1), .val (.int (400 : Int32)), .val (.int (0 : Int32)), .unset] [])) rfl (hb hby d1_124)
        obtain ⟨fs, hr, hrun, hended, hW, hsame⟩ := X21.leave (v := some (.ref a19)) (fun h => by rw [Bd.returns] at h; cases h)
        refine ⟨_, _, pre17 _ ?_, hrun, hended, _, _, rfl, ?_, ⟨_, rfl⟩, hW, hsame.mono (by decide) (by decide)⟩
        · show Steps p.tables e below (T5.setTop (mkF m 114 #[.val (.ref a1), .val (.int (400 : Int32)), .val (.int (0 : Int32)), .unset] [(.int (400 : Int32)), (.int (400 : Int32))])) _
          refine XS.icmpYes X5.here hx rfl (pc0 := 114) (pc' := 124) rfl (hb hby d1_114) rfl (teq (by decide +kernel : (400 : Int32) = (400 : Int32))).1 (by decide) (by decide) ?_
          show Steps p.tables e below (T5.setTop (mkF m 124 #[.val (.ref a1), .val (.int (400 : Int32)), .val (.int (0 : Int32)), .unset] [])) _
          refine st21 _ ?_
          show Steps p.tables e below (T21.setTop (mkF m 127 #[.val (.ref a1), .val (.int (400 : Int32)), .val (.int (0 : Int32)), .unset] [(.ref a19)])) _
          refine XS.astoreN X21.here hx rfl (hb hby d1_127) rfl rfl (l' := #[.val (.ref a1), .val (.int (400 : Int32)), .val (.int (0 : Int32)), .val (.ref a19)]) rfl ?_
          show Steps p.tables e below (T21.setTop (mkF m 128 #[.val (.ref a1), .val (.int (400 : Int32)), .val (.int (0 : Int32)), .val (.ref a19)] [])) _
          refine XS.goto X21.here hx rfl (pc0 := 128) (pc' := 135) rfl (hb hby d1_128) (by decide) (by decide) ?_
          show Steps p.tables e below (T21.setTop (mkF m 135 #[.val (.ref a1), .val (.int (400 : Int32)), .val (.int (0 : Int32)), .val (.ref a19)] [])) _
          refine XS.aloadN X21.here hx rfl (hb hby d1_135) rfl rfl ?_
          show Steps p.tables e below (T21.setTop (mkF m 136 #[.val (.ref a1), .val (.int (400 : Int32)), .val (.int (0 : Int32)), .val (.ref a19)] [(.ref a19)])) _
          jvm_step X21.here [X21.here.top, hx, (hb hby d1_136), X21.method', Bd.returns, Value.isRef, FieldType.isReference]
          first | (intro acts; rw [hr _ acts rfl rfl rfl]) | rw [hr _ _ rfl rfl rfl]
          exact Steps.refl _
        · show Q1_45 Z _ _ _ _ _ h0 n0 _ T21.heap _
          rw [e21]
          exact Or.inr (Or.inr (Or.inl (⟨rfl, hc10, hc15, rfl, N5, rfl⟩)))
      · skip
        have pre22 : ∀ t, Steps p.tables e below (T5.setTop (mkF m 121 #[.val (.ref a1), .val (.int p2), .val (.int (0 : Int32)), .unset] [(.int (413 : Int32)), (.int p2)])) t → Steps p.tables e below (s₁.setTop (entryFrame m #[(.ref a1), (.int p2)] 4)) t := by
          intro t kt
          refine pre17 t ?_
          show Steps p.tables e below (T5.setTop (mkF m 114 #[.val (.ref a1), .val (.int p2), .val (.int (0 : Int32)), .unset] [(.int (400 : Int32)), (.int p2)])) _
          refine XS.icmpNo X5.here hx rfl (hb hby d1_114) rfl (feq hc18).1 ?_
          show Steps p.tables e below (T5.setTop (mkF m 117 #[.val (.ref a1), .val (.int p2), .val (.int (0 : Int32)), .unset] [])) _
          refine XS.iloadN X5.here hx rfl (hb hby d1_117) rfl ?_
          show Steps p.tables e below (T5.setTop (mkF m 118 #[.val (.ref a1), .val (.int p2), .val (.int (0 : Int32)), .unset] [(.int p2)])) _
          refine XS.sipush X5.here hx rfl (hb hby d1_118) ?_
          exact kt
        by_cases hc23 : p2 = (413 : Int32)
        · skip
          subst hc23
          obtain ⟨T24, X24, e24, st24⟩ := getS2 X5 hx hZ hown (host := "") (Or.inl (hw _ (gw 17 rfl))) Via.refl u8 (Sta.ext O0.2 S_20) (g := (mkF m 124 #[.val (.ref a1), .val (.int (413 : Int32)), .val (.int (0 : Int32)), .unset] [])) rfl (hb hby d1_124)
          obtain ⟨fs, hr, hrun, hended, hW, hsame⟩ := X24.leave (v := some (.ref a19)) (fun h => by rw [Bd.returns] at h; cases h)
          refine ⟨_, _, pre22 _ ?_, hrun, hended, _, _, rfl, ?_, ⟨_, rfl⟩, hW, hsame.mono (by decide) (by decide)⟩
          · show Steps p.tables e below (T5.setTop (mkF m 121 #[.val (.ref a1), .val (.int (413 : Int32)), .val (.int (0 : Int32)), .unset] [(.int (413 : Int32)), (.int (413 : Int32))])) _
            refine XS.icmpNo X5.here hx rfl (hb hby d1_121) rfl (teq (by decide +kernel : (413 : Int32) = (413 : Int32))).2 ?_
            show Steps p.tables e below (T5.setTop (mkF m 124 #[.val (.ref a1), .val (.int (413 : Int32)), .val (.int (0 : Int32)), .unset] [])) _
            refine st24 _ ?_
            show Steps p.tables e below (T24.setTop (mkF m 127 #[.val (.ref a1), .val (.int (413 : Int32)), .val (.int (0 : Int32)), .unset] [(.ref a19)])) _
            refine XS.astoreN X24.here hx rfl (hb hby d1_127) rfl rfl (l' := #[.val (.ref a1), .val (.int (413 : Int32)), .val (.int (0 : Int32)), .val (.ref a19)]) rfl ?_
            show Steps p.tables e below (T24.setTop (mkF m 128 #[.val (.ref a1), .val (.int (413 : Int32)), .val (.int (0 : Int32)), .val (.ref a19)] [])) _
            refine XS.goto X24.here hx rfl (pc0 := 128) (pc' := 135) rfl (hb hby d1_128) (by decide) (by decide) ?_
            show Steps p.tables e below (T24.setTop (mkF m 135 #[.val (.ref a1), .val (.int (413 : Int32)), .val (.int (0 : Int32)), .val (.ref a19)] [])) _
            refine XS.aloadN X24.here hx rfl (hb hby d1_135) rfl rfl ?_
            show Steps p.tables e below (T24.setTop (mkF m 136 #[.val (.ref a1), .val (.int (413 : Int32)), .val (.int (0 : Int32)), .val (.ref a19)] [(.ref a19)])) _
            jvm_step X24.here [X24.here.top, hx, (hb hby d1_136), X24.method', Bd.returns, Value.isRef, FieldType.isReference]
            first | (intro acts; rw [hr _ acts rfl rfl rfl]) | rw [hr _ _ rfl rfl rfl]
            exact Steps.refl _
          · show Q1_45 Z _ _ _ _ _ h0 n0 _ T24.heap _
            rw [e24]
            exact Or.inr (Or.inr (Or.inr (Or.inl (⟨rfl, hc10, hc15, hc18, rfl, N5, rfl⟩))))
        · skip
          obtain ⟨T27, X27, e27, st27⟩ := getS2 X5 hx hZ hown (host := "") (Or.inl (hw _ (gw 31 rfl))) Via.refl u8 (Sta.ext O0.2 S_26) (g := (mkF m 131 #[.val (.ref a1), .val (.int p2), .val (.int (0 : Int32)), .unset] [])) rfl (hb hby d1_131)
          obtain ⟨fs, hr, hrun, hended, hW, hsame⟩ := X27.leave (v := some (.ref a25)) (fun h => by rw [Bd.returns] at h; cases h)
          refine ⟨_, _, pre22 _ ?_, hrun, hended, _, _, rfl, ?_, ⟨_, rfl⟩, hW, hsame.mono (by decide) (by decide)⟩
          · show Steps p.tables e below (T5.setTop (mkF m 121 #[.val (.ref a1), .val (.int p2), .val (.int (0 : Int32)), .unset] [(.int (413 : Int32)), (.int p2)])) _
            refine XS.icmpYes X5.here hx rfl (pc0 := 121) (pc' := 131) rfl (hb hby d1_121) rfl (feq hc23).2 (by decide) (by decide) ?_
            show Steps p.tables e below (T5.setTop (mkF m 131 #[.val (.ref a1), .val (.int p2), .val (.int (0 : Int32)), .unset] [])) _
            refine st27 _ ?_
            show Steps p.tables e below (T27.setTop (mkF m 134 #[.val (.ref a1), .val (.int p2), .val (.int (0 : Int32)), .unset] [(.ref a25)])) _
            refine XS.astoreN X27.here hx rfl (hb hby d1_134) rfl rfl (l' := #[.val (.ref a1), .val (.int p2), .val (.int (0 : Int32)), .val (.ref a25)]) rfl ?_
            show Steps p.tables e below (T27.setTop (mkF m 135 #[.val (.ref a1), .val (.int p2), .val (.int (0 : Int32)), .val (.ref a25)] [])) _
            refine XS.aloadN X27.here hx rfl (hb hby d1_135) rfl rfl ?_
            show Steps p.tables e below (T27.setTop (mkF m 136 #[.val (.ref a1), .val (.int p2), .val (.int (0 : Int32)), .val (.ref a25)] [(.ref a25)])) _
            jvm_step X27.here [X27.here.top, hx, (hb hby d1_136), X27.method', Bd.returns, Value.isRef, FieldType.isReference]
            first | (intro acts; rw [hr _ acts rfl rfl rfl]) | rw [hr _ _ rfl rfl rfl]
            exact Steps.refl _
          · show Q1_45 Z _ _ _ _ _ h0 n0 _ T27.heap _
            rw [e27]
            exact Or.inr (Or.inr (Or.inr (Or.inr (⟨hc10, hc15, hc18, hc23, rfl, N5, rfl⟩))))
theorem ef_rm3_46 (m : MethodId) (x0 : Int32) (x1 : Int32) : entryFrame m #[(.int x0), (.int x1)] 2 = mkF m 0 #[.val (.int x0), .val (.int x1)] [] := by first | (simp [entryFrame, mkF, argsToLocals, Value.category]; done) | rfl
def Q3_46 (Z : State) (p1 : Int32) (p2 : Int32) (a7 : Addr) (h0 : Heap) (n0 : Nat) (v : Option Value) (h : Heap) (L : List Loc) : Prop := (p2 = (200 : Int32) ∧ v = some (.ref a7) ∧ Fr n0 L ∧ h = h0) ∨ (¬ (p2 = (200 : Int32)) ∧ v = some (.ref a7) ∧ Fr n0 L ∧ h = h0)
set_option maxRecDepth 65536 in
set_option maxHeartbeats 40000000 in
theorem rm3_46 (l : Launch) (Z : State) (a0 : Array Value) (hw : ∀ d ∈ own_ws, d.before a0 Z = true) (ws : List Jvm.Cond) (p1 : Int32) (p2 : Int32) (a7 : Addr) (h0 : Heap) (n0 : Nat) (O0 : Old Z n0 h0) (hk3 : ¬ (p2 = (204 : Int32))) (hk6 : ¬ (p1 = (1 : Int32))) (S_8 : Sta Z Z.heap "com/example/ringstead/ringstead/node/History$Type" "INFO" "Lcom/example/ringstead/ringstead/node/History$Type;" (.ref a7)) (hk10 : ¬ (p2 = (404 : Int32))) (hk11 : ¬ (p2 = (400 : Int32))) (hk12 : ¬ (p2 = (413 : Int32))) :
    MetFree l M_3 (head1 (Jvm.Cond.code M_3 method_2_code 2 (some (.object "com/example/ringstead/ringstead/node/History$Type")) :: ws) ({ frames := 0, cells := 0, slots := 0, locals := 0 } : Room)) (fun a U => a = #[(.int p1), (.int p2)] ∧ Z.Warmed39 U.vm ∧ U.heap = h0) (fun _ _ _ _ _ => True) (fun _ U o U' => ∃ v L, o = .returned v ∧ Q3_46 Z p1 p2 a7 h0 n0 v U'.heap L ∧ FrameEnd U o U' L ({ frames := 0, cells := 0, slots := 0, locals := 0 } : Room).cells ({ frames := 0, cells := 0, slots := 0, locals := 0 } : Room).slots) := by
  refine MetFree.of_bodySF (plainFor_of_name pn_2) hisR ?_
  intro p e s m args below meth c s₁ Bd hml0 hP hK
  obtain ⟨rfl, hZ, hh⟩ := hP
  have hx := Bd.exec
  have hby := Bd.bytes
  have hml : c.maxLocals = 2 := hml0
  have hown : s.vm.findClass "com/example/ringstead/ringstead/node/TypeOfPinLaw" = some m.cls := findClass_of_methodNamed Bd.named
  have hnm := (name_of_methodNamed Bd.named Bd.method).1
  have X0 : Stand p l e ({ frames := 0, cells := 0, slots := 0, locals := 0 } : Room) s m #[(.int p1), (.int p2)] below meth c s₁ [] 0 0 := Stand.of_body Bd
  have e0 : s₁.heap = h0 := by rw [← hh, Bd.state]; rfl
  have N0 := Fr.nil n0
  have pre0 : ∀ t, Steps p.tables e below (s₁.setTop (mkF m 0 #[.val (.int p1), .val (.int p2)] [])) t → Steps p.tables e below (s₁.setTop (entryFrame m #[(.int p1), (.int p2)] 2)) t := fun t k => castTop (ef_rm3_46 m p1 p2) k
  have pre4 : ∀ t, Steps p.tables e below (s₁.setTop (mkF m 26 #[.val (.int p1), .val (.int p2)] [(.int (200 : Int32)), (.int p2)])) t → Steps p.tables e below (s₁.setTop (entryFrame m #[(.int p1), (.int p2)] 2)) t := by
    intro t kt
    refine pre0 t ?_
    show Steps p.tables e below (s₁.setTop (mkF m 0 #[.val (.int p1), .val (.int p2)] [])) _
    refine XS.iloadN X0.here hx rfl (hb hby d3_0) rfl ?_
    show Steps p.tables e below (s₁.setTop (mkF m 1 #[.val (.int p1), .val (.int p2)] [(.int p2)])) _
    refine XS.sipush X0.here hx rfl (hb hby d3_1) ?_
    show Steps p.tables e below (s₁.setTop (mkF m 4 #[.val (.int p1), .val (.int p2)] [(.int (204 : Int32)), (.int p2)])) _
    refine XS.icmpYes X0.here hx rfl (pc0 := 4) (pc' := 22) rfl (hb hby d3_4) rfl (feq hk3).2 (by decide) (by decide) ?_
    show Steps p.tables e below (s₁.setTop (mkF m 22 #[.val (.int p1), .val (.int p2)] [])) _
    refine XS.iloadN X0.here hx rfl (hb hby d3_22) rfl ?_
    show Steps p.tables e below (s₁.setTop (mkF m 23 #[.val (.int p1), .val (.int p2)] [(.int p2)])) _
    refine XS.sipush X0.here hx rfl (hb hby d3_23) ?_
    exact kt
  by_cases hc5 : p2 = (200 : Int32)
  · skip
    subst hc5
    obtain ⟨T9, X9, e9, st9⟩ := getS2 X0 hx hZ hown (host := "") (Or.inl (hw _ (gw 33 rfl))) Via.refl e0 (Sta.ext O0.2 S_8) (g := (mkF m 40 #[.val (.int p1), .val (.int (200 : Int32))] [])) rfl (hb hby d3_40)
    obtain ⟨fs, hr, hrun, hended, hW, hsame⟩ := X9.leave (v := some (.ref a7)) (fun h => by rw [Bd.returns] at h; cases h)
    refine ⟨_, _, pre4 _ ?_, hrun, hended, _, _, rfl, ?_, ⟨_, rfl⟩, hW, hsame.mono (by decide) (by decide)⟩
    · show Steps p.tables e below (s₁.setTop (mkF m 26 #[.val (.int p1), .val (.int (200 : Int32))] [(.int (200 : Int32)), (.int (200 : Int32))])) _
      refine XS.icmpNo X0.here hx rfl (hb hby d3_26) rfl (teq (by decide +kernel : (200 : Int32) = (200 : Int32))).2 ?_
      show Steps p.tables e below (s₁.setTop (mkF m 29 #[.val (.int p1), .val (.int (200 : Int32))] [])) _
      refine XS.iloadN X0.here hx rfl (hb hby d3_29) rfl ?_
      show Steps p.tables e below (s₁.setTop (mkF m 30 #[.val (.int p1), .val (.int (200 : Int32))] [(.int p1)])) _
      refine XS.iconst X0.here hx rfl (hb hby d3_30) ?_
      show Steps p.tables e below (s₁.setTop (mkF m 31 #[.val (.int p1), .val (.int (200 : Int32))] [(.int (1 : Int32)), (.int p1)])) _
      refine XS.icmpYes X0.here hx rfl (pc0 := 31) (pc' := 40) rfl (hb hby d3_31) rfl (feq hk6).2 (by decide) (by decide) ?_
      show Steps p.tables e below (s₁.setTop (mkF m 40 #[.val (.int p1), .val (.int (200 : Int32))] [])) _
      refine st9 _ ?_
      show Steps p.tables e below (T9.setTop (mkF m 43 #[.val (.int p1), .val (.int (200 : Int32))] [(.ref a7)])) _
      jvm_step X9.here [X9.here.top, hx, (hb hby d3_43), X9.method', Bd.returns, Value.isRef, FieldType.isReference]
      first | (intro acts; rw [hr _ acts rfl rfl rfl]) | rw [hr _ _ rfl rfl rfl]
      exact Steps.refl _
    · show Q3_46 Z _ _ _ h0 n0 _ T9.heap _
      rw [e9]
      exact Or.inl (⟨rfl, rfl, N0, rfl⟩)
  · skip
    obtain ⟨T13, X13, e13, st13⟩ := getS2 X0 hx hZ hown (host := "") (Or.inl (hw _ (gw 33 rfl))) Via.refl e0 (Sta.ext O0.2 S_8) (g := (mkF m 83 #[.val (.int p1), .val (.int p2)] [])) rfl (hb hby d3_83)
    obtain ⟨fs, hr, hrun, hended, hW, hsame⟩ := X13.leave (v := some (.ref a7)) (fun h => by rw [Bd.returns] at h; cases h)
    refine ⟨_, _, pre4 _ ?_, hrun, hended, _, _, rfl, ?_, ⟨_, rfl⟩, hW, hsame.mono (by decide) (by decide)⟩
    · show Steps p.tables e below (s₁.setTop (mkF m 26 #[.val (.int p1), .val (.int p2)] [(.int (200 : Int32)), (.int p2)])) _
      refine XS.icmpYes X0.here hx rfl (pc0 := 26) (pc' := 44) rfl (hb hby d3_26) rfl (feq hc5).2 (by decide) (by decide) ?_
      show Steps p.tables e below (s₁.setTop (mkF m 44 #[.val (.int p1), .val (.int p2)] [])) _
      refine XS.iloadN X0.here hx rfl (hb hby d3_44) rfl ?_
      show Steps p.tables e below (s₁.setTop (mkF m 45 #[.val (.int p1), .val (.int p2)] [(.int p2)])) _
      refine XS.sipush X0.here hx rfl (hb hby d3_45) ?_
      show Steps p.tables e below (s₁.setTop (mkF m 48 #[.val (.int p1), .val (.int p2)] [(.int (404 : Int32)), (.int p2)])) _
      refine XS.icmpYes X0.here hx rfl (pc0 := 48) (pc' := 65) rfl (hb hby d3_48) rfl (feq hk10).2 (by decide) (by decide) ?_
      show Steps p.tables e below (s₁.setTop (mkF m 65 #[.val (.int p1), .val (.int p2)] [])) _
      refine XS.iloadN X0.here hx rfl (hb hby d3_65) rfl ?_
      show Steps p.tables e below (s₁.setTop (mkF m 66 #[.val (.int p1), .val (.int p2)] [(.int p2)])) _
      refine XS.sipush X0.here hx rfl (hb hby d3_66) ?_
      show Steps p.tables e below (s₁.setTop (mkF m 69 #[.val (.int p1), .val (.int p2)] [(.int (400 : Int32)), (.int p2)])) _
      refine XS.icmpNo X0.here hx rfl (hb hby d3_69) rfl (feq hk11).1 ?_
      show Steps p.tables e below (s₁.setTop (mkF m 72 #[.val (.int p1), .val (.int p2)] [])) _
      refine XS.iloadN X0.here hx rfl (hb hby d3_72) rfl ?_
      show Steps p.tables e below (s₁.setTop (mkF m 73 #[.val (.int p1), .val (.int p2)] [(.int p2)])) _
      refine XS.sipush X0.here hx rfl (hb hby d3_73) ?_
      show Steps p.tables e below (s₁.setTop (mkF m 76 #[.val (.int p1), .val (.int p2)] [(.int (413 : Int32)), (.int p2)])) _
      refine XS.icmpYes X0.here hx rfl (pc0 := 76) (pc' := 83) rfl (hb hby d3_76) rfl (feq hk12).2 (by decide) (by decide) ?_
      show Steps p.tables e below (s₁.setTop (mkF m 83 #[.val (.int p1), .val (.int p2)] [])) _
      refine st13 _ ?_
      show Steps p.tables e below (T13.setTop (mkF m 86 #[.val (.int p1), .val (.int p2)] [(.ref a7)])) _
      jvm_step X13.here [X13.here.top, hx, (hb hby d3_86), X13.method', Bd.returns, Value.isRef, FieldType.isReference]
      first | (intro acts; rw [hr _ acts rfl rfl rfl]) | rw [hr _ _ rfl rfl rfl]
      exact Steps.refl _
    · show Q3_46 Z _ _ _ h0 n0 _ T13.heap _
      rw [e13]
      exact Or.inr (⟨hc5, rfl, N0, rfl⟩)
theorem ef_rm0 (m : MethodId) (x0 : Int32) (x1 : Int32) (x2 : Int32) : entryFrame m #[(.int x0), (.int x1), (.int x2)] maxLocals = mkF m 0 #[.val (.int x0), .val (.int x1), .val (.int x2), .unset, .unset, .unset, .unset, .unset] [] := by first | (simp [entryFrame, mkF, argsToLocals, Value.category, maxLocals]; done) | rfl
def Q0 (Z : State) (p1 : Int32) (p2 : Int32) (p3 : Int32) (a8 : Addr) (a16 : Addr) (a28 : Addr) (a50 : Addr) (a138 : Addr) (a266 : Addr) (h0 : Heap) (n0 : Nat) (v : Option Value) (h : Heap) (L : List Loc) : Prop := v = some (.int 1) ∧ Fr n0 L
set_option maxRecDepth 65536 in
set_option maxHeartbeats 40000000 in
theorem rm0 (l : Launch) (Z : State) (a0 : Array Value) (hw : ∀ d ∈ own_ws, d.before a0 Z = true) (ws : List Jvm.Cond) (p1 : Int32) (p2 : Int32) (p3 : Int32) (a8 : Addr) (a16 : Addr) (a28 : Addr) (a50 : Addr) (a138 : Addr) (a266 : Addr) (h0 : Heap) (n0 : Nat) (O0 : Old Z n0 h0) (S_9 : Sta Z Z.heap "com/example/ringstead/ringstead/node/History$Operation" "PUT" "Lcom/example/ringstead/ringstead/node/History$Operation;" (.ref a8)) (E_14 : Exa Z Z.heap a8 "com/example/ringstead/ringstead/node/History$Operation") (F15 : Fld Z Z.heap a8 "java/lang/Enum" "ordinal" "I" (.int (0 : Int32))) (S_17 : Sta Z Z.heap "com/example/ringstead/ringstead/node/History$Type" "INFO" "Lcom/example/ringstead/ringstead/node/History$Type;" (.ref a16)) (S_29 : Sta Z Z.heap "com/example/ringstead/ringstead/node/History$Type" "OK" "Lcom/example/ringstead/ringstead/node/History$Type;" (.ref a28)) (S_51 : Sta Z Z.heap "com/example/ringstead/ringstead/node/History$Type" "FAIL" "Lcom/example/ringstead/ringstead/node/History$Type;" (.ref a50)) (S_139 : Sta Z Z.heap "com/example/ringstead/ringstead/node/History$Operation" "GET" "Lcom/example/ringstead/ringstead/node/History$Operation;" (.ref a138)) (E_144 : Exa Z Z.heap a138 "com/example/ringstead/ringstead/node/History$Operation") (F145 : Fld Z Z.heap a138 "java/lang/Enum" "ordinal" "I" (.int (1 : Int32))) (S_267 : Sta Z Z.heap "com/example/ringstead/ringstead/node/History$Operation" "DELETE" "Lcom/example/ringstead/ringstead/node/History$Operation;" (.ref a266)) (E_272 : Exa Z Z.heap a266 "com/example/ringstead/ringstead/node/History$Operation") (F273 : Fld Z Z.heap a266 "java/lang/Enum" "ordinal" "I" (.int (2 : Int32))) :
    MetFree l x (head1 (Jvm.Cond.code x code maxLocals ret :: ws) room_1) (fun a U => a = #[(.int p1), (.int p2), (.int p3)] ∧ Z.Warmed39 U.vm ∧ U.heap = h0) (fun _ _ _ _ _ => True) (fun _ U o U' => ∃ v L, o = .returned v ∧ Q0 Z p1 p2 p3 a8 a16 a28 a50 a138 a266 h0 n0 v U'.heap L ∧ FrameEnd U o U' L room_1.cells room_1.slots) := by
  refine MetFree.of_bodySF (plainFor_of_name pn_2) hisR ?_
  intro p e s m args below meth c s₁ Bd hml0 hP hK
  obtain ⟨rfl, hZ, hh⟩ := hP
  have hx := Bd.exec
  have hby := Bd.bytes
  have hml : c.maxLocals = 8 := hml0
  have hown : s.vm.findClass "com/example/ringstead/ringstead/node/TypeOfPinLaw" = some m.cls := findClass_of_methodNamed Bd.named
  have hnm := (name_of_methodNamed Bd.named Bd.method).1
  have X0 : Stand p l e room_1 s m #[(.int p1), (.int p2), (.int p3)] below meth c s₁ [] 0 0 := Stand.of_body Bd
  have e0 : s₁.heap = h0 := by rw [← hh, Bd.state]; rfl
  have N0 := Fr.nil n0
  have pre0 : ∀ t, Steps p.tables e below (s₁.setTop (mkF m 0 #[.val (.int p1), .val (.int p2), .val (.int p3), .unset, .unset, .unset, .unset, .unset] [])) t → Steps p.tables e below (s₁.setTop (entryFrame m #[(.int p1), (.int p2), (.int p3)] maxLocals)) t := fun t k => castTop (ef_rm0 m p1 p2 p3) k
  obtain ⟨i4, hi4⟩ : ∃ z, z = (p1 &&& (2147483647 : Int32)) := ⟨_, rfl⟩
  obtain ⟨i5, hi5⟩ : ∃ z, z = (i4 % (3 : Int32)) := ⟨_, rfl⟩
  have pre6 : ∀ t, Steps p.tables e below (s₁.setTop (mkF m 8 #[.val (.int p1), .val (.int p2), .val (.int p3), .val (.int i5), .unset, .unset, .unset, .unset] [(.int i5)])) t → Steps p.tables e below (s₁.setTop (entryFrame m #[(.int p1), (.int p2), (.int p3)] maxLocals)) t := by
    intro t kt
    refine pre0 t ?_
    show Steps p.tables e below (s₁.setTop (mkF m 0 #[.val (.int p1), .val (.int p2), .val (.int p3), .unset, .unset, .unset, .unset, .unset] [])) _
    refine XS.iloadN X0.here hx rfl (hb hby at_0) rfl ?_
    show Steps p.tables e below (s₁.setTop (mkF m 1 #[.val (.int p1), .val (.int p2), .val (.int p3), .unset, .unset, .unset, .unset, .unset] [(.int p1)])) _
    refine X0.ldcInt hx hown (mvT hZ (hw _ (gw 0 rfl))) (g := (mkF m 1 #[.val (.int p1), .val (.int p2), .val (.int p3), .unset, .unset, .unset, .unset, .unset] [(.int p1)])) rfl (hb hby at_1) _ ?_
    show Steps p.tables e below (s₁.setTop (mkF m 3 #[.val (.int p1), .val (.int p2), .val (.int p3), .unset, .unset, .unset, .unset, .unset] [(.int (2147483647 : Int32)), (.int p1)])) _
    refine XS.iand X0.here hx rfl (hb hby at_3) rfl ?_
    show Steps p.tables e below (s₁.setTop (mkF m 4 #[.val (.int p1), .val (.int p2), .val (.int p3), .unset, .unset, .unset, .unset, .unset] [(.int (p1 &&& (2147483647 : Int32)))])) _
    rw [← hi4]
    show Steps p.tables e below (s₁.setTop (mkF m 4 #[.val (.int p1), .val (.int p2), .val (.int p3), .unset, .unset, .unset, .unset, .unset] [(.int i4)])) _
    refine XS.iconst X0.here hx rfl (hb hby at_4) ?_
    show Steps p.tables e below (s₁.setTop (mkF m 5 #[.val (.int p1), .val (.int p2), .val (.int p3), .unset, .unset, .unset, .unset, .unset] [(.int (3 : Int32)), (.int i4)])) _
    refine Jvm.RoadKit.iremM (g := (mkF m 5 #[.val (.int p1), .val (.int p2), .val (.int p3), .unset, .unset, .unset, .unset, .unset] [(.int (3 : Int32)), (.int i4)])) X0 hx rfl (hb hby at_5) rfl (by decide +kernel : ¬ ((3 : Int32) = (0 : Int32))) ?_
    show Steps p.tables e below (s₁.setTop (mkF m 6 #[.val (.int p1), .val (.int p2), .val (.int p3), .unset, .unset, .unset, .unset, .unset] [(.int (i4 % (3 : Int32)))])) _
    rw [← hi5]
    show Steps p.tables e below (s₁.setTop (mkF m 6 #[.val (.int p1), .val (.int p2), .val (.int p3), .unset, .unset, .unset, .unset, .unset] [(.int i5)])) _
    refine XS.istoreN X0.here hx rfl (hb hby at_6) rfl (l' := #[.val (.int p1), .val (.int p2), .val (.int p3), .val (.int i5), .unset, .unset, .unset, .unset]) rfl ?_
    show Steps p.tables e below (s₁.setTop (mkF m 7 #[.val (.int p1), .val (.int p2), .val (.int p3), .val (.int i5), .unset, .unset, .unset, .unset] [])) _
    refine XS.iloadN X0.here hx rfl (hb hby at_7) rfl ?_
    exact kt
  by_cases hc7 : i5 = (0 : Int32)
  · skip
    subst hc7
    obtain ⟨T10, X10, e10, st10⟩ := getS2 X0 hx hZ hown (host := "") (Or.inl (hw _ (gw 1 rfl))) Via.refl e0 (Sta.ext O0.2 S_9) (g := (mkF m 11 #[.val (.int p1), .val (.int p2), .val (.int p3), .val (.int (0 : Int32)), .unset, .unset, .unset, .unset] [])) rfl (hb hby at_11)
    obtain ⟨i11, hi11⟩ : ∃ z, z = (p2 &&& (7 : Int32)) := ⟨_, rfl⟩
    have pre12 : ∀ t, Steps p.tables e below (T10.setTop (mkF m 41 #[.val (.int p1), .val (.int p2), .val (.int p3), .val (.int (0 : Int32)), .val (.ref a8), .val (.int i11), .unset, .unset] [(.int i11)])) t → Steps p.tables e below (s₁.setTop (entryFrame m #[(.int p1), (.int p2), (.int p3)] maxLocals)) t := by
      intro t kt
      refine pre6 t ?_
      show Steps p.tables e below (s₁.setTop (mkF m 8 #[.val (.int p1), .val (.int p2), .val (.int p3), .val (.int (0 : Int32)), .unset, .unset, .unset, .unset] [(.int (0 : Int32))])) _
      refine XS.ifNo X0.here hx rfl (hb hby at_8) rfl ((if0 _ _).trans (teq (by decide +kernel : (0 : Int32) = (0 : Int32))).2) ?_
      show Steps p.tables e below (s₁.setTop (mkF m 11 #[.val (.int p1), .val (.int p2), .val (.int p3), .val (.int (0 : Int32)), .unset, .unset, .unset, .unset] [])) _
      refine st10 _ ?_
      show Steps p.tables e below (T10.setTop (mkF m 14 #[.val (.int p1), .val (.int p2), .val (.int p3), .val (.int (0 : Int32)), .unset, .unset, .unset, .unset] [(.ref a8)])) _
      refine XS.goto X10.here hx rfl (pc0 := 14) (pc' := 31) rfl (hb hby at_14) (by decide) (by decide) ?_
      show Steps p.tables e below (T10.setTop (mkF m 31 #[.val (.int p1), .val (.int p2), .val (.int p3), .val (.int (0 : Int32)), .unset, .unset, .unset, .unset] [(.ref a8)])) _
      refine XS.astore X10.here hx rfl (hb hby at_31) rfl rfl (l' := #[.val (.int p1), .val (.int p2), .val (.int p3), .val (.int (0 : Int32)), .val (.ref a8), .unset, .unset, .unset]) rfl ?_
      show Steps p.tables e below (T10.setTop (mkF m 33 #[.val (.int p1), .val (.int p2), .val (.int p3), .val (.int (0 : Int32)), .val (.ref a8), .unset, .unset, .unset] [])) _
      refine XS.iloadN X10.here hx rfl (hb hby at_33) rfl ?_
      show Steps p.tables e below (T10.setTop (mkF m 34 #[.val (.int p1), .val (.int p2), .val (.int p3), .val (.int (0 : Int32)), .val (.ref a8), .unset, .unset, .unset] [(.int p2)])) _
      refine XS.bipush X10.here hx rfl (hb hby at_34) ?_
      show Steps p.tables e below (T10.setTop (mkF m 36 #[.val (.int p1), .val (.int p2), .val (.int p3), .val (.int (0 : Int32)), .val (.ref a8), .unset, .unset, .unset] [(.int (7 : Int32)), (.int p2)])) _
      refine XS.iand X10.here hx rfl (hb hby at_36) rfl ?_
      show Steps p.tables e below (T10.setTop (mkF m 37 #[.val (.int p1), .val (.int p2), .val (.int p3), .val (.int (0 : Int32)), .val (.ref a8), .unset, .unset, .unset] [(.int (p2 &&& (7 : Int32)))])) _
      rw [← hi11]
      show Steps p.tables e below (T10.setTop (mkF m 37 #[.val (.int p1), .val (.int p2), .val (.int p3), .val (.int (0 : Int32)), .val (.ref a8), .unset, .unset, .unset] [(.int i11)])) _
      refine XS.istore X10.here hx rfl (hb hby at_37) rfl (l' := #[.val (.int p1), .val (.int p2), .val (.int p3), .val (.int (0 : Int32)), .val (.ref a8), .val (.int i11), .unset, .unset]) rfl ?_
      show Steps p.tables e below (T10.setTop (mkF m 39 #[.val (.int p1), .val (.int p2), .val (.int p3), .val (.int (0 : Int32)), .val (.ref a8), .val (.int i11), .unset, .unset] [])) _
      refine XS.iload X10.here hx rfl (hb hby at_39) rfl ?_
      exact kt
    by_cases hc13 : i11 = (0 : Int32)
    · skip
      subst hc13
      obtain ⟨_, _, ⟨T18, L18, k18, n18⟩, -, X18, ⟨Lc18, hQ18, l18, y18, z18⟩, st18⟩ := Jvm.LawKit.callS X10 hx (y := M_2) hown (mvT hZ (hw _ (gw 4 rfl))) (mvT hZ (hw _ (gw 5 rfl))) (mvT hZ (hw _ (gw 6 rfl))) (mvT hZ (hw _ (gw 7 rfl))) (by decide) (backOf (W := 0) (rm1_2 l Z a0 hw [] a8 a16 h0 n0  O0 E_14 F15 S_17) hZ (hw _ (gw 7 rfl)) (hw _ (gw 6 rfl)) (by decide) (by decide)) (g := (mkF m 129 #[.val (.int p1), .val (.int p2), .val (.int p3), .val (.int (0 : Int32)), .val (.ref a8), .val (.int (0 : Int32)), .val (.int (200 : Int32)), .unset] [(.int (200 : Int32)), (.ref a8)])) rfl (by rw [hml]; rfl) (argsL := [(.ref a8), (.int (200 : Int32))]) (rest := []) (lenOf pd_1 rfl) rfl (by show 2 * 0 + _ ≤ _; exact Nat.le_of_eq rfl) (hb hby at_129) (fun _ _ => ⟨rfl, e10, (by decide : 0 + 0 ≤ _), (by decide : 0 + 0 ≤ _)⟩)
      dsimp only [Pt.U, Pt.locs, Pt.cells, Pt.slots] at X18 l18 y18 z18 st18 hQ18
      subst l18 y18 z18
      obtain ⟨rfl, u20, u21⟩ := hQ18
      have N18 := Fr.app N0 u20
      obtain ⟨_, _, ⟨T22, L22, k22, n22⟩, -, X22, ⟨Lc22, hQ22, l22, y22, z22⟩, st22⟩ := Jvm.LawKit.callS X18 hx (y := M_3) hown (mvT hZ (hw _ (gw 19 rfl))) (mvT hZ (hw _ (gw 20 rfl))) (mvT hZ (hw _ (gw 21 rfl))) (mvT hZ (hw _ (gw 22 rfl))) (by decide) (backOf (W := 1) (rm3_4 l Z a0 hw [] a16 h0 n0  O0 S_17) hZ (hw _ (gw 22 rfl)) (hw _ (gw 21 rfl)) (by decide) (by decide)) (g := (mkF m 139 #[.val (.int p1), .val (.int p2), .val (.int p3), .val (.int (0 : Int32)), .val (.ref a8), .val (.int (0 : Int32)), .val (.int (200 : Int32)), .val (.ref a16)] [(.int (200 : Int32)), (.int (0 : Int32)), (.ref a16)])) rfl (by rw [hml]; rfl) (argsL := [(.int (0 : Int32)), (.int (200 : Int32))]) (rest := [(.ref a16)]) (lenOf pd_2 rfl) rfl (by show 2 * 0 + _ ≤ _; exact Nat.le_of_eq rfl) (hb hby at_139) (fun _ _ => ⟨rfl, u21, (by decide : 0 + 0 ≤ _), (by decide : 0 + 0 ≤ _)⟩)
      dsimp only [Pt.U, Pt.locs, Pt.cells, Pt.slots] at X22 l22 y22 z22 st22 hQ22
      subst l22 y22 z22
      obtain ⟨rfl, u24, u25⟩ := hQ22
      have N22 := Fr.app N18 u24
      obtain ⟨fs, hr, hrun, hended, hW, hsame⟩ := X22.leave (v := some (.int (1 : Int32))) (fun h => by rw [Bd.returns] at h; cases h)
      refine ⟨_, _, pre12 _ ?_, hrun, hended, _, _, rfl, ?_, ⟨_, rfl⟩, hW, hsame.mono (by decide) (by decide)⟩
      · show Steps p.tables e below (T10.setTop (mkF m 41 #[.val (.int p1), .val (.int p2), .val (.int p3), .val (.int (0 : Int32)), .val (.ref a8), .val (.int (0 : Int32)), .unset, .unset] [(.int (0 : Int32))])) _
        refine XS.ifNo X10.here hx rfl (hb hby at_41) rfl ((if0 _ _).trans (teq (by decide +kernel : (0 : Int32) = (0 : Int32))).2) ?_
        show Steps p.tables e below (T10.setTop (mkF m 44 #[.val (.int p1), .val (.int p2), .val (.int p3), .val (.int (0 : Int32)), .val (.ref a8), .val (.int (0 : Int32)), .unset, .unset] [])) _
        refine XS.sipush X10.here hx rfl (hb hby at_44) ?_
        show Steps p.tables e below (T10.setTop (mkF m 47 #[.val (.int p1), .val (.int p2), .val (.int p3), .val (.int (0 : Int32)), .val (.ref a8), .val (.int (0 : Int32)), .unset, .unset] [(.int (200 : Int32))])) _
        refine XS.istore X10.here hx rfl (hb hby at_47) rfl (l' := #[.val (.int p1), .val (.int p2), .val (.int p3), .val (.int (0 : Int32)), .val (.ref a8), .val (.int (0 : Int32)), .val (.int (200 : Int32)), .unset]) rfl ?_
        show Steps p.tables e below (T10.setTop (mkF m 49 #[.val (.int p1), .val (.int p2), .val (.int p3), .val (.int (0 : Int32)), .val (.ref a8), .val (.int (0 : Int32)), .val (.int (200 : Int32)), .unset] [])) _
        refine XS.goto X10.here hx rfl (pc0 := 49) (pc' := 125) rfl (hb hby at_49) (by decide) (by decide) ?_
        show Steps p.tables e below (T10.setTop (mkF m 125 #[.val (.int p1), .val (.int p2), .val (.int p3), .val (.int (0 : Int32)), .val (.ref a8), .val (.int (0 : Int32)), .val (.int (200 : Int32)), .unset] [])) _
        refine XS.aload X10.here hx rfl (hb hby at_125) rfl rfl ?_
        show Steps p.tables e below (T10.setTop (mkF m 127 #[.val (.int p1), .val (.int p2), .val (.int p3), .val (.int (0 : Int32)), .val (.ref a8), .val (.int (0 : Int32)), .val (.int (200 : Int32)), .unset] [(.ref a8)])) _
        refine XS.iload X10.here hx rfl (hb hby at_127) rfl ?_
        show Steps p.tables e below (T10.setTop (mkF m 129 #[.val (.int p1), .val (.int p2), .val (.int p3), .val (.int (0 : Int32)), .val (.ref a8), .val (.int (0 : Int32)), .val (.int (200 : Int32)), .unset] [(.int (200 : Int32)), (.ref a8)])) _
        refine st18 _ ?_
        show Steps p.tables e below (T18.setTop (mkF m 132 #[.val (.int p1), .val (.int p2), .val (.int p3), .val (.int (0 : Int32)), .val (.ref a8), .val (.int (0 : Int32)), .val (.int (200 : Int32)), .unset] [(.ref a16)])) _
        refine XS.astore X18.here hx rfl (hb hby at_132) rfl rfl (l' := #[.val (.int p1), .val (.int p2), .val (.int p3), .val (.int (0 : Int32)), .val (.ref a8), .val (.int (0 : Int32)), .val (.int (200 : Int32)), .val (.ref a16)]) rfl ?_
        show Steps p.tables e below (T18.setTop (mkF m 134 #[.val (.int p1), .val (.int p2), .val (.int p3), .val (.int (0 : Int32)), .val (.ref a8), .val (.int (0 : Int32)), .val (.int (200 : Int32)), .val (.ref a16)] [])) _
        refine XS.aload X18.here hx rfl (hb hby at_134) rfl rfl ?_
        show Steps p.tables e below (T18.setTop (mkF m 136 #[.val (.int p1), .val (.int p2), .val (.int p3), .val (.int (0 : Int32)), .val (.ref a8), .val (.int (0 : Int32)), .val (.int (200 : Int32)), .val (.ref a16)] [(.ref a16)])) _
        refine XS.iloadN X18.here hx rfl (hb hby at_136) rfl ?_
        show Steps p.tables e below (T18.setTop (mkF m 137 #[.val (.int p1), .val (.int p2), .val (.int p3), .val (.int (0 : Int32)), .val (.ref a8), .val (.int (0 : Int32)), .val (.int (200 : Int32)), .val (.ref a16)] [(.int (0 : Int32)), (.ref a16)])) _
        refine XS.iload X18.here hx rfl (hb hby at_137) rfl ?_
        show Steps p.tables e below (T18.setTop (mkF m 139 #[.val (.int p1), .val (.int p2), .val (.int p3), .val (.int (0 : Int32)), .val (.ref a8), .val (.int (0 : Int32)), .val (.int (200 : Int32)), .val (.ref a16)] [(.int (200 : Int32)), (.int (0 : Int32)), (.ref a16)])) _
        refine st22 _ ?_
        show Steps p.tables e below (T22.setTop (mkF m 142 #[.val (.int p1), .val (.int p2), .val (.int p3), .val (.int (0 : Int32)), .val (.ref a8), .val (.int (0 : Int32)), .val (.int (200 : Int32)), .val (.ref a16)] [(.ref a16), (.ref a16)])) _
        refine Jvm.RoadKit.acmp (g := (mkF m 142 #[.val (.int p1), .val (.int p2), .val (.int p3), .val (.int (0 : Int32)), .val (.ref a8), .val (.int (0 : Int32)), .val (.int (200 : Int32)), .val (.ref a16)] [(.ref a16), (.ref a16)])) X22 hx rfl rfl rfl (pc0 := 142) (pc' := 145) (same := true) rfl (hb hby at_142) rfl (decide_eq_true rfl) (by decide) (by decide) ?_
        show Steps p.tables e below (T22.setTop (mkF m 145 #[.val (.int p1), .val (.int p2), .val (.int p3), .val (.int (0 : Int32)), .val (.ref a8), .val (.int (0 : Int32)), .val (.int (200 : Int32)), .val (.ref a16)] [])) _
        refine XS.iconst X22.here hx rfl (hb hby at_145) ?_
        show Steps p.tables e below (T22.setTop (mkF m 146 #[.val (.int p1), .val (.int p2), .val (.int p3), .val (.int (0 : Int32)), .val (.ref a8), .val (.int (0 : Int32)), .val (.int (200 : Int32)), .val (.ref a16)] [(.int (1 : Int32))])) _
        refine XS.goto X22.here hx rfl (pc0 := 146) (pc' := 150) rfl (hb hby at_146) (by decide) (by decide) ?_
        show Steps p.tables e below (T22.setTop (mkF m 150 #[.val (.int p1), .val (.int p2), .val (.int p3), .val (.int (0 : Int32)), .val (.ref a8), .val (.int (0 : Int32)), .val (.int (200 : Int32)), .val (.ref a16)] [(.int (1 : Int32))])) _
        exact retN X22 hx (t := .boolean) Bd.returns (by simp) (hb hby at_150) hr
      · show Q0 Z _ _ _ _ _ _ _ _ _ h0 n0 _ T22.heap _
        rw [u25]
        exact ⟨rfl, N22⟩
    · skip
      have pre26 : ∀ t, Steps p.tables e below (T10.setTop (mkF m 55 #[.val (.int p1), .val (.int p2), .val (.int p3), .val (.int (0 : Int32)), .val (.ref a8), .val (.int i11), .unset, .unset] [(.int (1 : Int32)), (.int i11)])) t → Steps p.tables e below (s₁.setTop (entryFrame m #[(.int p1), (.int p2), (.int p3)] maxLocals)) t := by
        intro t kt
        refine pre12 t ?_
        show Steps p.tables e below (T10.setTop (mkF m 41 #[.val (.int p1), .val (.int p2), .val (.int p3), .val (.int (0 : Int32)), .val (.ref a8), .val (.int i11), .unset, .unset] [(.int i11)])) _
        refine XS.ifYes X10.here hx rfl (pc0 := 41) (pc' := 52) rfl (hb hby at_41) rfl ((if0 _ _).trans (feq hc13).2) (by decide) (by decide) ?_
        show Steps p.tables e below (T10.setTop (mkF m 52 #[.val (.int p1), .val (.int p2), .val (.int p3), .val (.int (0 : Int32)), .val (.ref a8), .val (.int i11), .unset, .unset] [])) _
        refine XS.iload X10.here hx rfl (hb hby at_52) rfl ?_
        show Steps p.tables e below (T10.setTop (mkF m 54 #[.val (.int p1), .val (.int p2), .val (.int p3), .val (.int (0 : Int32)), .val (.ref a8), .val (.int i11), .unset, .unset] [(.int i11)])) _
        refine XS.iconst X10.here hx rfl (hb hby at_54) ?_
        exact kt
      by_cases hc27 : i11 = (1 : Int32)
      · skip
        subst hc27
        obtain ⟨_, _, ⟨T30, L30, k30, n30⟩, -, X30, ⟨Lc30, hQ30, l30, y30, z30⟩, st30⟩ := Jvm.LawKit.callS X10 hx (y := M_2) hown (mvT hZ (hw _ (gw 4 rfl))) (mvT hZ (hw _ (gw 5 rfl))) (mvT hZ (hw _ (gw 6 rfl))) (mvT hZ (hw _ (gw 7 rfl))) (by decide) (backOf (W := 0) (rm1_5 l Z a0 hw [] a8 a28 h0 n0  O0 E_14 F15 S_29) hZ (hw _ (gw 7 rfl)) (hw _ (gw 6 rfl)) (by decide) (by decide)) (g := (mkF m 129 #[.val (.int p1), .val (.int p2), .val (.int p3), .val (.int (0 : Int32)), .val (.ref a8), .val (.int (1 : Int32)), .val (.int (204 : Int32)), .unset] [(.int (204 : Int32)), (.ref a8)])) rfl (by rw [hml]; rfl) (argsL := [(.ref a8), (.int (204 : Int32))]) (rest := []) (lenOf pd_1 rfl) rfl (by show 2 * 0 + _ ≤ _; exact Nat.le_of_eq rfl) (hb hby at_129) (fun _ _ => ⟨rfl, e10, (by decide : 0 + 0 ≤ _), (by decide : 0 + 0 ≤ _)⟩)
        dsimp only [Pt.U, Pt.locs, Pt.cells, Pt.slots] at X30 l30 y30 z30 st30 hQ30
        subst l30 y30 z30
        obtain ⟨rfl, u32, u33⟩ := hQ30
        have N30 := Fr.app N0 u32
        obtain ⟨_, _, ⟨T34, L34, k34, n34⟩, -, X34, ⟨Lc34, hQ34, l34, y34, z34⟩, st34⟩ := Jvm.LawKit.callS X30 hx (y := M_3) hown (mvT hZ (hw _ (gw 19 rfl))) (mvT hZ (hw _ (gw 20 rfl))) (mvT hZ (hw _ (gw 21 rfl))) (mvT hZ (hw _ (gw 22 rfl))) (by decide) (backOf (W := 1) (rm3_6 l Z a0 hw [] a28 h0 n0  O0 S_29) hZ (hw _ (gw 22 rfl)) (hw _ (gw 21 rfl)) (by decide) (by decide)) (g := (mkF m 139 #[.val (.int p1), .val (.int p2), .val (.int p3), .val (.int (0 : Int32)), .val (.ref a8), .val (.int (1 : Int32)), .val (.int (204 : Int32)), .val (.ref a28)] [(.int (204 : Int32)), (.int (0 : Int32)), (.ref a28)])) rfl (by rw [hml]; rfl) (argsL := [(.int (0 : Int32)), (.int (204 : Int32))]) (rest := [(.ref a28)]) (lenOf pd_2 rfl) rfl (by show 2 * 0 + _ ≤ _; exact Nat.le_of_eq rfl) (hb hby at_139) (fun _ _ => ⟨rfl, u33, (by decide : 0 + 0 ≤ _), (by decide : 0 + 0 ≤ _)⟩)
        dsimp only [Pt.U, Pt.locs, Pt.cells, Pt.slots] at X34 l34 y34 z34 st34 hQ34
        subst l34 y34 z34
        obtain ⟨rfl, u36, u37⟩ := hQ34
        have N34 := Fr.app N30 u36
        obtain ⟨fs, hr, hrun, hended, hW, hsame⟩ := X34.leave (v := some (.int (1 : Int32))) (fun h => by rw [Bd.returns] at h; cases h)
        refine ⟨_, _, pre26 _ ?_, hrun, hended, _, _, rfl, ?_, ⟨_, rfl⟩, hW, hsame.mono (by decide) (by decide)⟩
        · show Steps p.tables e below (T10.setTop (mkF m 55 #[.val (.int p1), .val (.int p2), .val (.int p3), .val (.int (0 : Int32)), .val (.ref a8), .val (.int (1 : Int32)), .unset, .unset] [(.int (1 : Int32)), (.int (1 : Int32))])) _
          refine XS.icmpNo X10.here hx rfl (hb hby at_55) rfl (teq (by decide +kernel : (1 : Int32) = (1 : Int32))).2 ?_
          show Steps p.tables e below (T10.setTop (mkF m 58 #[.val (.int p1), .val (.int p2), .val (.int p3), .val (.int (0 : Int32)), .val (.ref a8), .val (.int (1 : Int32)), .unset, .unset] [])) _
          refine XS.sipush X10.here hx rfl (hb hby at_58) ?_
          show Steps p.tables e below (T10.setTop (mkF m 61 #[.val (.int p1), .val (.int p2), .val (.int p3), .val (.int (0 : Int32)), .val (.ref a8), .val (.int (1 : Int32)), .unset, .unset] [(.int (204 : Int32))])) _
          refine XS.istore X10.here hx rfl (hb hby at_61) rfl (l' := #[.val (.int p1), .val (.int p2), .val (.int p3), .val (.int (0 : Int32)), .val (.ref a8), .val (.int (1 : Int32)), .val (.int (204 : Int32)), .unset]) rfl ?_
          show Steps p.tables e below (T10.setTop (mkF m 63 #[.val (.int p1), .val (.int p2), .val (.int p3), .val (.int (0 : Int32)), .val (.ref a8), .val (.int (1 : Int32)), .val (.int (204 : Int32)), .unset] [])) _
          refine XS.goto X10.here hx rfl (pc0 := 63) (pc' := 125) rfl (hb hby at_63) (by decide) (by decide) ?_
          show Steps p.tables e below (T10.setTop (mkF m 125 #[.val (.int p1), .val (.int p2), .val (.int p3), .val (.int (0 : Int32)), .val (.ref a8), .val (.int (1 : Int32)), .val (.int (204 : Int32)), .unset] [])) _
          refine XS.aload X10.here hx rfl (hb hby at_125) rfl rfl ?_
          show Steps p.tables e below (T10.setTop (mkF m 127 #[.val (.int p1), .val (.int p2), .val (.int p3), .val (.int (0 : Int32)), .val (.ref a8), .val (.int (1 : Int32)), .val (.int (204 : Int32)), .unset] [(.ref a8)])) _
          refine XS.iload X10.here hx rfl (hb hby at_127) rfl ?_
          show Steps p.tables e below (T10.setTop (mkF m 129 #[.val (.int p1), .val (.int p2), .val (.int p3), .val (.int (0 : Int32)), .val (.ref a8), .val (.int (1 : Int32)), .val (.int (204 : Int32)), .unset] [(.int (204 : Int32)), (.ref a8)])) _
          refine st30 _ ?_
          show Steps p.tables e below (T30.setTop (mkF m 132 #[.val (.int p1), .val (.int p2), .val (.int p3), .val (.int (0 : Int32)), .val (.ref a8), .val (.int (1 : Int32)), .val (.int (204 : Int32)), .unset] [(.ref a28)])) _
          refine XS.astore X30.here hx rfl (hb hby at_132) rfl rfl (l' := #[.val (.int p1), .val (.int p2), .val (.int p3), .val (.int (0 : Int32)), .val (.ref a8), .val (.int (1 : Int32)), .val (.int (204 : Int32)), .val (.ref a28)]) rfl ?_
          show Steps p.tables e below (T30.setTop (mkF m 134 #[.val (.int p1), .val (.int p2), .val (.int p3), .val (.int (0 : Int32)), .val (.ref a8), .val (.int (1 : Int32)), .val (.int (204 : Int32)), .val (.ref a28)] [])) _
          refine XS.aload X30.here hx rfl (hb hby at_134) rfl rfl ?_
          show Steps p.tables e below (T30.setTop (mkF m 136 #[.val (.int p1), .val (.int p2), .val (.int p3), .val (.int (0 : Int32)), .val (.ref a8), .val (.int (1 : Int32)), .val (.int (204 : Int32)), .val (.ref a28)] [(.ref a28)])) _
          refine XS.iloadN X30.here hx rfl (hb hby at_136) rfl ?_
          show Steps p.tables e below (T30.setTop (mkF m 137 #[.val (.int p1), .val (.int p2), .val (.int p3), .val (.int (0 : Int32)), .val (.ref a8), .val (.int (1 : Int32)), .val (.int (204 : Int32)), .val (.ref a28)] [(.int (0 : Int32)), (.ref a28)])) _
          refine XS.iload X30.here hx rfl (hb hby at_137) rfl ?_
          show Steps p.tables e below (T30.setTop (mkF m 139 #[.val (.int p1), .val (.int p2), .val (.int p3), .val (.int (0 : Int32)), .val (.ref a8), .val (.int (1 : Int32)), .val (.int (204 : Int32)), .val (.ref a28)] [(.int (204 : Int32)), (.int (0 : Int32)), (.ref a28)])) _
          refine st34 _ ?_
          show Steps p.tables e below (T34.setTop (mkF m 142 #[.val (.int p1), .val (.int p2), .val (.int p3), .val (.int (0 : Int32)), .val (.ref a8), .val (.int (1 : Int32)), .val (.int (204 : Int32)), .val (.ref a28)] [(.ref a28), (.ref a28)])) _
          refine Jvm.RoadKit.acmp (g := (mkF m 142 #[.val (.int p1), .val (.int p2), .val (.int p3), .val (.int (0 : Int32)), .val (.ref a8), .val (.int (1 : Int32)), .val (.int (204 : Int32)), .val (.ref a28)] [(.ref a28), (.ref a28)])) X34 hx rfl rfl rfl (pc0 := 142) (pc' := 145) (same := true) rfl (hb hby at_142) rfl (decide_eq_true rfl) (by decide) (by decide) ?_
          show Steps p.tables e below (T34.setTop (mkF m 145 #[.val (.int p1), .val (.int p2), .val (.int p3), .val (.int (0 : Int32)), .val (.ref a8), .val (.int (1 : Int32)), .val (.int (204 : Int32)), .val (.ref a28)] [])) _
          refine XS.iconst X34.here hx rfl (hb hby at_145) ?_
          show Steps p.tables e below (T34.setTop (mkF m 146 #[.val (.int p1), .val (.int p2), .val (.int p3), .val (.int (0 : Int32)), .val (.ref a8), .val (.int (1 : Int32)), .val (.int (204 : Int32)), .val (.ref a28)] [(.int (1 : Int32))])) _
          refine XS.goto X34.here hx rfl (pc0 := 146) (pc' := 150) rfl (hb hby at_146) (by decide) (by decide) ?_
          show Steps p.tables e below (T34.setTop (mkF m 150 #[.val (.int p1), .val (.int p2), .val (.int p3), .val (.int (0 : Int32)), .val (.ref a8), .val (.int (1 : Int32)), .val (.int (204 : Int32)), .val (.ref a28)] [(.int (1 : Int32))])) _
          exact retN X34 hx (t := .boolean) Bd.returns (by simp) (hb hby at_150) hr
        · show Q0 Z _ _ _ _ _ _ _ _ _ h0 n0 _ T34.heap _
          rw [u37]
          exact ⟨rfl, N34⟩
      · skip
        have pre38 : ∀ t, Steps p.tables e below (T10.setTop (mkF m 69 #[.val (.int p1), .val (.int p2), .val (.int p3), .val (.int (0 : Int32)), .val (.ref a8), .val (.int i11), .unset, .unset] [(.int (2 : Int32)), (.int i11)])) t → Steps p.tables e below (s₁.setTop (entryFrame m #[(.int p1), (.int p2), (.int p3)] maxLocals)) t := by
          intro t kt
          refine pre26 t ?_
          show Steps p.tables e below (T10.setTop (mkF m 55 #[.val (.int p1), .val (.int p2), .val (.int p3), .val (.int (0 : Int32)), .val (.ref a8), .val (.int i11), .unset, .unset] [(.int (1 : Int32)), (.int i11)])) _
          refine XS.icmpYes X10.here hx rfl (pc0 := 55) (pc' := 66) rfl (hb hby at_55) rfl (feq hc27).2 (by decide) (by decide) ?_
          show Steps p.tables e below (T10.setTop (mkF m 66 #[.val (.int p1), .val (.int p2), .val (.int p3), .val (.int (0 : Int32)), .val (.ref a8), .val (.int i11), .unset, .unset] [])) _
          refine XS.iload X10.here hx rfl (hb hby at_66) rfl ?_
          show Steps p.tables e below (T10.setTop (mkF m 68 #[.val (.int p1), .val (.int p2), .val (.int p3), .val (.int (0 : Int32)), .val (.ref a8), .val (.int i11), .unset, .unset] [(.int i11)])) _
          refine XS.iconst X10.here hx rfl (hb hby at_68) ?_
          exact kt
        by_cases hc39 : i11 = (2 : Int32)
        · skip
          subst hc39
          obtain ⟨_, _, ⟨T40, L40, k40, n40⟩, -, X40, ⟨Lc40, hQ40, l40, y40, z40⟩, st40⟩ := Jvm.LawKit.callS X10 hx (y := M_2) hown (mvT hZ (hw _ (gw 4 rfl))) (mvT hZ (hw _ (gw 5 rfl))) (mvT hZ (hw _ (gw 6 rfl))) (mvT hZ (hw _ (gw 7 rfl))) (by decide) (backOf (W := 0) (rm1_7 l Z a0 hw [] a8 a16 h0 n0  O0 E_14 F15 S_17) hZ (hw _ (gw 7 rfl)) (hw _ (gw 6 rfl)) (by decide) (by decide)) (g := (mkF m 129 #[.val (.int p1), .val (.int p2), .val (.int p3), .val (.int (0 : Int32)), .val (.ref a8), .val (.int (2 : Int32)), .val (.int (404 : Int32)), .unset] [(.int (404 : Int32)), (.ref a8)])) rfl (by rw [hml]; rfl) (argsL := [(.ref a8), (.int (404 : Int32))]) (rest := []) (lenOf pd_1 rfl) rfl (by show 2 * 0 + _ ≤ _; exact Nat.le_of_eq rfl) (hb hby at_129) (fun _ _ => ⟨rfl, e10, (by decide : 0 + 0 ≤ _), (by decide : 0 + 0 ≤ _)⟩)
          dsimp only [Pt.U, Pt.locs, Pt.cells, Pt.slots] at X40 l40 y40 z40 st40 hQ40
          subst l40 y40 z40
          obtain ⟨rfl, u42, u43⟩ := hQ40
          have N40 := Fr.app N0 u42
          obtain ⟨_, _, ⟨T44, L44, k44, n44⟩, -, X44, ⟨Lc44, hQ44, l44, y44, z44⟩, st44⟩ := Jvm.LawKit.callS X40 hx (y := M_3) hown (mvT hZ (hw _ (gw 19 rfl))) (mvT hZ (hw _ (gw 20 rfl))) (mvT hZ (hw _ (gw 21 rfl))) (mvT hZ (hw _ (gw 22 rfl))) (by decide) (backOf (W := 1) (rm3_8 l Z a0 hw [] a16 h0 n0  O0 S_17) hZ (hw _ (gw 22 rfl)) (hw _ (gw 21 rfl)) (by decide) (by decide)) (g := (mkF m 139 #[.val (.int p1), .val (.int p2), .val (.int p3), .val (.int (0 : Int32)), .val (.ref a8), .val (.int (2 : Int32)), .val (.int (404 : Int32)), .val (.ref a16)] [(.int (404 : Int32)), (.int (0 : Int32)), (.ref a16)])) rfl (by rw [hml]; rfl) (argsL := [(.int (0 : Int32)), (.int (404 : Int32))]) (rest := [(.ref a16)]) (lenOf pd_2 rfl) rfl (by show 2 * 0 + _ ≤ _; exact Nat.le_of_eq rfl) (hb hby at_139) (fun _ _ => ⟨rfl, u43, (by decide : 0 + 0 ≤ _), (by decide : 0 + 0 ≤ _)⟩)
          dsimp only [Pt.U, Pt.locs, Pt.cells, Pt.slots] at X44 l44 y44 z44 st44 hQ44
          subst l44 y44 z44
          obtain ⟨rfl, u46, u47⟩ := hQ44
          have N44 := Fr.app N40 u46
          obtain ⟨fs, hr, hrun, hended, hW, hsame⟩ := X44.leave (v := some (.int (1 : Int32))) (fun h => by rw [Bd.returns] at h; cases h)
          refine ⟨_, _, pre38 _ ?_, hrun, hended, _, _, rfl, ?_, ⟨_, rfl⟩, hW, hsame.mono (by decide) (by decide)⟩
          · show Steps p.tables e below (T10.setTop (mkF m 69 #[.val (.int p1), .val (.int p2), .val (.int p3), .val (.int (0 : Int32)), .val (.ref a8), .val (.int (2 : Int32)), .unset, .unset] [(.int (2 : Int32)), (.int (2 : Int32))])) _
            refine XS.icmpNo X10.here hx rfl (hb hby at_69) rfl (teq (by decide +kernel : (2 : Int32) = (2 : Int32))).2 ?_
            show Steps p.tables e below (T10.setTop (mkF m 72 #[.val (.int p1), .val (.int p2), .val (.int p3), .val (.int (0 : Int32)), .val (.ref a8), .val (.int (2 : Int32)), .unset, .unset] [])) _
            refine XS.sipush X10.here hx rfl (hb hby at_72) ?_
            show Steps p.tables e below (T10.setTop (mkF m 75 #[.val (.int p1), .val (.int p2), .val (.int p3), .val (.int (0 : Int32)), .val (.ref a8), .val (.int (2 : Int32)), .unset, .unset] [(.int (404 : Int32))])) _
            refine XS.istore X10.here hx rfl (hb hby at_75) rfl (l' := #[.val (.int p1), .val (.int p2), .val (.int p3), .val (.int (0 : Int32)), .val (.ref a8), .val (.int (2 : Int32)), .val (.int (404 : Int32)), .unset]) rfl ?_
            show Steps p.tables e below (T10.setTop (mkF m 77 #[.val (.int p1), .val (.int p2), .val (.int p3), .val (.int (0 : Int32)), .val (.ref a8), .val (.int (2 : Int32)), .val (.int (404 : Int32)), .unset] [])) _
            refine XS.goto X10.here hx rfl (pc0 := 77) (pc' := 125) rfl (hb hby at_77) (by decide) (by decide) ?_
            show Steps p.tables e below (T10.setTop (mkF m 125 #[.val (.int p1), .val (.int p2), .val (.int p3), .val (.int (0 : Int32)), .val (.ref a8), .val (.int (2 : Int32)), .val (.int (404 : Int32)), .unset] [])) _
            refine XS.aload X10.here hx rfl (hb hby at_125) rfl rfl ?_
            show Steps p.tables e below (T10.setTop (mkF m 127 #[.val (.int p1), .val (.int p2), .val (.int p3), .val (.int (0 : Int32)), .val (.ref a8), .val (.int (2 : Int32)), .val (.int (404 : Int32)), .unset] [(.ref a8)])) _
            refine XS.iload X10.here hx rfl (hb hby at_127) rfl ?_
            show Steps p.tables e below (T10.setTop (mkF m 129 #[.val (.int p1), .val (.int p2), .val (.int p3), .val (.int (0 : Int32)), .val (.ref a8), .val (.int (2 : Int32)), .val (.int (404 : Int32)), .unset] [(.int (404 : Int32)), (.ref a8)])) _
            refine st40 _ ?_
            show Steps p.tables e below (T40.setTop (mkF m 132 #[.val (.int p1), .val (.int p2), .val (.int p3), .val (.int (0 : Int32)), .val (.ref a8), .val (.int (2 : Int32)), .val (.int (404 : Int32)), .unset] [(.ref a16)])) _
            refine XS.astore X40.here hx rfl (hb hby at_132) rfl rfl (l' := #[.val (.int p1), .val (.int p2), .val (.int p3), .val (.int (0 : Int32)), .val (.ref a8), .val (.int (2 : Int32)), .val (.int (404 : Int32)), .val (.ref a16)]) rfl ?_
            show Steps p.tables e below (T40.setTop (mkF m 134 #[.val (.int p1), .val (.int p2), .val (.int p3), .val (.int (0 : Int32)), .val (.ref a8), .val (.int (2 : Int32)), .val (.int (404 : Int32)), .val (.ref a16)] [])) _
            refine XS.aload X40.here hx rfl (hb hby at_134) rfl rfl ?_
            show Steps p.tables e below (T40.setTop (mkF m 136 #[.val (.int p1), .val (.int p2), .val (.int p3), .val (.int (0 : Int32)), .val (.ref a8), .val (.int (2 : Int32)), .val (.int (404 : Int32)), .val (.ref a16)] [(.ref a16)])) _
            refine XS.iloadN X40.here hx rfl (hb hby at_136) rfl ?_
            show Steps p.tables e below (T40.setTop (mkF m 137 #[.val (.int p1), .val (.int p2), .val (.int p3), .val (.int (0 : Int32)), .val (.ref a8), .val (.int (2 : Int32)), .val (.int (404 : Int32)), .val (.ref a16)] [(.int (0 : Int32)), (.ref a16)])) _
            refine XS.iload X40.here hx rfl (hb hby at_137) rfl ?_
            show Steps p.tables e below (T40.setTop (mkF m 139 #[.val (.int p1), .val (.int p2), .val (.int p3), .val (.int (0 : Int32)), .val (.ref a8), .val (.int (2 : Int32)), .val (.int (404 : Int32)), .val (.ref a16)] [(.int (404 : Int32)), (.int (0 : Int32)), (.ref a16)])) _
            refine st44 _ ?_
            show Steps p.tables e below (T44.setTop (mkF m 142 #[.val (.int p1), .val (.int p2), .val (.int p3), .val (.int (0 : Int32)), .val (.ref a8), .val (.int (2 : Int32)), .val (.int (404 : Int32)), .val (.ref a16)] [(.ref a16), (.ref a16)])) _
            refine Jvm.RoadKit.acmp (g := (mkF m 142 #[.val (.int p1), .val (.int p2), .val (.int p3), .val (.int (0 : Int32)), .val (.ref a8), .val (.int (2 : Int32)), .val (.int (404 : Int32)), .val (.ref a16)] [(.ref a16), (.ref a16)])) X44 hx rfl rfl rfl (pc0 := 142) (pc' := 145) (same := true) rfl (hb hby at_142) rfl (decide_eq_true rfl) (by decide) (by decide) ?_
            show Steps p.tables e below (T44.setTop (mkF m 145 #[.val (.int p1), .val (.int p2), .val (.int p3), .val (.int (0 : Int32)), .val (.ref a8), .val (.int (2 : Int32)), .val (.int (404 : Int32)), .val (.ref a16)] [])) _
            refine XS.iconst X44.here hx rfl (hb hby at_145) ?_
            show Steps p.tables e below (T44.setTop (mkF m 146 #[.val (.int p1), .val (.int p2), .val (.int p3), .val (.int (0 : Int32)), .val (.ref a8), .val (.int (2 : Int32)), .val (.int (404 : Int32)), .val (.ref a16)] [(.int (1 : Int32))])) _
            refine XS.goto X44.here hx rfl (pc0 := 146) (pc' := 150) rfl (hb hby at_146) (by decide) (by decide) ?_
            show Steps p.tables e below (T44.setTop (mkF m 150 #[.val (.int p1), .val (.int p2), .val (.int p3), .val (.int (0 : Int32)), .val (.ref a8), .val (.int (2 : Int32)), .val (.int (404 : Int32)), .val (.ref a16)] [(.int (1 : Int32))])) _
            exact retN X44 hx (t := .boolean) Bd.returns (by simp) (hb hby at_150) hr
          · show Q0 Z _ _ _ _ _ _ _ _ _ h0 n0 _ T44.heap _
            rw [u47]
            exact ⟨rfl, N44⟩
        · skip
          have pre48 : ∀ t, Steps p.tables e below (T10.setTop (mkF m 83 #[.val (.int p1), .val (.int p2), .val (.int p3), .val (.int (0 : Int32)), .val (.ref a8), .val (.int i11), .unset, .unset] [(.int (3 : Int32)), (.int i11)])) t → Steps p.tables e below (s₁.setTop (entryFrame m #[(.int p1), (.int p2), (.int p3)] maxLocals)) t := by
            intro t kt
            refine pre38 t ?_
            show Steps p.tables e below (T10.setTop (mkF m 69 #[.val (.int p1), .val (.int p2), .val (.int p3), .val (.int (0 : Int32)), .val (.ref a8), .val (.int i11), .unset, .unset] [(.int (2 : Int32)), (.int i11)])) _
            refine XS.icmpYes X10.here hx rfl (pc0 := 69) (pc' := 80) rfl (hb hby at_69) rfl (feq hc39).2 (by decide) (by decide) ?_
            show Steps p.tables e below (T10.setTop (mkF m 80 #[.val (.int p1), .val (.int p2), .val (.int p3), .val (.int (0 : Int32)), .val (.ref a8), .val (.int i11), .unset, .unset] [])) _
            refine XS.iload X10.here hx rfl (hb hby at_80) rfl ?_
            show Steps p.tables e below (T10.setTop (mkF m 82 #[.val (.int p1), .val (.int p2), .val (.int p3), .val (.int (0 : Int32)), .val (.ref a8), .val (.int i11), .unset, .unset] [(.int i11)])) _
            refine XS.iconst X10.here hx rfl (hb hby at_82) ?_
            exact kt
          by_cases hc49 : i11 = (3 : Int32)
          · skip
            subst hc49
            obtain ⟨_, _, ⟨T52, L52, k52, n52⟩, -, X52, ⟨Lc52, hQ52, l52, y52, z52⟩, st52⟩ := Jvm.LawKit.callS X10 hx (y := M_2) hown (mvT hZ (hw _ (gw 4 rfl))) (mvT hZ (hw _ (gw 5 rfl))) (mvT hZ (hw _ (gw 6 rfl))) (mvT hZ (hw _ (gw 7 rfl))) (by decide) (backOf (W := 0) (rm1_9 l Z a0 hw [] a8 a50 h0 n0  O0 E_14 F15 S_51) hZ (hw _ (gw 7 rfl)) (hw _ (gw 6 rfl)) (by decide) (by decide)) (g := (mkF m 129 #[.val (.int p1), .val (.int p2), .val (.int p3), .val (.int (0 : Int32)), .val (.ref a8), .val (.int (3 : Int32)), .val (.int (400 : Int32)), .unset] [(.int (400 : Int32)), (.ref a8)])) rfl (by rw [hml]; rfl) (argsL := [(.ref a8), (.int (400 : Int32))]) (rest := []) (lenOf pd_1 rfl) rfl (by show 2 * 0 + _ ≤ _; exact Nat.le_of_eq rfl) (hb hby at_129) (fun _ _ => ⟨rfl, e10, (by decide : 0 + 0 ≤ _), (by decide : 0 + 0 ≤ _)⟩)
            dsimp only [Pt.U, Pt.locs, Pt.cells, Pt.slots] at X52 l52 y52 z52 st52 hQ52
            subst l52 y52 z52
            obtain ⟨rfl, u54, u55⟩ := hQ52
            have N52 := Fr.app N0 u54
            obtain ⟨_, _, ⟨T56, L56, k56, n56⟩, -, X56, ⟨Lc56, hQ56, l56, y56, z56⟩, st56⟩ := Jvm.LawKit.callS X52 hx (y := M_3) hown (mvT hZ (hw _ (gw 19 rfl))) (mvT hZ (hw _ (gw 20 rfl))) (mvT hZ (hw _ (gw 21 rfl))) (mvT hZ (hw _ (gw 22 rfl))) (by decide) (backOf (W := 1) (rm3_10 l Z a0 hw [] a50 h0 n0  O0 S_51) hZ (hw _ (gw 22 rfl)) (hw _ (gw 21 rfl)) (by decide) (by decide)) (g := (mkF m 139 #[.val (.int p1), .val (.int p2), .val (.int p3), .val (.int (0 : Int32)), .val (.ref a8), .val (.int (3 : Int32)), .val (.int (400 : Int32)), .val (.ref a50)] [(.int (400 : Int32)), (.int (0 : Int32)), (.ref a50)])) rfl (by rw [hml]; rfl) (argsL := [(.int (0 : Int32)), (.int (400 : Int32))]) (rest := [(.ref a50)]) (lenOf pd_2 rfl) rfl (by show 2 * 0 + _ ≤ _; exact Nat.le_of_eq rfl) (hb hby at_139) (fun _ _ => ⟨rfl, u55, (by decide : 0 + 0 ≤ _), (by decide : 0 + 0 ≤ _)⟩)
            dsimp only [Pt.U, Pt.locs, Pt.cells, Pt.slots] at X56 l56 y56 z56 st56 hQ56
            subst l56 y56 z56
            obtain ⟨rfl, u58, u59⟩ := hQ56
            have N56 := Fr.app N52 u58
            obtain ⟨fs, hr, hrun, hended, hW, hsame⟩ := X56.leave (v := some (.int (1 : Int32))) (fun h => by rw [Bd.returns] at h; cases h)
            refine ⟨_, _, pre48 _ ?_, hrun, hended, _, _, rfl, ?_, ⟨_, rfl⟩, hW, hsame.mono (by decide) (by decide)⟩
            · show Steps p.tables e below (T10.setTop (mkF m 83 #[.val (.int p1), .val (.int p2), .val (.int p3), .val (.int (0 : Int32)), .val (.ref a8), .val (.int (3 : Int32)), .unset, .unset] [(.int (3 : Int32)), (.int (3 : Int32))])) _
              refine XS.icmpNo X10.here hx rfl (hb hby at_83) rfl (teq (by decide +kernel : (3 : Int32) = (3 : Int32))).2 ?_
              show Steps p.tables e below (T10.setTop (mkF m 86 #[.val (.int p1), .val (.int p2), .val (.int p3), .val (.int (0 : Int32)), .val (.ref a8), .val (.int (3 : Int32)), .unset, .unset] [])) _
              refine XS.sipush X10.here hx rfl (hb hby at_86) ?_
              show Steps p.tables e below (T10.setTop (mkF m 89 #[.val (.int p1), .val (.int p2), .val (.int p3), .val (.int (0 : Int32)), .val (.ref a8), .val (.int (3 : Int32)), .unset, .unset] [(.int (400 : Int32))])) _
              refine XS.istore X10.here hx rfl (hb hby at_89) rfl (l' := #[.val (.int p1), .val (.int p2), .val (.int p3), .val (.int (0 : Int32)), .val (.ref a8), .val (.int (3 : Int32)), .val (.int (400 : Int32)), .unset]) rfl ?_
              show Steps p.tables e below (T10.setTop (mkF m 91 #[.val (.int p1), .val (.int p2), .val (.int p3), .val (.int (0 : Int32)), .val (.ref a8), .val (.int (3 : Int32)), .val (.int (400 : Int32)), .unset] [])) _
              refine XS.goto X10.here hx rfl (pc0 := 91) (pc' := 125) rfl (hb hby at_91) (by decide) (by decide) ?_
              show Steps p.tables e below (T10.setTop (mkF m 125 #[.val (.int p1), .val (.int p2), .val (.int p3), .val (.int (0 : Int32)), .val (.ref a8), .val (.int (3 : Int32)), .val (.int (400 : Int32)), .unset] [])) _
              refine XS.aload X10.here hx rfl (hb hby at_125) rfl rfl ?_
              show Steps p.tables e below (T10.setTop (mkF m 127 #[.val (.int p1), .val (.int p2), .val (.int p3), .val (.int (0 : Int32)), .val (.ref a8), .val (.int (3 : Int32)), .val (.int (400 : Int32)), .unset] [(.ref a8)])) _
              refine XS.iload X10.here hx rfl (hb hby at_127) rfl ?_
              show Steps p.tables e below (T10.setTop (mkF m 129 #[.val (.int p1), .val (.int p2), .val (.int p3), .val (.int (0 : Int32)), .val (.ref a8), .val (.int (3 : Int32)), .val (.int (400 : Int32)), .unset] [(.int (400 : Int32)), (.ref a8)])) _
              refine st52 _ ?_
              show Steps p.tables e below (T52.setTop (mkF m 132 #[.val (.int p1), .val (.int p2), .val (.int p3), .val (.int (0 : Int32)), .val (.ref a8), .val (.int (3 : Int32)), .val (.int (400 : Int32)), .unset] [(.ref a50)])) _
              refine XS.astore X52.here hx rfl (hb hby at_132) rfl rfl (l' := #[.val (.int p1), .val (.int p2), .val (.int p3), .val (.int (0 : Int32)), .val (.ref a8), .val (.int (3 : Int32)), .val (.int (400 : Int32)), .val (.ref a50)]) rfl ?_
              show Steps p.tables e below (T52.setTop (mkF m 134 #[.val (.int p1), .val (.int p2), .val (.int p3), .val (.int (0 : Int32)), .val (.ref a8), .val (.int (3 : Int32)), .val (.int (400 : Int32)), .val (.ref a50)] [])) _
              refine XS.aload X52.here hx rfl (hb hby at_134) rfl rfl ?_
              show Steps p.tables e below (T52.setTop (mkF m 136 #[.val (.int p1), .val (.int p2), .val (.int p3), .val (.int (0 : Int32)), .val (.ref a8), .val (.int (3 : Int32)), .val (.int (400 : Int32)), .val (.ref a50)] [(.ref a50)])) _
              refine XS.iloadN X52.here hx rfl (hb hby at_136) rfl ?_
              show Steps p.tables e below (T52.setTop (mkF m 137 #[.val (.int p1), .val (.int p2), .val (.int p3), .val (.int (0 : Int32)), .val (.ref a8), .val (.int (3 : Int32)), .val (.int (400 : Int32)), .val (.ref a50)] [(.int (0 : Int32)), (.ref a50)])) _
              refine XS.iload X52.here hx rfl (hb hby at_137) rfl ?_
              show Steps p.tables e below (T52.setTop (mkF m 139 #[.val (.int p1), .val (.int p2), .val (.int p3), .val (.int (0 : Int32)), .val (.ref a8), .val (.int (3 : Int32)), .val (.int (400 : Int32)), .val (.ref a50)] [(.int (400 : Int32)), (.int (0 : Int32)), (.ref a50)])) _
              refine st56 _ ?_
              show Steps p.tables e below (T56.setTop (mkF m 142 #[.val (.int p1), .val (.int p2), .val (.int p3), .val (.int (0 : Int32)), .val (.ref a8), .val (.int (3 : Int32)), .val (.int (400 : Int32)), .val (.ref a50)] [(.ref a50), (.ref a50)])) _
              refine Jvm.RoadKit.acmp (g := (mkF m 142 #[.val (.int p1), .val (.int p2), .val (.int p3), .val (.int (0 : Int32)), .val (.ref a8), .val (.int (3 : Int32)), .val (.int (400 : Int32)), .val (.ref a50)] [(.ref a50), (.ref a50)])) X56 hx rfl rfl rfl (pc0 := 142) (pc' := 145) (same := true) rfl (hb hby at_142) rfl (decide_eq_true rfl) (by decide) (by decide) ?_
              show Steps p.tables e below (T56.setTop (mkF m 145 #[.val (.int p1), .val (.int p2), .val (.int p3), .val (.int (0 : Int32)), .val (.ref a8), .val (.int (3 : Int32)), .val (.int (400 : Int32)), .val (.ref a50)] [])) _
              refine XS.iconst X56.here hx rfl (hb hby at_145) ?_
              show Steps p.tables e below (T56.setTop (mkF m 146 #[.val (.int p1), .val (.int p2), .val (.int p3), .val (.int (0 : Int32)), .val (.ref a8), .val (.int (3 : Int32)), .val (.int (400 : Int32)), .val (.ref a50)] [(.int (1 : Int32))])) _
              refine XS.goto X56.here hx rfl (pc0 := 146) (pc' := 150) rfl (hb hby at_146) (by decide) (by decide) ?_
              show Steps p.tables e below (T56.setTop (mkF m 150 #[.val (.int p1), .val (.int p2), .val (.int p3), .val (.int (0 : Int32)), .val (.ref a8), .val (.int (3 : Int32)), .val (.int (400 : Int32)), .val (.ref a50)] [(.int (1 : Int32))])) _
              exact retN X56 hx (t := .boolean) Bd.returns (by simp) (hb hby at_150) hr
            · show Q0 Z _ _ _ _ _ _ _ _ _ h0 n0 _ T56.heap _
              rw [u59]
              exact ⟨rfl, N56⟩
          · skip
            have pre60 : ∀ t, Steps p.tables e below (T10.setTop (mkF m 97 #[.val (.int p1), .val (.int p2), .val (.int p3), .val (.int (0 : Int32)), .val (.ref a8), .val (.int i11), .unset, .unset] [(.int (4 : Int32)), (.int i11)])) t → Steps p.tables e below (s₁.setTop (entryFrame m #[(.int p1), (.int p2), (.int p3)] maxLocals)) t := by
              intro t kt
              refine pre48 t ?_
              show Steps p.tables e below (T10.setTop (mkF m 83 #[.val (.int p1), .val (.int p2), .val (.int p3), .val (.int (0 : Int32)), .val (.ref a8), .val (.int i11), .unset, .unset] [(.int (3 : Int32)), (.int i11)])) _
              refine XS.icmpYes X10.here hx rfl (pc0 := 83) (pc' := 94) rfl (hb hby at_83) rfl (feq hc49).2 (by decide) (by decide) ?_
              show Steps p.tables e below (T10.setTop (mkF m 94 #[.val (.int p1), .val (.int p2), .val (.int p3), .val (.int (0 : Int32)), .val (.ref a8), .val (.int i11), .unset, .unset] [])) _
              refine XS.iload X10.here hx rfl (hb hby at_94) rfl ?_
              show Steps p.tables e below (T10.setTop (mkF m 96 #[.val (.int p1), .val (.int p2), .val (.int p3), .val (.int (0 : Int32)), .val (.ref a8), .val (.int i11), .unset, .unset] [(.int i11)])) _
              refine XS.iconst X10.here hx rfl (hb hby at_96) ?_
              exact kt
            by_cases hc61 : i11 = (4 : Int32)
            · skip
              subst hc61
              obtain ⟨_, _, ⟨T62, L62, k62, n62⟩, -, X62, ⟨Lc62, hQ62, l62, y62, z62⟩, st62⟩ := Jvm.LawKit.callS X10 hx (y := M_2) hown (mvT hZ (hw _ (gw 4 rfl))) (mvT hZ (hw _ (gw 5 rfl))) (mvT hZ (hw _ (gw 6 rfl))) (mvT hZ (hw _ (gw 7 rfl))) (by decide) (backOf (W := 0) (rm1_11 l Z a0 hw [] a8 a50 h0 n0  O0 E_14 F15 S_51) hZ (hw _ (gw 7 rfl)) (hw _ (gw 6 rfl)) (by decide) (by decide)) (g := (mkF m 129 #[.val (.int p1), .val (.int p2), .val (.int p3), .val (.int (0 : Int32)), .val (.ref a8), .val (.int (4 : Int32)), .val (.int (413 : Int32)), .unset] [(.int (413 : Int32)), (.ref a8)])) rfl (by rw [hml]; rfl) (argsL := [(.ref a8), (.int (413 : Int32))]) (rest := []) (lenOf pd_1 rfl) rfl (by show 2 * 0 + _ ≤ _; exact Nat.le_of_eq rfl) (hb hby at_129) (fun _ _ => ⟨rfl, e10, (by decide : 0 + 0 ≤ _), (by decide : 0 + 0 ≤ _)⟩)
              dsimp only [Pt.U, Pt.locs, Pt.cells, Pt.slots] at X62 l62 y62 z62 st62 hQ62
              subst l62 y62 z62
              obtain ⟨rfl, u64, u65⟩ := hQ62
              have N62 := Fr.app N0 u64
              obtain ⟨_, _, ⟨T66, L66, k66, n66⟩, -, X66, ⟨Lc66, hQ66, l66, y66, z66⟩, st66⟩ := Jvm.LawKit.callS X62 hx (y := M_3) hown (mvT hZ (hw _ (gw 19 rfl))) (mvT hZ (hw _ (gw 20 rfl))) (mvT hZ (hw _ (gw 21 rfl))) (mvT hZ (hw _ (gw 22 rfl))) (by decide) (backOf (W := 1) (rm3_12 l Z a0 hw [] a50 h0 n0  O0 S_51) hZ (hw _ (gw 22 rfl)) (hw _ (gw 21 rfl)) (by decide) (by decide)) (g := (mkF m 139 #[.val (.int p1), .val (.int p2), .val (.int p3), .val (.int (0 : Int32)), .val (.ref a8), .val (.int (4 : Int32)), .val (.int (413 : Int32)), .val (.ref a50)] [(.int (413 : Int32)), (.int (0 : Int32)), (.ref a50)])) rfl (by rw [hml]; rfl) (argsL := [(.int (0 : Int32)), (.int (413 : Int32))]) (rest := [(.ref a50)]) (lenOf pd_2 rfl) rfl (by show 2 * 0 + _ ≤ _; exact Nat.le_of_eq rfl) (hb hby at_139) (fun _ _ => ⟨rfl, u65, (by decide : 0 + 0 ≤ _), (by decide : 0 + 0 ≤ _)⟩)
              dsimp only [Pt.U, Pt.locs, Pt.cells, Pt.slots] at X66 l66 y66 z66 st66 hQ66
              subst l66 y66 z66
              obtain ⟨rfl, u68, u69⟩ := hQ66
              have N66 := Fr.app N62 u68
              obtain ⟨fs, hr, hrun, hended, hW, hsame⟩ := X66.leave (v := some (.int (1 : Int32))) (fun h => by rw [Bd.returns] at h; cases h)
              refine ⟨_, _, pre60 _ ?_, hrun, hended, _, _, rfl, ?_, ⟨_, rfl⟩, hW, hsame.mono (by decide) (by decide)⟩
              · show Steps p.tables e below (T10.setTop (mkF m 97 #[.val (.int p1), .val (.int p2), .val (.int p3), .val (.int (0 : Int32)), .val (.ref a8), .val (.int (4 : Int32)), .unset, .unset] [(.int (4 : Int32)), (.int (4 : Int32))])) _
                refine XS.icmpNo X10.here hx rfl (hb hby at_97) rfl (teq (by decide +kernel : (4 : Int32) = (4 : Int32))).2 ?_
                show Steps p.tables e below (T10.setTop (mkF m 100 #[.val (.int p1), .val (.int p2), .val (.int p3), .val (.int (0 : Int32)), .val (.ref a8), .val (.int (4 : Int32)), .unset, .unset] [])) _
                refine XS.sipush X10.here hx rfl (hb hby at_100) ?_
                show Steps p.tables e below (T10.setTop (mkF m 103 #[.val (.int p1), .val (.int p2), .val (.int p3), .val (.int (0 : Int32)), .val (.ref a8), .val (.int (4 : Int32)), .unset, .unset] [(.int (413 : Int32))])) _
                refine XS.istore X10.here hx rfl (hb hby at_103) rfl (l' := #[.val (.int p1), .val (.int p2), .val (.int p3), .val (.int (0 : Int32)), .val (.ref a8), .val (.int (4 : Int32)), .val (.int (413 : Int32)), .unset]) rfl ?_
                show Steps p.tables e below (T10.setTop (mkF m 105 #[.val (.int p1), .val (.int p2), .val (.int p3), .val (.int (0 : Int32)), .val (.ref a8), .val (.int (4 : Int32)), .val (.int (413 : Int32)), .unset] [])) _
                refine XS.goto X10.here hx rfl (pc0 := 105) (pc' := 125) rfl (hb hby at_105) (by decide) (by decide) ?_
                show Steps p.tables e below (T10.setTop (mkF m 125 #[.val (.int p1), .val (.int p2), .val (.int p3), .val (.int (0 : Int32)), .val (.ref a8), .val (.int (4 : Int32)), .val (.int (413 : Int32)), .unset] [])) _
                refine XS.aload X10.here hx rfl (hb hby at_125) rfl rfl ?_
                show Steps p.tables e below (T10.setTop (mkF m 127 #[.val (.int p1), .val (.int p2), .val (.int p3), .val (.int (0 : Int32)), .val (.ref a8), .val (.int (4 : Int32)), .val (.int (413 : Int32)), .unset] [(.ref a8)])) _
                refine XS.iload X10.here hx rfl (hb hby at_127) rfl ?_
                show Steps p.tables e below (T10.setTop (mkF m 129 #[.val (.int p1), .val (.int p2), .val (.int p3), .val (.int (0 : Int32)), .val (.ref a8), .val (.int (4 : Int32)), .val (.int (413 : Int32)), .unset] [(.int (413 : Int32)), (.ref a8)])) _
                refine st62 _ ?_
                show Steps p.tables e below (T62.setTop (mkF m 132 #[.val (.int p1), .val (.int p2), .val (.int p3), .val (.int (0 : Int32)), .val (.ref a8), .val (.int (4 : Int32)), .val (.int (413 : Int32)), .unset] [(.ref a50)])) _
                refine XS.astore X62.here hx rfl (hb hby at_132) rfl rfl (l' := #[.val (.int p1), .val (.int p2), .val (.int p3), .val (.int (0 : Int32)), .val (.ref a8), .val (.int (4 : Int32)), .val (.int (413 : Int32)), .val (.ref a50)]) rfl ?_
                show Steps p.tables e below (T62.setTop (mkF m 134 #[.val (.int p1), .val (.int p2), .val (.int p3), .val (.int (0 : Int32)), .val (.ref a8), .val (.int (4 : Int32)), .val (.int (413 : Int32)), .val (.ref a50)] [])) _
                refine XS.aload X62.here hx rfl (hb hby at_134) rfl rfl ?_
                show Steps p.tables e below (T62.setTop (mkF m 136 #[.val (.int p1), .val (.int p2), .val (.int p3), .val (.int (0 : Int32)), .val (.ref a8), .val (.int (4 : Int32)), .val (.int (413 : Int32)), .val (.ref a50)] [(.ref a50)])) _
                refine XS.iloadN X62.here hx rfl (hb hby at_136) rfl ?_
                show Steps p.tables e below (T62.setTop (mkF m 137 #[.val (.int p1), .val (.int p2), .val (.int p3), .val (.int (0 : Int32)), .val (.ref a8), .val (.int (4 : Int32)), .val (.int (413 : Int32)), .val (.ref a50)] [(.int (0 : Int32)), (.ref a50)])) _
                refine XS.iload X62.here hx rfl (hb hby at_137) rfl ?_
                show Steps p.tables e below (T62.setTop (mkF m 139 #[.val (.int p1), .val (.int p2), .val (.int p3), .val (.int (0 : Int32)), .val (.ref a8), .val (.int (4 : Int32)), .val (.int (413 : Int32)), .val (.ref a50)] [(.int (413 : Int32)), (.int (0 : Int32)), (.ref a50)])) _
                refine st66 _ ?_
                show Steps p.tables e below (T66.setTop (mkF m 142 #[.val (.int p1), .val (.int p2), .val (.int p3), .val (.int (0 : Int32)), .val (.ref a8), .val (.int (4 : Int32)), .val (.int (413 : Int32)), .val (.ref a50)] [(.ref a50), (.ref a50)])) _
                refine Jvm.RoadKit.acmp (g := (mkF m 142 #[.val (.int p1), .val (.int p2), .val (.int p3), .val (.int (0 : Int32)), .val (.ref a8), .val (.int (4 : Int32)), .val (.int (413 : Int32)), .val (.ref a50)] [(.ref a50), (.ref a50)])) X66 hx rfl rfl rfl (pc0 := 142) (pc' := 145) (same := true) rfl (hb hby at_142) rfl (decide_eq_true rfl) (by decide) (by decide) ?_
                show Steps p.tables e below (T66.setTop (mkF m 145 #[.val (.int p1), .val (.int p2), .val (.int p3), .val (.int (0 : Int32)), .val (.ref a8), .val (.int (4 : Int32)), .val (.int (413 : Int32)), .val (.ref a50)] [])) _
                refine XS.iconst X66.here hx rfl (hb hby at_145) ?_
                show Steps p.tables e below (T66.setTop (mkF m 146 #[.val (.int p1), .val (.int p2), .val (.int p3), .val (.int (0 : Int32)), .val (.ref a8), .val (.int (4 : Int32)), .val (.int (413 : Int32)), .val (.ref a50)] [(.int (1 : Int32))])) _
                refine XS.goto X66.here hx rfl (pc0 := 146) (pc' := 150) rfl (hb hby at_146) (by decide) (by decide) ?_
                show Steps p.tables e below (T66.setTop (mkF m 150 #[.val (.int p1), .val (.int p2), .val (.int p3), .val (.int (0 : Int32)), .val (.ref a8), .val (.int (4 : Int32)), .val (.int (413 : Int32)), .val (.ref a50)] [(.int (1 : Int32))])) _
                exact retN X66 hx (t := .boolean) Bd.returns (by simp) (hb hby at_150) hr
              · show Q0 Z _ _ _ _ _ _ _ _ _ h0 n0 _ T66.heap _
                rw [u69]
                exact ⟨rfl, N66⟩
            · skip
              have pre70 : ∀ t, Steps p.tables e below (T10.setTop (mkF m 111 #[.val (.int p1), .val (.int p2), .val (.int p3), .val (.int (0 : Int32)), .val (.ref a8), .val (.int i11), .unset, .unset] [(.int (5 : Int32)), (.int i11)])) t → Steps p.tables e below (s₁.setTop (entryFrame m #[(.int p1), (.int p2), (.int p3)] maxLocals)) t := by
                intro t kt
                refine pre60 t ?_
                show Steps p.tables e below (T10.setTop (mkF m 97 #[.val (.int p1), .val (.int p2), .val (.int p3), .val (.int (0 : Int32)), .val (.ref a8), .val (.int i11), .unset, .unset] [(.int (4 : Int32)), (.int i11)])) _
                refine XS.icmpYes X10.here hx rfl (pc0 := 97) (pc' := 108) rfl (hb hby at_97) rfl (feq hc61).2 (by decide) (by decide) ?_
                show Steps p.tables e below (T10.setTop (mkF m 108 #[.val (.int p1), .val (.int p2), .val (.int p3), .val (.int (0 : Int32)), .val (.ref a8), .val (.int i11), .unset, .unset] [])) _
                refine XS.iload X10.here hx rfl (hb hby at_108) rfl ?_
                show Steps p.tables e below (T10.setTop (mkF m 110 #[.val (.int p1), .val (.int p2), .val (.int p3), .val (.int (0 : Int32)), .val (.ref a8), .val (.int i11), .unset, .unset] [(.int i11)])) _
                refine XS.iconst X10.here hx rfl (hb hby at_110) ?_
                exact kt
              by_cases hc71 : i11 = (5 : Int32)
              · skip
                subst hc71
                obtain ⟨_, _, ⟨T72, L72, k72, n72⟩, -, X72, ⟨Lc72, hQ72, l72, y72, z72⟩, st72⟩ := Jvm.LawKit.callS X10 hx (y := M_2) hown (mvT hZ (hw _ (gw 4 rfl))) (mvT hZ (hw _ (gw 5 rfl))) (mvT hZ (hw _ (gw 6 rfl))) (mvT hZ (hw _ (gw 7 rfl))) (by decide) (backOf (W := 0) (rm1_13 l Z a0 hw [] a8 a16 h0 n0  O0 E_14 F15 S_17) hZ (hw _ (gw 7 rfl)) (hw _ (gw 6 rfl)) (by decide) (by decide)) (g := (mkF m 129 #[.val (.int p1), .val (.int p2), .val (.int p3), .val (.int (0 : Int32)), .val (.ref a8), .val (.int (5 : Int32)), .val (.int (503 : Int32)), .unset] [(.int (503 : Int32)), (.ref a8)])) rfl (by rw [hml]; rfl) (argsL := [(.ref a8), (.int (503 : Int32))]) (rest := []) (lenOf pd_1 rfl) rfl (by show 2 * 0 + _ ≤ _; exact Nat.le_of_eq rfl) (hb hby at_129) (fun _ _ => ⟨rfl, e10, (by decide : 0 + 0 ≤ _), (by decide : 0 + 0 ≤ _)⟩)
                dsimp only [Pt.U, Pt.locs, Pt.cells, Pt.slots] at X72 l72 y72 z72 st72 hQ72
                subst l72 y72 z72
                obtain ⟨rfl, u74, u75⟩ := hQ72
                have N72 := Fr.app N0 u74
                obtain ⟨_, _, ⟨T76, L76, k76, n76⟩, -, X76, ⟨Lc76, hQ76, l76, y76, z76⟩, st76⟩ := Jvm.LawKit.callS X72 hx (y := M_3) hown (mvT hZ (hw _ (gw 19 rfl))) (mvT hZ (hw _ (gw 20 rfl))) (mvT hZ (hw _ (gw 21 rfl))) (mvT hZ (hw _ (gw 22 rfl))) (by decide) (backOf (W := 1) (rm3_14 l Z a0 hw [] a16 h0 n0  O0 S_17) hZ (hw _ (gw 22 rfl)) (hw _ (gw 21 rfl)) (by decide) (by decide)) (g := (mkF m 139 #[.val (.int p1), .val (.int p2), .val (.int p3), .val (.int (0 : Int32)), .val (.ref a8), .val (.int (5 : Int32)), .val (.int (503 : Int32)), .val (.ref a16)] [(.int (503 : Int32)), (.int (0 : Int32)), (.ref a16)])) rfl (by rw [hml]; rfl) (argsL := [(.int (0 : Int32)), (.int (503 : Int32))]) (rest := [(.ref a16)]) (lenOf pd_2 rfl) rfl (by show 2 * 0 + _ ≤ _; exact Nat.le_of_eq rfl) (hb hby at_139) (fun _ _ => ⟨rfl, u75, (by decide : 0 + 0 ≤ _), (by decide : 0 + 0 ≤ _)⟩)
                dsimp only [Pt.U, Pt.locs, Pt.cells, Pt.slots] at X76 l76 y76 z76 st76 hQ76
                subst l76 y76 z76
                obtain ⟨rfl, u78, u79⟩ := hQ76
                have N76 := Fr.app N72 u78
                obtain ⟨fs, hr, hrun, hended, hW, hsame⟩ := X76.leave (v := some (.int (1 : Int32))) (fun h => by rw [Bd.returns] at h; cases h)
                refine ⟨_, _, pre70 _ ?_, hrun, hended, _, _, rfl, ?_, ⟨_, rfl⟩, hW, hsame.mono (by decide) (by decide)⟩
                · show Steps p.tables e below (T10.setTop (mkF m 111 #[.val (.int p1), .val (.int p2), .val (.int p3), .val (.int (0 : Int32)), .val (.ref a8), .val (.int (5 : Int32)), .unset, .unset] [(.int (5 : Int32)), (.int (5 : Int32))])) _
                  refine XS.icmpNo X10.here hx rfl (hb hby at_111) rfl (teq (by decide +kernel : (5 : Int32) = (5 : Int32))).2 ?_
                  show Steps p.tables e below (T10.setTop (mkF m 114 #[.val (.int p1), .val (.int p2), .val (.int p3), .val (.int (0 : Int32)), .val (.ref a8), .val (.int (5 : Int32)), .unset, .unset] [])) _
                  refine XS.sipush X10.here hx rfl (hb hby at_114) ?_
                  show Steps p.tables e below (T10.setTop (mkF m 117 #[.val (.int p1), .val (.int p2), .val (.int p3), .val (.int (0 : Int32)), .val (.ref a8), .val (.int (5 : Int32)), .unset, .unset] [(.int (503 : Int32))])) _
                  refine XS.istore X10.here hx rfl (hb hby at_117) rfl (l' := #[.val (.int p1), .val (.int p2), .val (.int p3), .val (.int (0 : Int32)), .val (.ref a8), .val (.int (5 : Int32)), .val (.int (503 : Int32)), .unset]) rfl ?_
                  show Steps p.tables e below (T10.setTop (mkF m 119 #[.val (.int p1), .val (.int p2), .val (.int p3), .val (.int (0 : Int32)), .val (.ref a8), .val (.int (5 : Int32)), .val (.int (503 : Int32)), .unset] [])) _
                  refine XS.goto X10.here hx rfl (pc0 := 119) (pc' := 125) rfl (hb hby at_119) (by decide) (by decide) ?_
                  show Steps p.tables e below (T10.setTop (mkF m 125 #[.val (.int p1), .val (.int p2), .val (.int p3), .val (.int (0 : Int32)), .val (.ref a8), .val (.int (5 : Int32)), .val (.int (503 : Int32)), .unset] [])) _
                  refine XS.aload X10.here hx rfl (hb hby at_125) rfl rfl ?_
                  show Steps p.tables e below (T10.setTop (mkF m 127 #[.val (.int p1), .val (.int p2), .val (.int p3), .val (.int (0 : Int32)), .val (.ref a8), .val (.int (5 : Int32)), .val (.int (503 : Int32)), .unset] [(.ref a8)])) _
                  refine XS.iload X10.here hx rfl (hb hby at_127) rfl ?_
                  show Steps p.tables e below (T10.setTop (mkF m 129 #[.val (.int p1), .val (.int p2), .val (.int p3), .val (.int (0 : Int32)), .val (.ref a8), .val (.int (5 : Int32)), .val (.int (503 : Int32)), .unset] [(.int (503 : Int32)), (.ref a8)])) _
                  refine st72 _ ?_
                  show Steps p.tables e below (T72.setTop (mkF m 132 #[.val (.int p1), .val (.int p2), .val (.int p3), .val (.int (0 : Int32)), .val (.ref a8), .val (.int (5 : Int32)), .val (.int (503 : Int32)), .unset] [(.ref a16)])) _
                  refine XS.astore X72.here hx rfl (hb hby at_132) rfl rfl (l' := #[.val (.int p1), .val (.int p2), .val (.int p3), .val (.int (0 : Int32)), .val (.ref a8), .val (.int (5 : Int32)), .val (.int (503 : Int32)), .val (.ref a16)]) rfl ?_
                  show Steps p.tables e below (T72.setTop (mkF m 134 #[.val (.int p1), .val (.int p2), .val (.int p3), .val (.int (0 : Int32)), .val (.ref a8), .val (.int (5 : Int32)), .val (.int (503 : Int32)), .val (.ref a16)] [])) _
                  refine XS.aload X72.here hx rfl (hb hby at_134) rfl rfl ?_
                  show Steps p.tables e below (T72.setTop (mkF m 136 #[.val (.int p1), .val (.int p2), .val (.int p3), .val (.int (0 : Int32)), .val (.ref a8), .val (.int (5 : Int32)), .val (.int (503 : Int32)), .val (.ref a16)] [(.ref a16)])) _
                  refine XS.iloadN X72.here hx rfl (hb hby at_136) rfl ?_
                  show Steps p.tables e below (T72.setTop (mkF m 137 #[.val (.int p1), .val (.int p2), .val (.int p3), .val (.int (0 : Int32)), .val (.ref a8), .val (.int (5 : Int32)), .val (.int (503 : Int32)), .val (.ref a16)] [(.int (0 : Int32)), (.ref a16)])) _
                  refine XS.iload X72.here hx rfl (hb hby at_137) rfl ?_
                  show Steps p.tables e below (T72.setTop (mkF m 139 #[.val (.int p1), .val (.int p2), .val (.int p3), .val (.int (0 : Int32)), .val (.ref a8), .val (.int (5 : Int32)), .val (.int (503 : Int32)), .val (.ref a16)] [(.int (503 : Int32)), (.int (0 : Int32)), (.ref a16)])) _
                  refine st76 _ ?_
                  show Steps p.tables e below (T76.setTop (mkF m 142 #[.val (.int p1), .val (.int p2), .val (.int p3), .val (.int (0 : Int32)), .val (.ref a8), .val (.int (5 : Int32)), .val (.int (503 : Int32)), .val (.ref a16)] [(.ref a16), (.ref a16)])) _
                  refine Jvm.RoadKit.acmp (g := (mkF m 142 #[.val (.int p1), .val (.int p2), .val (.int p3), .val (.int (0 : Int32)), .val (.ref a8), .val (.int (5 : Int32)), .val (.int (503 : Int32)), .val (.ref a16)] [(.ref a16), (.ref a16)])) X76 hx rfl rfl rfl (pc0 := 142) (pc' := 145) (same := true) rfl (hb hby at_142) rfl (decide_eq_true rfl) (by decide) (by decide) ?_
                  show Steps p.tables e below (T76.setTop (mkF m 145 #[.val (.int p1), .val (.int p2), .val (.int p3), .val (.int (0 : Int32)), .val (.ref a8), .val (.int (5 : Int32)), .val (.int (503 : Int32)), .val (.ref a16)] [])) _
                  refine XS.iconst X76.here hx rfl (hb hby at_145) ?_
                  show Steps p.tables e below (T76.setTop (mkF m 146 #[.val (.int p1), .val (.int p2), .val (.int p3), .val (.int (0 : Int32)), .val (.ref a8), .val (.int (5 : Int32)), .val (.int (503 : Int32)), .val (.ref a16)] [(.int (1 : Int32))])) _
                  refine XS.goto X76.here hx rfl (pc0 := 146) (pc' := 150) rfl (hb hby at_146) (by decide) (by decide) ?_
                  show Steps p.tables e below (T76.setTop (mkF m 150 #[.val (.int p1), .val (.int p2), .val (.int p3), .val (.int (0 : Int32)), .val (.ref a8), .val (.int (5 : Int32)), .val (.int (503 : Int32)), .val (.ref a16)] [(.int (1 : Int32))])) _
                  exact retN X76 hx (t := .boolean) Bd.returns (by simp) (hb hby at_150) hr
                · show Q0 Z _ _ _ _ _ _ _ _ _ h0 n0 _ T76.heap _
                  rw [u79]
                  exact ⟨rfl, N76⟩
              · skip
                have pre81 : ∀ t, Steps p.tables e below (T10.setTop (mkF m 129 #[.val (.int p1), .val (.int p2), .val (.int p3), .val (.int (0 : Int32)), .val (.ref a8), .val (.int i11), .val (.int p3), .unset] [(.int p3), (.ref a8)])) t → Steps p.tables e below (s₁.setTop (entryFrame m #[(.int p1), (.int p2), (.int p3)] maxLocals)) t := by
                  intro t kt
                  refine pre70 t ?_
                  show Steps p.tables e below (T10.setTop (mkF m 111 #[.val (.int p1), .val (.int p2), .val (.int p3), .val (.int (0 : Int32)), .val (.ref a8), .val (.int i11), .unset, .unset] [(.int (5 : Int32)), (.int i11)])) _
                  refine XS.icmpYes X10.here hx rfl (pc0 := 111) (pc' := 122) rfl (hb hby at_111) rfl (feq hc71).2 (by decide) (by decide) ?_
                  show Steps p.tables e below (T10.setTop (mkF m 122 #[.val (.int p1), .val (.int p2), .val (.int p3), .val (.int (0 : Int32)), .val (.ref a8), .val (.int i11), .unset, .unset] [])) _
                  refine XS.iloadN X10.here hx rfl (hb hby at_122) rfl ?_
                  show Steps p.tables e below (T10.setTop (mkF m 123 #[.val (.int p1), .val (.int p2), .val (.int p3), .val (.int (0 : Int32)), .val (.ref a8), .val (.int i11), .unset, .unset] [(.int p3)])) _
                  refine XS.istore X10.here hx rfl (hb hby at_123) rfl (l' := #[.val (.int p1), .val (.int p2), .val (.int p3), .val (.int (0 : Int32)), .val (.ref a8), .val (.int i11), .val (.int p3), .unset]) rfl ?_
                  show Steps p.tables e below (T10.setTop (mkF m 125 #[.val (.int p1), .val (.int p2), .val (.int p3), .val (.int (0 : Int32)), .val (.ref a8), .val (.int i11), .val (.int p3), .unset] [])) _
                  refine XS.aload X10.here hx rfl (hb hby at_125) rfl rfl ?_
                  show Steps p.tables e below (T10.setTop (mkF m 127 #[.val (.int p1), .val (.int p2), .val (.int p3), .val (.int (0 : Int32)), .val (.ref a8), .val (.int i11), .val (.int p3), .unset] [(.ref a8)])) _
                  refine XS.iload X10.here hx rfl (hb hby at_127) rfl ?_
                  show Steps p.tables e below (T10.setTop (mkF m 129 #[.val (.int p1), .val (.int p2), .val (.int p3), .val (.int (0 : Int32)), .val (.ref a8), .val (.int i11), .val (.int p3), .unset] [(.int p3), (.ref a8)])) _
                  exact kt
                obtain ⟨_, _, ⟨T80, L80, k80, n80⟩, -, X80, ⟨Lc80, hQ80, l80, y80, z80⟩, st80⟩ := Jvm.LawKit.callS X10 hx (y := M_2) hown (mvT hZ (hw _ (gw 4 rfl))) (mvT hZ (hw _ (gw 5 rfl))) (mvT hZ (hw _ (gw 6 rfl))) (mvT hZ (hw _ (gw 7 rfl))) (by decide) (backOf (W := 0) (rm1_15 l Z a0 hw [] a8 p3 a28 a50 a16 h0 n0  O0 E_14 F15 S_29 S_51 S_17) hZ (hw _ (gw 7 rfl)) (hw _ (gw 6 rfl)) (by decide) (by decide)) (g := (mkF m 129 #[.val (.int p1), .val (.int p2), .val (.int p3), .val (.int (0 : Int32)), .val (.ref a8), .val (.int i11), .val (.int p3), .unset] [(.int p3), (.ref a8)])) rfl (by rw [hml]; rfl) (argsL := [(.ref a8), (.int p3)]) (rest := []) (lenOf pd_1 rfl) rfl (by show 2 * 0 + _ ≤ _; exact Nat.le_of_eq rfl) (hb hby at_129) (fun _ _ => ⟨rfl, e10, (by decide : 0 + 0 ≤ _), (by decide : 0 + 0 ≤ _)⟩)
                dsimp only [Pt.U, Pt.locs, Pt.cells, Pt.slots] at X80 l80 y80 z80 st80 hQ80
                subst l80 y80 z80
                rcases hQ80 with ⟨u82, rfl, u84, u85⟩ | ⟨u86, u87, rfl, u89, u90⟩ | ⟨u91, u92, u93, rfl, u95, u96⟩ | ⟨u97, u98, u99, rfl, u101, u102⟩
                · skip
                  have N80 := Fr.app N0 u84
                  have pre103 : ∀ t, Steps p.tables e below (T80.setTop (mkF m 132 #[.val (.int p1), .val (.int p2), .val (.int p3), .val (.int (0 : Int32)), .val (.ref a8), .val (.int i11), .val (.int p3), .unset] [(.ref a28)])) t → Steps p.tables e below (s₁.setTop (entryFrame m #[(.int p1), (.int p2), (.int p3)] maxLocals)) t := by
                    intro t kt
                    refine pre81 t ?_
                    refine st80 _ ?_
                    exact kt
                  subst u82
                  obtain ⟨_, _, ⟨T104, L104, k104, n104⟩, -, X104, ⟨Lc104, hQ104, l104, y104, z104⟩, st104⟩ := Jvm.LawKit.callS X80 hx (y := M_3) hown (mvT hZ (hw _ (gw 19 rfl))) (mvT hZ (hw _ (gw 20 rfl))) (mvT hZ (hw _ (gw 21 rfl))) (mvT hZ (hw _ (gw 22 rfl))) (by decide) (backOf (W := 1) (rm3_6 l Z a0 hw [] a28 h0 n0  O0 S_29) hZ (hw _ (gw 22 rfl)) (hw _ (gw 21 rfl)) (by decide) (by decide)) (g := (mkF m 139 #[.val (.int p1), .val (.int p2), .val (.int (204 : Int32)), .val (.int (0 : Int32)), .val (.ref a8), .val (.int i11), .val (.int (204 : Int32)), .val (.ref a28)] [(.int (204 : Int32)), (.int (0 : Int32)), (.ref a28)])) rfl (by rw [hml]; rfl) (argsL := [(.int (0 : Int32)), (.int (204 : Int32))]) (rest := [(.ref a28)]) (lenOf pd_2 rfl) rfl (by show 2 * 0 + _ ≤ _; exact Nat.le_of_eq rfl) (hb hby at_139) (fun _ _ => ⟨rfl, u85, (by decide : 0 + 0 ≤ _), (by decide : 0 + 0 ≤ _)⟩)
                  dsimp only [Pt.U, Pt.locs, Pt.cells, Pt.slots] at X104 l104 y104 z104 st104 hQ104
                  subst l104 y104 z104
                  obtain ⟨rfl, u106, u107⟩ := hQ104
                  have N104 := Fr.app N80 u106
                  obtain ⟨fs, hr, hrun, hended, hW, hsame⟩ := X104.leave (v := some (.int (1 : Int32))) (fun h => by rw [Bd.returns] at h; cases h)
                  refine ⟨_, _, pre103 _ ?_, hrun, hended, _, _, rfl, ?_, ⟨_, rfl⟩, hW, hsame.mono (by decide) (by decide)⟩
                  · show Steps p.tables e below (T80.setTop (mkF m 132 #[.val (.int p1), .val (.int p2), .val (.int (204 : Int32)), .val (.int (0 : Int32)), .val (.ref a8), .val (.int i11), .val (.int (204 : Int32)), .unset] [(.ref a28)])) _
                    refine XS.astore X80.here hx rfl (hb hby at_132) rfl rfl (l' := #[.val (.int p1), .val (.int p2), .val (.int (204 : Int32)), .val (.int (0 : Int32)), .val (.ref a8), .val (.int i11), .val (.int (204 : Int32)), .val (.ref a28)]) rfl ?_
                    show Steps p.tables e below (T80.setTop (mkF m 134 #[.val (.int p1), .val (.int p2), .val (.int (204 : Int32)), .val (.int (0 : Int32)), .val (.ref a8), .val (.int i11), .val (.int (204 : Int32)), .val (.ref a28)] [])) _
                    refine XS.aload X80.here hx rfl (hb hby at_134) rfl rfl ?_
                    show Steps p.tables e below (T80.setTop (mkF m 136 #[.val (.int p1), .val (.int p2), .val (.int (204 : Int32)), .val (.int (0 : Int32)), .val (.ref a8), .val (.int i11), .val (.int (204 : Int32)), .val (.ref a28)] [(.ref a28)])) _
                    refine XS.iloadN X80.here hx rfl (hb hby at_136) rfl ?_
                    show Steps p.tables e below (T80.setTop (mkF m 137 #[.val (.int p1), .val (.int p2), .val (.int (204 : Int32)), .val (.int (0 : Int32)), .val (.ref a8), .val (.int i11), .val (.int (204 : Int32)), .val (.ref a28)] [(.int (0 : Int32)), (.ref a28)])) _
                    refine XS.iload X80.here hx rfl (hb hby at_137) rfl ?_
                    show Steps p.tables e below (T80.setTop (mkF m 139 #[.val (.int p1), .val (.int p2), .val (.int (204 : Int32)), .val (.int (0 : Int32)), .val (.ref a8), .val (.int i11), .val (.int (204 : Int32)), .val (.ref a28)] [(.int (204 : Int32)), (.int (0 : Int32)), (.ref a28)])) _
                    refine st104 _ ?_
                    show Steps p.tables e below (T104.setTop (mkF m 142 #[.val (.int p1), .val (.int p2), .val (.int (204 : Int32)), .val (.int (0 : Int32)), .val (.ref a8), .val (.int i11), .val (.int (204 : Int32)), .val (.ref a28)] [(.ref a28), (.ref a28)])) _
                    refine Jvm.RoadKit.acmp (g := (mkF m 142 #[.val (.int p1), .val (.int p2), .val (.int (204 : Int32)), .val (.int (0 : Int32)), .val (.ref a8), .val (.int i11), .val (.int (204 : Int32)), .val (.ref a28)] [(.ref a28), (.ref a28)])) X104 hx rfl rfl rfl (pc0 := 142) (pc' := 145) (same := true) rfl (hb hby at_142) rfl (decide_eq_true rfl) (by decide) (by decide) ?_
                    show Steps p.tables e below (T104.setTop (mkF m 145 #[.val (.int p1), .val (.int p2), .val (.int (204 : Int32)), .val (.int (0 : Int32)), .val (.ref a8), .val (.int i11), .val (.int (204 : Int32)), .val (.ref a28)] [])) _
                    refine XS.iconst X104.here hx rfl (hb hby at_145) ?_
                    show Steps p.tables e below (T104.setTop (mkF m 146 #[.val (.int p1), .val (.int p2), .val (.int (204 : Int32)), .val (.int (0 : Int32)), .val (.ref a8), .val (.int i11), .val (.int (204 : Int32)), .val (.ref a28)] [(.int (1 : Int32))])) _
                    refine XS.goto X104.here hx rfl (pc0 := 146) (pc' := 150) rfl (hb hby at_146) (by decide) (by decide) ?_
                    show Steps p.tables e below (T104.setTop (mkF m 150 #[.val (.int p1), .val (.int p2), .val (.int (204 : Int32)), .val (.int (0 : Int32)), .val (.ref a8), .val (.int i11), .val (.int (204 : Int32)), .val (.ref a28)] [(.int (1 : Int32))])) _
                    exact retN X104 hx (t := .boolean) Bd.returns (by simp) (hb hby at_150) hr
                  · show Q0 Z _ _ _ _ _ _ _ _ _ h0 n0 _ T104.heap _
                    rw [u107]
                    exact ⟨rfl, N104⟩
                · skip
                  have N80 := Fr.app N0 u89
                  have pre108 : ∀ t, Steps p.tables e below (T80.setTop (mkF m 132 #[.val (.int p1), .val (.int p2), .val (.int p3), .val (.int (0 : Int32)), .val (.ref a8), .val (.int i11), .val (.int p3), .unset] [(.ref a50)])) t → Steps p.tables e below (s₁.setTop (entryFrame m #[(.int p1), (.int p2), (.int p3)] maxLocals)) t := by
                    intro t kt
                    refine pre81 t ?_
                    refine st80 _ ?_
                    exact kt
                  subst u86
                  obtain ⟨_, _, ⟨T109, L109, k109, n109⟩, -, X109, ⟨Lc109, hQ109, l109, y109, z109⟩, st109⟩ := Jvm.LawKit.callS X80 hx (y := M_3) hown (mvT hZ (hw _ (gw 19 rfl))) (mvT hZ (hw _ (gw 20 rfl))) (mvT hZ (hw _ (gw 21 rfl))) (mvT hZ (hw _ (gw 22 rfl))) (by decide) (backOf (W := 1) (rm3_10 l Z a0 hw [] a50 h0 n0  O0 S_51) hZ (hw _ (gw 22 rfl)) (hw _ (gw 21 rfl)) (by decide) (by decide)) (g := (mkF m 139 #[.val (.int p1), .val (.int p2), .val (.int (400 : Int32)), .val (.int (0 : Int32)), .val (.ref a8), .val (.int i11), .val (.int (400 : Int32)), .val (.ref a50)] [(.int (400 : Int32)), (.int (0 : Int32)), (.ref a50)])) rfl (by rw [hml]; rfl) (argsL := [(.int (0 : Int32)), (.int (400 : Int32))]) (rest := [(.ref a50)]) (lenOf pd_2 rfl) rfl (by show 2 * 0 + _ ≤ _; exact Nat.le_of_eq rfl) (hb hby at_139) (fun _ _ => ⟨rfl, u90, (by decide : 0 + 0 ≤ _), (by decide : 0 + 0 ≤ _)⟩)
                  dsimp only [Pt.U, Pt.locs, Pt.cells, Pt.slots] at X109 l109 y109 z109 st109 hQ109
                  subst l109 y109 z109
                  obtain ⟨rfl, u111, u112⟩ := hQ109
                  have N109 := Fr.app N80 u111
                  obtain ⟨fs, hr, hrun, hended, hW, hsame⟩ := X109.leave (v := some (.int (1 : Int32))) (fun h => by rw [Bd.returns] at h; cases h)
                  refine ⟨_, _, pre108 _ ?_, hrun, hended, _, _, rfl, ?_, ⟨_, rfl⟩, hW, hsame.mono (by decide) (by decide)⟩
                  · show Steps p.tables e below (T80.setTop (mkF m 132 #[.val (.int p1), .val (.int p2), .val (.int (400 : Int32)), .val (.int (0 : Int32)), .val (.ref a8), .val (.int i11), .val (.int (400 : Int32)), .unset] [(.ref a50)])) _
                    refine XS.astore X80.here hx rfl (hb hby at_132) rfl rfl (l' := #[.val (.int p1), .val (.int p2), .val (.int (400 : Int32)), .val (.int (0 : Int32)), .val (.ref a8), .val (.int i11), .val (.int (400 : Int32)), .val (.ref a50)]) rfl ?_
                    show Steps p.tables e below (T80.setTop (mkF m 134 #[.val (.int p1), .val (.int p2), .val (.int (400 : Int32)), .val (.int (0 : Int32)), .val (.ref a8), .val (.int i11), .val (.int (400 : Int32)), .val (.ref a50)] [])) _
                    refine XS.aload X80.here hx rfl (hb hby at_134) rfl rfl ?_
                    show Steps p.tables e below (T80.setTop (mkF m 136 #[.val (.int p1), .val (.int p2), .val (.int (400 : Int32)), .val (.int (0 : Int32)), .val (.ref a8), .val (.int i11), .val (.int (400 : Int32)), .val (.ref a50)] [(.ref a50)])) _
                    refine XS.iloadN X80.here hx rfl (hb hby at_136) rfl ?_
                    show Steps p.tables e below (T80.setTop (mkF m 137 #[.val (.int p1), .val (.int p2), .val (.int (400 : Int32)), .val (.int (0 : Int32)), .val (.ref a8), .val (.int i11), .val (.int (400 : Int32)), .val (.ref a50)] [(.int (0 : Int32)), (.ref a50)])) _
                    refine XS.iload X80.here hx rfl (hb hby at_137) rfl ?_
                    show Steps p.tables e below (T80.setTop (mkF m 139 #[.val (.int p1), .val (.int p2), .val (.int (400 : Int32)), .val (.int (0 : Int32)), .val (.ref a8), .val (.int i11), .val (.int (400 : Int32)), .val (.ref a50)] [(.int (400 : Int32)), (.int (0 : Int32)), (.ref a50)])) _
                    refine st109 _ ?_
                    show Steps p.tables e below (T109.setTop (mkF m 142 #[.val (.int p1), .val (.int p2), .val (.int (400 : Int32)), .val (.int (0 : Int32)), .val (.ref a8), .val (.int i11), .val (.int (400 : Int32)), .val (.ref a50)] [(.ref a50), (.ref a50)])) _
                    refine Jvm.RoadKit.acmp (g := (mkF m 142 #[.val (.int p1), .val (.int p2), .val (.int (400 : Int32)), .val (.int (0 : Int32)), .val (.ref a8), .val (.int i11), .val (.int (400 : Int32)), .val (.ref a50)] [(.ref a50), (.ref a50)])) X109 hx rfl rfl rfl (pc0 := 142) (pc' := 145) (same := true) rfl (hb hby at_142) rfl (decide_eq_true rfl) (by decide) (by decide) ?_
                    show Steps p.tables e below (T109.setTop (mkF m 145 #[.val (.int p1), .val (.int p2), .val (.int (400 : Int32)), .val (.int (0 : Int32)), .val (.ref a8), .val (.int i11), .val (.int (400 : Int32)), .val (.ref a50)] [])) _
                    refine XS.iconst X109.here hx rfl (hb hby at_145) ?_
                    show Steps p.tables e below (T109.setTop (mkF m 146 #[.val (.int p1), .val (.int p2), .val (.int (400 : Int32)), .val (.int (0 : Int32)), .val (.ref a8), .val (.int i11), .val (.int (400 : Int32)), .val (.ref a50)] [(.int (1 : Int32))])) _
                    refine XS.goto X109.here hx rfl (pc0 := 146) (pc' := 150) rfl (hb hby at_146) (by decide) (by decide) ?_
                    show Steps p.tables e below (T109.setTop (mkF m 150 #[.val (.int p1), .val (.int p2), .val (.int (400 : Int32)), .val (.int (0 : Int32)), .val (.ref a8), .val (.int i11), .val (.int (400 : Int32)), .val (.ref a50)] [(.int (1 : Int32))])) _
                    exact retN X109 hx (t := .boolean) Bd.returns (by simp) (hb hby at_150) hr
                  · show Q0 Z _ _ _ _ _ _ _ _ _ h0 n0 _ T109.heap _
                    rw [u112]
                    exact ⟨rfl, N109⟩
                · skip
                  have N80 := Fr.app N0 u95
                  have pre113 : ∀ t, Steps p.tables e below (T80.setTop (mkF m 132 #[.val (.int p1), .val (.int p2), .val (.int p3), .val (.int (0 : Int32)), .val (.ref a8), .val (.int i11), .val (.int p3), .unset] [(.ref a50)])) t → Steps p.tables e below (s₁.setTop (entryFrame m #[(.int p1), (.int p2), (.int p3)] maxLocals)) t := by
                    intro t kt
                    refine pre81 t ?_
                    refine st80 _ ?_
                    exact kt
                  subst u91
                  obtain ⟨_, _, ⟨T114, L114, k114, n114⟩, -, X114, ⟨Lc114, hQ114, l114, y114, z114⟩, st114⟩ := Jvm.LawKit.callS X80 hx (y := M_3) hown (mvT hZ (hw _ (gw 19 rfl))) (mvT hZ (hw _ (gw 20 rfl))) (mvT hZ (hw _ (gw 21 rfl))) (mvT hZ (hw _ (gw 22 rfl))) (by decide) (backOf (W := 1) (rm3_12 l Z a0 hw [] a50 h0 n0  O0 S_51) hZ (hw _ (gw 22 rfl)) (hw _ (gw 21 rfl)) (by decide) (by decide)) (g := (mkF m 139 #[.val (.int p1), .val (.int p2), .val (.int (413 : Int32)), .val (.int (0 : Int32)), .val (.ref a8), .val (.int i11), .val (.int (413 : Int32)), .val (.ref a50)] [(.int (413 : Int32)), (.int (0 : Int32)), (.ref a50)])) rfl (by rw [hml]; rfl) (argsL := [(.int (0 : Int32)), (.int (413 : Int32))]) (rest := [(.ref a50)]) (lenOf pd_2 rfl) rfl (by show 2 * 0 + _ ≤ _; exact Nat.le_of_eq rfl) (hb hby at_139) (fun _ _ => ⟨rfl, u96, (by decide : 0 + 0 ≤ _), (by decide : 0 + 0 ≤ _)⟩)
                  dsimp only [Pt.U, Pt.locs, Pt.cells, Pt.slots] at X114 l114 y114 z114 st114 hQ114
                  subst l114 y114 z114
                  obtain ⟨rfl, u116, u117⟩ := hQ114
                  have N114 := Fr.app N80 u116
                  obtain ⟨fs, hr, hrun, hended, hW, hsame⟩ := X114.leave (v := some (.int (1 : Int32))) (fun h => by rw [Bd.returns] at h; cases h)
                  refine ⟨_, _, pre113 _ ?_, hrun, hended, _, _, rfl, ?_, ⟨_, rfl⟩, hW, hsame.mono (by decide) (by decide)⟩
                  · show Steps p.tables e below (T80.setTop (mkF m 132 #[.val (.int p1), .val (.int p2), .val (.int (413 : Int32)), .val (.int (0 : Int32)), .val (.ref a8), .val (.int i11), .val (.int (413 : Int32)), .unset] [(.ref a50)])) _
                    refine XS.astore X80.here hx rfl (hb hby at_132) rfl rfl (l' := #[.val (.int p1), .val (.int p2), .val (.int (413 : Int32)), .val (.int (0 : Int32)), .val (.ref a8), .val (.int i11), .val (.int (413 : Int32)), .val (.ref a50)]) rfl ?_
                    show Steps p.tables e below (T80.setTop (mkF m 134 #[.val (.int p1), .val (.int p2), .val (.int (413 : Int32)), .val (.int (0 : Int32)), .val (.ref a8), .val (.int i11), .val (.int (413 : Int32)), .val (.ref a50)] [])) _
                    refine XS.aload X80.here hx rfl (hb hby at_134) rfl rfl ?_
                    show Steps p.tables e below (T80.setTop (mkF m 136 #[.val (.int p1), .val (.int p2), .val (.int (413 : Int32)), .val (.int (0 : Int32)), .val (.ref a8), .val (.int i11), .val (.int (413 : Int32)), .val (.ref a50)] [(.ref a50)])) _
                    refine XS.iloadN X80.here hx rfl (hb hby at_136) rfl ?_
                    show Steps p.tables e below (T80.setTop (mkF m 137 #[.val (.int p1), .val (.int p2), .val (.int (413 : Int32)), .val (.int (0 : Int32)), .val (.ref a8), .val (.int i11), .val (.int (413 : Int32)), .val (.ref a50)] [(.int (0 : Int32)), (.ref a50)])) _
                    refine XS.iload X80.here hx rfl (hb hby at_137) rfl ?_
                    show Steps p.tables e below (T80.setTop (mkF m 139 #[.val (.int p1), .val (.int p2), .val (.int (413 : Int32)), .val (.int (0 : Int32)), .val (.ref a8), .val (.int i11), .val (.int (413 : Int32)), .val (.ref a50)] [(.int (413 : Int32)), (.int (0 : Int32)), (.ref a50)])) _
                    refine st114 _ ?_
                    show Steps p.tables e below (T114.setTop (mkF m 142 #[.val (.int p1), .val (.int p2), .val (.int (413 : Int32)), .val (.int (0 : Int32)), .val (.ref a8), .val (.int i11), .val (.int (413 : Int32)), .val (.ref a50)] [(.ref a50), (.ref a50)])) _
                    refine Jvm.RoadKit.acmp (g := (mkF m 142 #[.val (.int p1), .val (.int p2), .val (.int (413 : Int32)), .val (.int (0 : Int32)), .val (.ref a8), .val (.int i11), .val (.int (413 : Int32)), .val (.ref a50)] [(.ref a50), (.ref a50)])) X114 hx rfl rfl rfl (pc0 := 142) (pc' := 145) (same := true) rfl (hb hby at_142) rfl (decide_eq_true rfl) (by decide) (by decide) ?_
                    show Steps p.tables e below (T114.setTop (mkF m 145 #[.val (.int p1), .val (.int p2), .val (.int (413 : Int32)), .val (.int (0 : Int32)), .val (.ref a8), .val (.int i11), .val (.int (413 : Int32)), .val (.ref a50)] [])) _
                    refine XS.iconst X114.here hx rfl (hb hby at_145) ?_
                    show Steps p.tables e below (T114.setTop (mkF m 146 #[.val (.int p1), .val (.int p2), .val (.int (413 : Int32)), .val (.int (0 : Int32)), .val (.ref a8), .val (.int i11), .val (.int (413 : Int32)), .val (.ref a50)] [(.int (1 : Int32))])) _
                    refine XS.goto X114.here hx rfl (pc0 := 146) (pc' := 150) rfl (hb hby at_146) (by decide) (by decide) ?_
                    show Steps p.tables e below (T114.setTop (mkF m 150 #[.val (.int p1), .val (.int p2), .val (.int (413 : Int32)), .val (.int (0 : Int32)), .val (.ref a8), .val (.int i11), .val (.int (413 : Int32)), .val (.ref a50)] [(.int (1 : Int32))])) _
                    exact retN X114 hx (t := .boolean) Bd.returns (by simp) (hb hby at_150) hr
                  · show Q0 Z _ _ _ _ _ _ _ _ _ h0 n0 _ T114.heap _
                    rw [u117]
                    exact ⟨rfl, N114⟩
                · skip
                  have N80 := Fr.app N0 u101
                  have pre119 : ∀ t, Steps p.tables e below (T80.setTop (mkF m 139 #[.val (.int p1), .val (.int p2), .val (.int p3), .val (.int (0 : Int32)), .val (.ref a8), .val (.int i11), .val (.int p3), .val (.ref a16)] [(.int p3), (.int (0 : Int32)), (.ref a16)])) t → Steps p.tables e below (s₁.setTop (entryFrame m #[(.int p1), (.int p2), (.int p3)] maxLocals)) t := by
                    intro t kt
                    refine pre81 t ?_
                    refine st80 _ ?_
                    show Steps p.tables e below (T80.setTop (mkF m 132 #[.val (.int p1), .val (.int p2), .val (.int p3), .val (.int (0 : Int32)), .val (.ref a8), .val (.int i11), .val (.int p3), .unset] [(.ref a16)])) _
                    refine XS.astore X80.here hx rfl (hb hby at_132) rfl rfl (l' := #[.val (.int p1), .val (.int p2), .val (.int p3), .val (.int (0 : Int32)), .val (.ref a8), .val (.int i11), .val (.int p3), .val (.ref a16)]) rfl ?_
                    show Steps p.tables e below (T80.setTop (mkF m 134 #[.val (.int p1), .val (.int p2), .val (.int p3), .val (.int (0 : Int32)), .val (.ref a8), .val (.int i11), .val (.int p3), .val (.ref a16)] [])) _
                    refine XS.aload X80.here hx rfl (hb hby at_134) rfl rfl ?_
                    show Steps p.tables e below (T80.setTop (mkF m 136 #[.val (.int p1), .val (.int p2), .val (.int p3), .val (.int (0 : Int32)), .val (.ref a8), .val (.int i11), .val (.int p3), .val (.ref a16)] [(.ref a16)])) _
                    refine XS.iloadN X80.here hx rfl (hb hby at_136) rfl ?_
                    show Steps p.tables e below (T80.setTop (mkF m 137 #[.val (.int p1), .val (.int p2), .val (.int p3), .val (.int (0 : Int32)), .val (.ref a8), .val (.int i11), .val (.int p3), .val (.ref a16)] [(.int (0 : Int32)), (.ref a16)])) _
                    refine XS.iload X80.here hx rfl (hb hby at_137) rfl ?_
                    show Steps p.tables e below (T80.setTop (mkF m 139 #[.val (.int p1), .val (.int p2), .val (.int p3), .val (.int (0 : Int32)), .val (.ref a8), .val (.int i11), .val (.int p3), .val (.ref a16)] [(.int p3), (.int (0 : Int32)), (.ref a16)])) _
                    exact kt
                  obtain ⟨_, _, ⟨T118, L118, k118, n118⟩, -, X118, ⟨Lc118, hQ118, l118, y118, z118⟩, st118⟩ := Jvm.LawKit.callS X80 hx (y := M_3) hown (mvT hZ (hw _ (gw 19 rfl))) (mvT hZ (hw _ (gw 20 rfl))) (mvT hZ (hw _ (gw 21 rfl))) (mvT hZ (hw _ (gw 22 rfl))) (by decide) (backOf (W := 1) (rm3_16 l Z a0 hw [] p3 a16 h0 n0  O0 u97 S_17 u98 u99) hZ (hw _ (gw 22 rfl)) (hw _ (gw 21 rfl)) (by decide) (by decide)) (g := (mkF m 139 #[.val (.int p1), .val (.int p2), .val (.int p3), .val (.int (0 : Int32)), .val (.ref a8), .val (.int i11), .val (.int p3), .val (.ref a16)] [(.int p3), (.int (0 : Int32)), (.ref a16)])) rfl (by rw [hml]; rfl) (argsL := [(.int (0 : Int32)), (.int p3)]) (rest := [(.ref a16)]) (lenOf pd_2 rfl) rfl (by show 2 * 0 + _ ≤ _; exact Nat.le_of_eq rfl) (hb hby at_139) (fun _ _ => ⟨rfl, u102, (by decide : 0 + 0 ≤ _), (by decide : 0 + 0 ≤ _)⟩)
                  dsimp only [Pt.U, Pt.locs, Pt.cells, Pt.slots] at X118 l118 y118 z118 st118 hQ118
                  subst l118 y118 z118
                  rcases hQ118 with ⟨u120, rfl, u122, u123⟩ | ⟨u124, u125, rfl, u127, u128⟩ | ⟨u129, u130, rfl, u132, u133⟩
                  · skip
                    have N118 := Fr.app N80 u122
                    have pre134 : ∀ t, Steps p.tables e below (T118.setTop (mkF m 142 #[.val (.int p1), .val (.int p2), .val (.int p3), .val (.int (0 : Int32)), .val (.ref a8), .val (.int i11), .val (.int p3), .val (.ref a16)] [(.ref a16), (.ref a16)])) t → Steps p.tables e below (s₁.setTop (entryFrame m #[(.int p1), (.int p2), (.int p3)] maxLocals)) t := by
                      intro t kt
                      refine pre119 t ?_
                      refine st118 _ ?_
                      exact kt
                    subst u120
                    obtain ⟨fs, hr, hrun, hended, hW, hsame⟩ := X118.leave (v := some (.int (1 : Int32))) (fun h => by rw [Bd.returns] at h; cases h)
                    refine ⟨_, _, pre134 _ ?_, hrun, hended, _, _, rfl, ?_, ⟨_, rfl⟩, hW, hsame.mono (by decide) (by decide)⟩
                    · show Steps p.tables e below (T118.setTop (mkF m 142 #[.val (.int p1), .val (.int p2), .val (.int (200 : Int32)), .val (.int (0 : Int32)), .val (.ref a8), .val (.int i11), .val (.int (200 : Int32)), .val (.ref a16)] [(.ref a16), (.ref a16)])) _
                      refine Jvm.RoadKit.acmp (g := (mkF m 142 #[.val (.int p1), .val (.int p2), .val (.int (200 : Int32)), .val (.int (0 : Int32)), .val (.ref a8), .val (.int i11), .val (.int (200 : Int32)), .val (.ref a16)] [(.ref a16), (.ref a16)])) X118 hx rfl rfl rfl (pc0 := 142) (pc' := 145) (same := true) rfl (hb hby at_142) rfl (decide_eq_true rfl) (by decide) (by decide) ?_
                      show Steps p.tables e below (T118.setTop (mkF m 145 #[.val (.int p1), .val (.int p2), .val (.int (200 : Int32)), .val (.int (0 : Int32)), .val (.ref a8), .val (.int i11), .val (.int (200 : Int32)), .val (.ref a16)] [])) _
                      refine XS.iconst X118.here hx rfl (hb hby at_145) ?_
                      show Steps p.tables e below (T118.setTop (mkF m 146 #[.val (.int p1), .val (.int p2), .val (.int (200 : Int32)), .val (.int (0 : Int32)), .val (.ref a8), .val (.int i11), .val (.int (200 : Int32)), .val (.ref a16)] [(.int (1 : Int32))])) _
                      refine XS.goto X118.here hx rfl (pc0 := 146) (pc' := 150) rfl (hb hby at_146) (by decide) (by decide) ?_
                      show Steps p.tables e below (T118.setTop (mkF m 150 #[.val (.int p1), .val (.int p2), .val (.int (200 : Int32)), .val (.int (0 : Int32)), .val (.ref a8), .val (.int i11), .val (.int (200 : Int32)), .val (.ref a16)] [(.int (1 : Int32))])) _
                      exact retN X118 hx (t := .boolean) Bd.returns (by simp) (hb hby at_150) hr
                    · show Q0 Z _ _ _ _ _ _ _ _ _ h0 n0 _ T118.heap _
                      rw [u123]
                      exact ⟨rfl, N118⟩
                  · skip
                    have N118 := Fr.app N80 u127
                    have pre135 : ∀ t, Steps p.tables e below (T118.setTop (mkF m 142 #[.val (.int p1), .val (.int p2), .val (.int p3), .val (.int (0 : Int32)), .val (.ref a8), .val (.int i11), .val (.int p3), .val (.ref a16)] [(.ref a16), (.ref a16)])) t → Steps p.tables e below (s₁.setTop (entryFrame m #[(.int p1), (.int p2), (.int p3)] maxLocals)) t := by
                      intro t kt
                      refine pre119 t ?_
                      refine st118 _ ?_
                      exact kt
                    subst u124
                    obtain ⟨fs, hr, hrun, hended, hW, hsame⟩ := X118.leave (v := some (.int (1 : Int32))) (fun h => by rw [Bd.returns] at h; cases h)
                    refine ⟨_, _, pre135 _ ?_, hrun, hended, _, _, rfl, ?_, ⟨_, rfl⟩, hW, hsame.mono (by decide) (by decide)⟩
                    · show Steps p.tables e below (T118.setTop (mkF m 142 #[.val (.int p1), .val (.int p2), .val (.int (404 : Int32)), .val (.int (0 : Int32)), .val (.ref a8), .val (.int i11), .val (.int (404 : Int32)), .val (.ref a16)] [(.ref a16), (.ref a16)])) _
                      refine Jvm.RoadKit.acmp (g := (mkF m 142 #[.val (.int p1), .val (.int p2), .val (.int (404 : Int32)), .val (.int (0 : Int32)), .val (.ref a8), .val (.int i11), .val (.int (404 : Int32)), .val (.ref a16)] [(.ref a16), (.ref a16)])) X118 hx rfl rfl rfl (pc0 := 142) (pc' := 145) (same := true) rfl (hb hby at_142) rfl (decide_eq_true rfl) (by decide) (by decide) ?_
                      show Steps p.tables e below (T118.setTop (mkF m 145 #[.val (.int p1), .val (.int p2), .val (.int (404 : Int32)), .val (.int (0 : Int32)), .val (.ref a8), .val (.int i11), .val (.int (404 : Int32)), .val (.ref a16)] [])) _
                      refine XS.iconst X118.here hx rfl (hb hby at_145) ?_
                      show Steps p.tables e below (T118.setTop (mkF m 146 #[.val (.int p1), .val (.int p2), .val (.int (404 : Int32)), .val (.int (0 : Int32)), .val (.ref a8), .val (.int i11), .val (.int (404 : Int32)), .val (.ref a16)] [(.int (1 : Int32))])) _
                      refine XS.goto X118.here hx rfl (pc0 := 146) (pc' := 150) rfl (hb hby at_146) (by decide) (by decide) ?_
                      show Steps p.tables e below (T118.setTop (mkF m 150 #[.val (.int p1), .val (.int p2), .val (.int (404 : Int32)), .val (.int (0 : Int32)), .val (.ref a8), .val (.int i11), .val (.int (404 : Int32)), .val (.ref a16)] [(.int (1 : Int32))])) _
                      exact retN X118 hx (t := .boolean) Bd.returns (by simp) (hb hby at_150) hr
                    · show Q0 Z _ _ _ _ _ _ _ _ _ h0 n0 _ T118.heap _
                      rw [u128]
                      exact ⟨rfl, N118⟩
                  · skip
                    have N118 := Fr.app N80 u132
                    obtain ⟨fs, hr, hrun, hended, hW, hsame⟩ := X118.leave (v := some (.int (1 : Int32))) (fun h => by rw [Bd.returns] at h; cases h)
                    refine ⟨_, _, pre119 _ ?_, hrun, hended, _, _, rfl, ?_, ⟨_, rfl⟩, hW, hsame.mono (by decide) (by decide)⟩
                    · refine st118 _ ?_
                      show Steps p.tables e below (T118.setTop (mkF m 142 #[.val (.int p1), .val (.int p2), .val (.int p3), .val (.int (0 : Int32)), .val (.ref a8), .val (.int i11), .val (.int p3), .val (.ref a16)] [(.ref a16), (.ref a16)])) _
                      refine Jvm.RoadKit.acmp (g := (mkF m 142 #[.val (.int p1), .val (.int p2), .val (.int p3), .val (.int (0 : Int32)), .val (.ref a8), .val (.int i11), .val (.int p3), .val (.ref a16)] [(.ref a16), (.ref a16)])) X118 hx rfl rfl rfl (pc0 := 142) (pc' := 145) (same := true) rfl (hb hby at_142) rfl (decide_eq_true rfl) (by decide) (by decide) ?_
                      show Steps p.tables e below (T118.setTop (mkF m 145 #[.val (.int p1), .val (.int p2), .val (.int p3), .val (.int (0 : Int32)), .val (.ref a8), .val (.int i11), .val (.int p3), .val (.ref a16)] [])) _
                      refine XS.iconst X118.here hx rfl (hb hby at_145) ?_
                      show Steps p.tables e below (T118.setTop (mkF m 146 #[.val (.int p1), .val (.int p2), .val (.int p3), .val (.int (0 : Int32)), .val (.ref a8), .val (.int i11), .val (.int p3), .val (.ref a16)] [(.int (1 : Int32))])) _
                      refine XS.goto X118.here hx rfl (pc0 := 146) (pc' := 150) rfl (hb hby at_146) (by decide) (by decide) ?_
                      show Steps p.tables e below (T118.setTop (mkF m 150 #[.val (.int p1), .val (.int p2), .val (.int p3), .val (.int (0 : Int32)), .val (.ref a8), .val (.int i11), .val (.int p3), .val (.ref a16)] [(.int (1 : Int32))])) _
                      exact retN X118 hx (t := .boolean) Bd.returns (by simp) (hb hby at_150) hr
                    · show Q0 Z _ _ _ _ _ _ _ _ _ h0 n0 _ T118.heap _
                      rw [u133]
                      exact ⟨rfl, N118⟩
  · skip
    have pre136 : ∀ t, Steps p.tables e below (s₁.setTop (mkF m 19 #[.val (.int p1), .val (.int p2), .val (.int p3), .val (.int i5), .unset, .unset, .unset, .unset] [(.int (1 : Int32)), (.int i5)])) t → Steps p.tables e below (s₁.setTop (entryFrame m #[(.int p1), (.int p2), (.int p3)] maxLocals)) t := by
      intro t kt
      refine pre6 t ?_
      show Steps p.tables e below (s₁.setTop (mkF m 8 #[.val (.int p1), .val (.int p2), .val (.int p3), .val (.int i5), .unset, .unset, .unset, .unset] [(.int i5)])) _
      refine XS.ifYes X0.here hx rfl (pc0 := 8) (pc' := 17) rfl (hb hby at_8) rfl ((if0 _ _).trans (feq hc7).2) (by decide) (by decide) ?_
      show Steps p.tables e below (s₁.setTop (mkF m 17 #[.val (.int p1), .val (.int p2), .val (.int p3), .val (.int i5), .unset, .unset, .unset, .unset] [])) _
      refine XS.iloadN X0.here hx rfl (hb hby at_17) rfl ?_
      show Steps p.tables e below (s₁.setTop (mkF m 18 #[.val (.int p1), .val (.int p2), .val (.int p3), .val (.int i5), .unset, .unset, .unset, .unset] [(.int i5)])) _
      refine XS.iconst X0.here hx rfl (hb hby at_18) ?_
      exact kt
    by_cases hc137 : i5 = (1 : Int32)
    · skip
      subst hc137
      obtain ⟨T140, X140, e140, st140⟩ := getS2 X0 hx hZ hown (host := "") (Or.inl (hw _ (gw 24 rfl))) Via.refl e0 (Sta.ext O0.2 S_139) (g := (mkF m 22 #[.val (.int p1), .val (.int p2), .val (.int p3), .val (.int (1 : Int32)), .unset, .unset, .unset, .unset] [])) rfl (hb hby at_22)
      obtain ⟨i141, hi141⟩ : ∃ z, z = (p2 &&& (7 : Int32)) := ⟨_, rfl⟩
      have pre142 : ∀ t, Steps p.tables e below (T140.setTop (mkF m 41 #[.val (.int p1), .val (.int p2), .val (.int p3), .val (.int (1 : Int32)), .val (.ref a138), .val (.int i141), .unset, .unset] [(.int i141)])) t → Steps p.tables e below (s₁.setTop (entryFrame m #[(.int p1), (.int p2), (.int p3)] maxLocals)) t := by
        intro t kt
        refine pre136 t ?_
        show Steps p.tables e below (s₁.setTop (mkF m 19 #[.val (.int p1), .val (.int p2), .val (.int p3), .val (.int (1 : Int32)), .unset, .unset, .unset, .unset] [(.int (1 : Int32)), (.int (1 : Int32))])) _
        refine XS.icmpNo X0.here hx rfl (hb hby at_19) rfl (teq (by decide +kernel : (1 : Int32) = (1 : Int32))).2 ?_
        show Steps p.tables e below (s₁.setTop (mkF m 22 #[.val (.int p1), .val (.int p2), .val (.int p3), .val (.int (1 : Int32)), .unset, .unset, .unset, .unset] [])) _
        refine st140 _ ?_
        show Steps p.tables e below (T140.setTop (mkF m 25 #[.val (.int p1), .val (.int p2), .val (.int p3), .val (.int (1 : Int32)), .unset, .unset, .unset, .unset] [(.ref a138)])) _
        refine XS.goto X140.here hx rfl (pc0 := 25) (pc' := 31) rfl (hb hby at_25) (by decide) (by decide) ?_
        show Steps p.tables e below (T140.setTop (mkF m 31 #[.val (.int p1), .val (.int p2), .val (.int p3), .val (.int (1 : Int32)), .unset, .unset, .unset, .unset] [(.ref a138)])) _
        refine XS.astore X140.here hx rfl (hb hby at_31) rfl rfl (l' := #[.val (.int p1), .val (.int p2), .val (.int p3), .val (.int (1 : Int32)), .val (.ref a138), .unset, .unset, .unset]) rfl ?_
        show Steps p.tables e below (T140.setTop (mkF m 33 #[.val (.int p1), .val (.int p2), .val (.int p3), .val (.int (1 : Int32)), .val (.ref a138), .unset, .unset, .unset] [])) _
        refine XS.iloadN X140.here hx rfl (hb hby at_33) rfl ?_
        show Steps p.tables e below (T140.setTop (mkF m 34 #[.val (.int p1), .val (.int p2), .val (.int p3), .val (.int (1 : Int32)), .val (.ref a138), .unset, .unset, .unset] [(.int p2)])) _
        refine XS.bipush X140.here hx rfl (hb hby at_34) ?_
        show Steps p.tables e below (T140.setTop (mkF m 36 #[.val (.int p1), .val (.int p2), .val (.int p3), .val (.int (1 : Int32)), .val (.ref a138), .unset, .unset, .unset] [(.int (7 : Int32)), (.int p2)])) _
        refine XS.iand X140.here hx rfl (hb hby at_36) rfl ?_
        show Steps p.tables e below (T140.setTop (mkF m 37 #[.val (.int p1), .val (.int p2), .val (.int p3), .val (.int (1 : Int32)), .val (.ref a138), .unset, .unset, .unset] [(.int (p2 &&& (7 : Int32)))])) _
        rw [← hi141]
        show Steps p.tables e below (T140.setTop (mkF m 37 #[.val (.int p1), .val (.int p2), .val (.int p3), .val (.int (1 : Int32)), .val (.ref a138), .unset, .unset, .unset] [(.int i141)])) _
        refine XS.istore X140.here hx rfl (hb hby at_37) rfl (l' := #[.val (.int p1), .val (.int p2), .val (.int p3), .val (.int (1 : Int32)), .val (.ref a138), .val (.int i141), .unset, .unset]) rfl ?_
        show Steps p.tables e below (T140.setTop (mkF m 39 #[.val (.int p1), .val (.int p2), .val (.int p3), .val (.int (1 : Int32)), .val (.ref a138), .val (.int i141), .unset, .unset] [])) _
        refine XS.iload X140.here hx rfl (hb hby at_39) rfl ?_
        exact kt
      by_cases hc143 : i141 = (0 : Int32)
      · skip
        subst hc143
        obtain ⟨_, _, ⟨T146, L146, k146, n146⟩, -, X146, ⟨Lc146, hQ146, l146, y146, z146⟩, st146⟩ := Jvm.LawKit.callS X140 hx (y := M_2) hown (mvT hZ (hw _ (gw 4 rfl))) (mvT hZ (hw _ (gw 5 rfl))) (mvT hZ (hw _ (gw 6 rfl))) (mvT hZ (hw _ (gw 7 rfl))) (by decide) (backOf (W := 0) (rm1_17 l Z a0 hw [] a138 a28 h0 n0  O0 E_144 F145 S_29) hZ (hw _ (gw 7 rfl)) (hw _ (gw 6 rfl)) (by decide) (by decide)) (g := (mkF m 129 #[.val (.int p1), .val (.int p2), .val (.int p3), .val (.int (1 : Int32)), .val (.ref a138), .val (.int (0 : Int32)), .val (.int (200 : Int32)), .unset] [(.int (200 : Int32)), (.ref a138)])) rfl (by rw [hml]; rfl) (argsL := [(.ref a138), (.int (200 : Int32))]) (rest := []) (lenOf pd_1 rfl) rfl (by show 2 * 0 + _ ≤ _; exact Nat.le_of_eq rfl) (hb hby at_129) (fun _ _ => ⟨rfl, e140, (by decide : 0 + 0 ≤ _), (by decide : 0 + 0 ≤ _)⟩)
        dsimp only [Pt.U, Pt.locs, Pt.cells, Pt.slots] at X146 l146 y146 z146 st146 hQ146
        subst l146 y146 z146
        obtain ⟨rfl, u148, u149⟩ := hQ146
        have N146 := Fr.app N0 u148
        obtain ⟨_, _, ⟨T150, L150, k150, n150⟩, -, X150, ⟨Lc150, hQ150, l150, y150, z150⟩, st150⟩ := Jvm.LawKit.callS X146 hx (y := M_3) hown (mvT hZ (hw _ (gw 19 rfl))) (mvT hZ (hw _ (gw 20 rfl))) (mvT hZ (hw _ (gw 21 rfl))) (mvT hZ (hw _ (gw 22 rfl))) (by decide) (backOf (W := 1) (rm3_19 l Z a0 hw [] a28 h0 n0  O0 S_29) hZ (hw _ (gw 22 rfl)) (hw _ (gw 21 rfl)) (by decide) (by decide)) (g := (mkF m 139 #[.val (.int p1), .val (.int p2), .val (.int p3), .val (.int (1 : Int32)), .val (.ref a138), .val (.int (0 : Int32)), .val (.int (200 : Int32)), .val (.ref a28)] [(.int (200 : Int32)), (.int (1 : Int32)), (.ref a28)])) rfl (by rw [hml]; rfl) (argsL := [(.int (1 : Int32)), (.int (200 : Int32))]) (rest := [(.ref a28)]) (lenOf pd_2 rfl) rfl (by show 2 * 0 + _ ≤ _; exact Nat.le_of_eq rfl) (hb hby at_139) (fun _ _ => ⟨rfl, u149, (by decide : 0 + 0 ≤ _), (by decide : 0 + 0 ≤ _)⟩)
        dsimp only [Pt.U, Pt.locs, Pt.cells, Pt.slots] at X150 l150 y150 z150 st150 hQ150
        subst l150 y150 z150
        obtain ⟨rfl, u152, u153⟩ := hQ150
        have N150 := Fr.app N146 u152
        obtain ⟨fs, hr, hrun, hended, hW, hsame⟩ := X150.leave (v := some (.int (1 : Int32))) (fun h => by rw [Bd.returns] at h; cases h)
        refine ⟨_, _, pre142 _ ?_, hrun, hended, _, _, rfl, ?_, ⟨_, rfl⟩, hW, hsame.mono (by decide) (by decide)⟩
        · show Steps p.tables e below (T140.setTop (mkF m 41 #[.val (.int p1), .val (.int p2), .val (.int p3), .val (.int (1 : Int32)), .val (.ref a138), .val (.int (0 : Int32)), .unset, .unset] [(.int (0 : Int32))])) _
          refine XS.ifNo X140.here hx rfl (hb hby at_41) rfl ((if0 _ _).trans (teq (by decide +kernel : (0 : Int32) = (0 : Int32))).2) ?_
          show Steps p.tables e below (T140.setTop (mkF m 44 #[.val (.int p1), .val (.int p2), .val (.int p3), .val (.int (1 : Int32)), .val (.ref a138), .val (.int (0 : Int32)), .unset, .unset] [])) _
          refine XS.sipush X140.here hx rfl (hb hby at_44) ?_
          show Steps p.tables e below (T140.setTop (mkF m 47 #[.val (.int p1), .val (.int p2), .val (.int p3), .val (.int (1 : Int32)), .val (.ref a138), .val (.int (0 : Int32)), .unset, .unset] [(.int (200 : Int32))])) _
          refine XS.istore X140.here hx rfl (hb hby at_47) rfl (l' := #[.val (.int p1), .val (.int p2), .val (.int p3), .val (.int (1 : Int32)), .val (.ref a138), .val (.int (0 : Int32)), .val (.int (200 : Int32)), .unset]) rfl ?_
          show Steps p.tables e below (T140.setTop (mkF m 49 #[.val (.int p1), .val (.int p2), .val (.int p3), .val (.int (1 : Int32)), .val (.ref a138), .val (.int (0 : Int32)), .val (.int (200 : Int32)), .unset] [])) _
          refine XS.goto X140.here hx rfl (pc0 := 49) (pc' := 125) rfl (hb hby at_49) (by decide) (by decide) ?_
          show Steps p.tables e below (T140.setTop (mkF m 125 #[.val (.int p1), .val (.int p2), .val (.int p3), .val (.int (1 : Int32)), .val (.ref a138), .val (.int (0 : Int32)), .val (.int (200 : Int32)), .unset] [])) _
          refine XS.aload X140.here hx rfl (hb hby at_125) rfl rfl ?_
          show Steps p.tables e below (T140.setTop (mkF m 127 #[.val (.int p1), .val (.int p2), .val (.int p3), .val (.int (1 : Int32)), .val (.ref a138), .val (.int (0 : Int32)), .val (.int (200 : Int32)), .unset] [(.ref a138)])) _
          refine XS.iload X140.here hx rfl (hb hby at_127) rfl ?_
          show Steps p.tables e below (T140.setTop (mkF m 129 #[.val (.int p1), .val (.int p2), .val (.int p3), .val (.int (1 : Int32)), .val (.ref a138), .val (.int (0 : Int32)), .val (.int (200 : Int32)), .unset] [(.int (200 : Int32)), (.ref a138)])) _
          refine st146 _ ?_
          show Steps p.tables e below (T146.setTop (mkF m 132 #[.val (.int p1), .val (.int p2), .val (.int p3), .val (.int (1 : Int32)), .val (.ref a138), .val (.int (0 : Int32)), .val (.int (200 : Int32)), .unset] [(.ref a28)])) _
          refine XS.astore X146.here hx rfl (hb hby at_132) rfl rfl (l' := #[.val (.int p1), .val (.int p2), .val (.int p3), .val (.int (1 : Int32)), .val (.ref a138), .val (.int (0 : Int32)), .val (.int (200 : Int32)), .val (.ref a28)]) rfl ?_
          show Steps p.tables e below (T146.setTop (mkF m 134 #[.val (.int p1), .val (.int p2), .val (.int p3), .val (.int (1 : Int32)), .val (.ref a138), .val (.int (0 : Int32)), .val (.int (200 : Int32)), .val (.ref a28)] [])) _
          refine XS.aload X146.here hx rfl (hb hby at_134) rfl rfl ?_
          show Steps p.tables e below (T146.setTop (mkF m 136 #[.val (.int p1), .val (.int p2), .val (.int p3), .val (.int (1 : Int32)), .val (.ref a138), .val (.int (0 : Int32)), .val (.int (200 : Int32)), .val (.ref a28)] [(.ref a28)])) _
          refine XS.iloadN X146.here hx rfl (hb hby at_136) rfl ?_
          show Steps p.tables e below (T146.setTop (mkF m 137 #[.val (.int p1), .val (.int p2), .val (.int p3), .val (.int (1 : Int32)), .val (.ref a138), .val (.int (0 : Int32)), .val (.int (200 : Int32)), .val (.ref a28)] [(.int (1 : Int32)), (.ref a28)])) _
          refine XS.iload X146.here hx rfl (hb hby at_137) rfl ?_
          show Steps p.tables e below (T146.setTop (mkF m 139 #[.val (.int p1), .val (.int p2), .val (.int p3), .val (.int (1 : Int32)), .val (.ref a138), .val (.int (0 : Int32)), .val (.int (200 : Int32)), .val (.ref a28)] [(.int (200 : Int32)), (.int (1 : Int32)), (.ref a28)])) _
          refine st150 _ ?_
          show Steps p.tables e below (T150.setTop (mkF m 142 #[.val (.int p1), .val (.int p2), .val (.int p3), .val (.int (1 : Int32)), .val (.ref a138), .val (.int (0 : Int32)), .val (.int (200 : Int32)), .val (.ref a28)] [(.ref a28), (.ref a28)])) _
          refine Jvm.RoadKit.acmp (g := (mkF m 142 #[.val (.int p1), .val (.int p2), .val (.int p3), .val (.int (1 : Int32)), .val (.ref a138), .val (.int (0 : Int32)), .val (.int (200 : Int32)), .val (.ref a28)] [(.ref a28), (.ref a28)])) X150 hx rfl rfl rfl (pc0 := 142) (pc' := 145) (same := true) rfl (hb hby at_142) rfl (decide_eq_true rfl) (by decide) (by decide) ?_
          show Steps p.tables e below (T150.setTop (mkF m 145 #[.val (.int p1), .val (.int p2), .val (.int p3), .val (.int (1 : Int32)), .val (.ref a138), .val (.int (0 : Int32)), .val (.int (200 : Int32)), .val (.ref a28)] [])) _
          refine XS.iconst X150.here hx rfl (hb hby at_145) ?_
          show Steps p.tables e below (T150.setTop (mkF m 146 #[.val (.int p1), .val (.int p2), .val (.int p3), .val (.int (1 : Int32)), .val (.ref a138), .val (.int (0 : Int32)), .val (.int (200 : Int32)), .val (.ref a28)] [(.int (1 : Int32))])) _
          refine XS.goto X150.here hx rfl (pc0 := 146) (pc' := 150) rfl (hb hby at_146) (by decide) (by decide) ?_
          show Steps p.tables e below (T150.setTop (mkF m 150 #[.val (.int p1), .val (.int p2), .val (.int p3), .val (.int (1 : Int32)), .val (.ref a138), .val (.int (0 : Int32)), .val (.int (200 : Int32)), .val (.ref a28)] [(.int (1 : Int32))])) _
          exact retN X150 hx (t := .boolean) Bd.returns (by simp) (hb hby at_150) hr
        · show Q0 Z _ _ _ _ _ _ _ _ _ h0 n0 _ T150.heap _
          rw [u153]
          exact ⟨rfl, N150⟩
      · skip
        have pre154 : ∀ t, Steps p.tables e below (T140.setTop (mkF m 55 #[.val (.int p1), .val (.int p2), .val (.int p3), .val (.int (1 : Int32)), .val (.ref a138), .val (.int i141), .unset, .unset] [(.int (1 : Int32)), (.int i141)])) t → Steps p.tables e below (s₁.setTop (entryFrame m #[(.int p1), (.int p2), (.int p3)] maxLocals)) t := by
          intro t kt
          refine pre142 t ?_
          show Steps p.tables e below (T140.setTop (mkF m 41 #[.val (.int p1), .val (.int p2), .val (.int p3), .val (.int (1 : Int32)), .val (.ref a138), .val (.int i141), .unset, .unset] [(.int i141)])) _
          refine XS.ifYes X140.here hx rfl (pc0 := 41) (pc' := 52) rfl (hb hby at_41) rfl ((if0 _ _).trans (feq hc143).2) (by decide) (by decide) ?_
          show Steps p.tables e below (T140.setTop (mkF m 52 #[.val (.int p1), .val (.int p2), .val (.int p3), .val (.int (1 : Int32)), .val (.ref a138), .val (.int i141), .unset, .unset] [])) _
          refine XS.iload X140.here hx rfl (hb hby at_52) rfl ?_
          show Steps p.tables e below (T140.setTop (mkF m 54 #[.val (.int p1), .val (.int p2), .val (.int p3), .val (.int (1 : Int32)), .val (.ref a138), .val (.int i141), .unset, .unset] [(.int i141)])) _
          refine XS.iconst X140.here hx rfl (hb hby at_54) ?_
          exact kt
        by_cases hc155 : i141 = (1 : Int32)
        · skip
          subst hc155
          obtain ⟨_, _, ⟨T156, L156, k156, n156⟩, -, X156, ⟨Lc156, hQ156, l156, y156, z156⟩, st156⟩ := Jvm.LawKit.callS X140 hx (y := M_2) hown (mvT hZ (hw _ (gw 4 rfl))) (mvT hZ (hw _ (gw 5 rfl))) (mvT hZ (hw _ (gw 6 rfl))) (mvT hZ (hw _ (gw 7 rfl))) (by decide) (backOf (W := 0) (rm1_20 l Z a0 hw [] a138 a16 h0 n0  O0 E_144 F145 S_17) hZ (hw _ (gw 7 rfl)) (hw _ (gw 6 rfl)) (by decide) (by decide)) (g := (mkF m 129 #[.val (.int p1), .val (.int p2), .val (.int p3), .val (.int (1 : Int32)), .val (.ref a138), .val (.int (1 : Int32)), .val (.int (204 : Int32)), .unset] [(.int (204 : Int32)), (.ref a138)])) rfl (by rw [hml]; rfl) (argsL := [(.ref a138), (.int (204 : Int32))]) (rest := []) (lenOf pd_1 rfl) rfl (by show 2 * 0 + _ ≤ _; exact Nat.le_of_eq rfl) (hb hby at_129) (fun _ _ => ⟨rfl, e140, (by decide : 0 + 0 ≤ _), (by decide : 0 + 0 ≤ _)⟩)
          dsimp only [Pt.U, Pt.locs, Pt.cells, Pt.slots] at X156 l156 y156 z156 st156 hQ156
          subst l156 y156 z156
          obtain ⟨rfl, u158, u159⟩ := hQ156
          have N156 := Fr.app N0 u158
          obtain ⟨_, _, ⟨T160, L160, k160, n160⟩, -, X160, ⟨Lc160, hQ160, l160, y160, z160⟩, st160⟩ := Jvm.LawKit.callS X156 hx (y := M_3) hown (mvT hZ (hw _ (gw 19 rfl))) (mvT hZ (hw _ (gw 20 rfl))) (mvT hZ (hw _ (gw 21 rfl))) (mvT hZ (hw _ (gw 22 rfl))) (by decide) (backOf (W := 1) (rm3_21 l Z a0 hw [] a16 h0 n0  O0 S_17) hZ (hw _ (gw 22 rfl)) (hw _ (gw 21 rfl)) (by decide) (by decide)) (g := (mkF m 139 #[.val (.int p1), .val (.int p2), .val (.int p3), .val (.int (1 : Int32)), .val (.ref a138), .val (.int (1 : Int32)), .val (.int (204 : Int32)), .val (.ref a16)] [(.int (204 : Int32)), (.int (1 : Int32)), (.ref a16)])) rfl (by rw [hml]; rfl) (argsL := [(.int (1 : Int32)), (.int (204 : Int32))]) (rest := [(.ref a16)]) (lenOf pd_2 rfl) rfl (by show 2 * 0 + _ ≤ _; exact Nat.le_of_eq rfl) (hb hby at_139) (fun _ _ => ⟨rfl, u159, (by decide : 0 + 0 ≤ _), (by decide : 0 + 0 ≤ _)⟩)
          dsimp only [Pt.U, Pt.locs, Pt.cells, Pt.slots] at X160 l160 y160 z160 st160 hQ160
          subst l160 y160 z160
          obtain ⟨rfl, u162, u163⟩ := hQ160
          have N160 := Fr.app N156 u162
          obtain ⟨fs, hr, hrun, hended, hW, hsame⟩ := X160.leave (v := some (.int (1 : Int32))) (fun h => by rw [Bd.returns] at h; cases h)
          refine ⟨_, _, pre154 _ ?_, hrun, hended, _, _, rfl, ?_, ⟨_, rfl⟩, hW, hsame.mono (by decide) (by decide)⟩
          · show Steps p.tables e below (T140.setTop (mkF m 55 #[.val (.int p1), .val (.int p2), .val (.int p3), .val (.int (1 : Int32)), .val (.ref a138), .val (.int (1 : Int32)), .unset, .unset] [(.int (1 : Int32)), (.int (1 : Int32))])) _
            refine XS.icmpNo X140.here hx rfl (hb hby at_55) rfl (teq (by decide +kernel : (1 : Int32) = (1 : Int32))).2 ?_
            show Steps p.tables e below (T140.setTop (mkF m 58 #[.val (.int p1), .val (.int p2), .val (.int p3), .val (.int (1 : Int32)), .val (.ref a138), .val (.int (1 : Int32)), .unset, .unset] [])) _
            refine XS.sipush X140.here hx rfl (hb hby at_58) ?_
            show Steps p.tables e below (T140.setTop (mkF m 61 #[.val (.int p1), .val (.int p2), .val (.int p3), .val (.int (1 : Int32)), .val (.ref a138), .val (.int (1 : Int32)), .unset, .unset] [(.int (204 : Int32))])) _
            refine XS.istore X140.here hx rfl (hb hby at_61) rfl (l' := #[.val (.int p1), .val (.int p2), .val (.int p3), .val (.int (1 : Int32)), .val (.ref a138), .val (.int (1 : Int32)), .val (.int (204 : Int32)), .unset]) rfl ?_
            show Steps p.tables e below (T140.setTop (mkF m 63 #[.val (.int p1), .val (.int p2), .val (.int p3), .val (.int (1 : Int32)), .val (.ref a138), .val (.int (1 : Int32)), .val (.int (204 : Int32)), .unset] [])) _
            refine XS.goto X140.here hx rfl (pc0 := 63) (pc' := 125) rfl (hb hby at_63) (by decide) (by decide) ?_
            show Steps p.tables e below (T140.setTop (mkF m 125 #[.val (.int p1), .val (.int p2), .val (.int p3), .val (.int (1 : Int32)), .val (.ref a138), .val (.int (1 : Int32)), .val (.int (204 : Int32)), .unset] [])) _
            refine XS.aload X140.here hx rfl (hb hby at_125) rfl rfl ?_
            show Steps p.tables e below (T140.setTop (mkF m 127 #[.val (.int p1), .val (.int p2), .val (.int p3), .val (.int (1 : Int32)), .val (.ref a138), .val (.int (1 : Int32)), .val (.int (204 : Int32)), .unset] [(.ref a138)])) _
            refine XS.iload X140.here hx rfl (hb hby at_127) rfl ?_
            show Steps p.tables e below (T140.setTop (mkF m 129 #[.val (.int p1), .val (.int p2), .val (.int p3), .val (.int (1 : Int32)), .val (.ref a138), .val (.int (1 : Int32)), .val (.int (204 : Int32)), .unset] [(.int (204 : Int32)), (.ref a138)])) _
            refine st156 _ ?_
            show Steps p.tables e below (T156.setTop (mkF m 132 #[.val (.int p1), .val (.int p2), .val (.int p3), .val (.int (1 : Int32)), .val (.ref a138), .val (.int (1 : Int32)), .val (.int (204 : Int32)), .unset] [(.ref a16)])) _
            refine XS.astore X156.here hx rfl (hb hby at_132) rfl rfl (l' := #[.val (.int p1), .val (.int p2), .val (.int p3), .val (.int (1 : Int32)), .val (.ref a138), .val (.int (1 : Int32)), .val (.int (204 : Int32)), .val (.ref a16)]) rfl ?_
            show Steps p.tables e below (T156.setTop (mkF m 134 #[.val (.int p1), .val (.int p2), .val (.int p3), .val (.int (1 : Int32)), .val (.ref a138), .val (.int (1 : Int32)), .val (.int (204 : Int32)), .val (.ref a16)] [])) _
            refine XS.aload X156.here hx rfl (hb hby at_134) rfl rfl ?_
            show Steps p.tables e below (T156.setTop (mkF m 136 #[.val (.int p1), .val (.int p2), .val (.int p3), .val (.int (1 : Int32)), .val (.ref a138), .val (.int (1 : Int32)), .val (.int (204 : Int32)), .val (.ref a16)] [(.ref a16)])) _
            refine XS.iloadN X156.here hx rfl (hb hby at_136) rfl ?_
            show Steps p.tables e below (T156.setTop (mkF m 137 #[.val (.int p1), .val (.int p2), .val (.int p3), .val (.int (1 : Int32)), .val (.ref a138), .val (.int (1 : Int32)), .val (.int (204 : Int32)), .val (.ref a16)] [(.int (1 : Int32)), (.ref a16)])) _
            refine XS.iload X156.here hx rfl (hb hby at_137) rfl ?_
            show Steps p.tables e below (T156.setTop (mkF m 139 #[.val (.int p1), .val (.int p2), .val (.int p3), .val (.int (1 : Int32)), .val (.ref a138), .val (.int (1 : Int32)), .val (.int (204 : Int32)), .val (.ref a16)] [(.int (204 : Int32)), (.int (1 : Int32)), (.ref a16)])) _
            refine st160 _ ?_
            show Steps p.tables e below (T160.setTop (mkF m 142 #[.val (.int p1), .val (.int p2), .val (.int p3), .val (.int (1 : Int32)), .val (.ref a138), .val (.int (1 : Int32)), .val (.int (204 : Int32)), .val (.ref a16)] [(.ref a16), (.ref a16)])) _
            refine Jvm.RoadKit.acmp (g := (mkF m 142 #[.val (.int p1), .val (.int p2), .val (.int p3), .val (.int (1 : Int32)), .val (.ref a138), .val (.int (1 : Int32)), .val (.int (204 : Int32)), .val (.ref a16)] [(.ref a16), (.ref a16)])) X160 hx rfl rfl rfl (pc0 := 142) (pc' := 145) (same := true) rfl (hb hby at_142) rfl (decide_eq_true rfl) (by decide) (by decide) ?_
            show Steps p.tables e below (T160.setTop (mkF m 145 #[.val (.int p1), .val (.int p2), .val (.int p3), .val (.int (1 : Int32)), .val (.ref a138), .val (.int (1 : Int32)), .val (.int (204 : Int32)), .val (.ref a16)] [])) _
            refine XS.iconst X160.here hx rfl (hb hby at_145) ?_
            show Steps p.tables e below (T160.setTop (mkF m 146 #[.val (.int p1), .val (.int p2), .val (.int p3), .val (.int (1 : Int32)), .val (.ref a138), .val (.int (1 : Int32)), .val (.int (204 : Int32)), .val (.ref a16)] [(.int (1 : Int32))])) _
            refine XS.goto X160.here hx rfl (pc0 := 146) (pc' := 150) rfl (hb hby at_146) (by decide) (by decide) ?_
            show Steps p.tables e below (T160.setTop (mkF m 150 #[.val (.int p1), .val (.int p2), .val (.int p3), .val (.int (1 : Int32)), .val (.ref a138), .val (.int (1 : Int32)), .val (.int (204 : Int32)), .val (.ref a16)] [(.int (1 : Int32))])) _
            exact retN X160 hx (t := .boolean) Bd.returns (by simp) (hb hby at_150) hr
          · show Q0 Z _ _ _ _ _ _ _ _ _ h0 n0 _ T160.heap _
            rw [u163]
            exact ⟨rfl, N160⟩
        · skip
          have pre164 : ∀ t, Steps p.tables e below (T140.setTop (mkF m 69 #[.val (.int p1), .val (.int p2), .val (.int p3), .val (.int (1 : Int32)), .val (.ref a138), .val (.int i141), .unset, .unset] [(.int (2 : Int32)), (.int i141)])) t → Steps p.tables e below (s₁.setTop (entryFrame m #[(.int p1), (.int p2), (.int p3)] maxLocals)) t := by
            intro t kt
            refine pre154 t ?_
            show Steps p.tables e below (T140.setTop (mkF m 55 #[.val (.int p1), .val (.int p2), .val (.int p3), .val (.int (1 : Int32)), .val (.ref a138), .val (.int i141), .unset, .unset] [(.int (1 : Int32)), (.int i141)])) _
            refine XS.icmpYes X140.here hx rfl (pc0 := 55) (pc' := 66) rfl (hb hby at_55) rfl (feq hc155).2 (by decide) (by decide) ?_
            show Steps p.tables e below (T140.setTop (mkF m 66 #[.val (.int p1), .val (.int p2), .val (.int p3), .val (.int (1 : Int32)), .val (.ref a138), .val (.int i141), .unset, .unset] [])) _
            refine XS.iload X140.here hx rfl (hb hby at_66) rfl ?_
            show Steps p.tables e below (T140.setTop (mkF m 68 #[.val (.int p1), .val (.int p2), .val (.int p3), .val (.int (1 : Int32)), .val (.ref a138), .val (.int i141), .unset, .unset] [(.int i141)])) _
            refine XS.iconst X140.here hx rfl (hb hby at_68) ?_
            exact kt
          by_cases hc165 : i141 = (2 : Int32)
          · skip
            subst hc165
            obtain ⟨_, _, ⟨T166, L166, k166, n166⟩, -, X166, ⟨Lc166, hQ166, l166, y166, z166⟩, st166⟩ := Jvm.LawKit.callS X140 hx (y := M_2) hown (mvT hZ (hw _ (gw 4 rfl))) (mvT hZ (hw _ (gw 5 rfl))) (mvT hZ (hw _ (gw 6 rfl))) (mvT hZ (hw _ (gw 7 rfl))) (by decide) (backOf (W := 0) (rm1_22 l Z a0 hw [] a138 a28 h0 n0  O0 E_144 F145 S_29) hZ (hw _ (gw 7 rfl)) (hw _ (gw 6 rfl)) (by decide) (by decide)) (g := (mkF m 129 #[.val (.int p1), .val (.int p2), .val (.int p3), .val (.int (1 : Int32)), .val (.ref a138), .val (.int (2 : Int32)), .val (.int (404 : Int32)), .unset] [(.int (404 : Int32)), (.ref a138)])) rfl (by rw [hml]; rfl) (argsL := [(.ref a138), (.int (404 : Int32))]) (rest := []) (lenOf pd_1 rfl) rfl (by show 2 * 0 + _ ≤ _; exact Nat.le_of_eq rfl) (hb hby at_129) (fun _ _ => ⟨rfl, e140, (by decide : 0 + 0 ≤ _), (by decide : 0 + 0 ≤ _)⟩)
            dsimp only [Pt.U, Pt.locs, Pt.cells, Pt.slots] at X166 l166 y166 z166 st166 hQ166
            subst l166 y166 z166
            obtain ⟨rfl, u168, u169⟩ := hQ166
            have N166 := Fr.app N0 u168
            obtain ⟨_, _, ⟨T170, L170, k170, n170⟩, -, X170, ⟨Lc170, hQ170, l170, y170, z170⟩, st170⟩ := Jvm.LawKit.callS X166 hx (y := M_3) hown (mvT hZ (hw _ (gw 19 rfl))) (mvT hZ (hw _ (gw 20 rfl))) (mvT hZ (hw _ (gw 21 rfl))) (mvT hZ (hw _ (gw 22 rfl))) (by decide) (backOf (W := 1) (rm3_23 l Z a0 hw [] a28 h0 n0  O0 S_29) hZ (hw _ (gw 22 rfl)) (hw _ (gw 21 rfl)) (by decide) (by decide)) (g := (mkF m 139 #[.val (.int p1), .val (.int p2), .val (.int p3), .val (.int (1 : Int32)), .val (.ref a138), .val (.int (2 : Int32)), .val (.int (404 : Int32)), .val (.ref a28)] [(.int (404 : Int32)), (.int (1 : Int32)), (.ref a28)])) rfl (by rw [hml]; rfl) (argsL := [(.int (1 : Int32)), (.int (404 : Int32))]) (rest := [(.ref a28)]) (lenOf pd_2 rfl) rfl (by show 2 * 0 + _ ≤ _; exact Nat.le_of_eq rfl) (hb hby at_139) (fun _ _ => ⟨rfl, u169, (by decide : 0 + 0 ≤ _), (by decide : 0 + 0 ≤ _)⟩)
            dsimp only [Pt.U, Pt.locs, Pt.cells, Pt.slots] at X170 l170 y170 z170 st170 hQ170
            subst l170 y170 z170
            obtain ⟨rfl, u172, u173⟩ := hQ170
            have N170 := Fr.app N166 u172
            obtain ⟨fs, hr, hrun, hended, hW, hsame⟩ := X170.leave (v := some (.int (1 : Int32))) (fun h => by rw [Bd.returns] at h; cases h)
            refine ⟨_, _, pre164 _ ?_, hrun, hended, _, _, rfl, ?_, ⟨_, rfl⟩, hW, hsame.mono (by decide) (by decide)⟩
            · show Steps p.tables e below (T140.setTop (mkF m 69 #[.val (.int p1), .val (.int p2), .val (.int p3), .val (.int (1 : Int32)), .val (.ref a138), .val (.int (2 : Int32)), .unset, .unset] [(.int (2 : Int32)), (.int (2 : Int32))])) _
              refine XS.icmpNo X140.here hx rfl (hb hby at_69) rfl (teq (by decide +kernel : (2 : Int32) = (2 : Int32))).2 ?_
              show Steps p.tables e below (T140.setTop (mkF m 72 #[.val (.int p1), .val (.int p2), .val (.int p3), .val (.int (1 : Int32)), .val (.ref a138), .val (.int (2 : Int32)), .unset, .unset] [])) _
              refine XS.sipush X140.here hx rfl (hb hby at_72) ?_
              show Steps p.tables e below (T140.setTop (mkF m 75 #[.val (.int p1), .val (.int p2), .val (.int p3), .val (.int (1 : Int32)), .val (.ref a138), .val (.int (2 : Int32)), .unset, .unset] [(.int (404 : Int32))])) _
              refine XS.istore X140.here hx rfl (hb hby at_75) rfl (l' := #[.val (.int p1), .val (.int p2), .val (.int p3), .val (.int (1 : Int32)), .val (.ref a138), .val (.int (2 : Int32)), .val (.int (404 : Int32)), .unset]) rfl ?_
              show Steps p.tables e below (T140.setTop (mkF m 77 #[.val (.int p1), .val (.int p2), .val (.int p3), .val (.int (1 : Int32)), .val (.ref a138), .val (.int (2 : Int32)), .val (.int (404 : Int32)), .unset] [])) _
              refine XS.goto X140.here hx rfl (pc0 := 77) (pc' := 125) rfl (hb hby at_77) (by decide) (by decide) ?_
              show Steps p.tables e below (T140.setTop (mkF m 125 #[.val (.int p1), .val (.int p2), .val (.int p3), .val (.int (1 : Int32)), .val (.ref a138), .val (.int (2 : Int32)), .val (.int (404 : Int32)), .unset] [])) _
              refine XS.aload X140.here hx rfl (hb hby at_125) rfl rfl ?_
              show Steps p.tables e below (T140.setTop (mkF m 127 #[.val (.int p1), .val (.int p2), .val (.int p3), .val (.int (1 : Int32)), .val (.ref a138), .val (.int (2 : Int32)), .val (.int (404 : Int32)), .unset] [(.ref a138)])) _
              refine XS.iload X140.here hx rfl (hb hby at_127) rfl ?_
              show Steps p.tables e below (T140.setTop (mkF m 129 #[.val (.int p1), .val (.int p2), .val (.int p3), .val (.int (1 : Int32)), .val (.ref a138), .val (.int (2 : Int32)), .val (.int (404 : Int32)), .unset] [(.int (404 : Int32)), (.ref a138)])) _
              refine st166 _ ?_
              show Steps p.tables e below (T166.setTop (mkF m 132 #[.val (.int p1), .val (.int p2), .val (.int p3), .val (.int (1 : Int32)), .val (.ref a138), .val (.int (2 : Int32)), .val (.int (404 : Int32)), .unset] [(.ref a28)])) _
              refine XS.astore X166.here hx rfl (hb hby at_132) rfl rfl (l' := #[.val (.int p1), .val (.int p2), .val (.int p3), .val (.int (1 : Int32)), .val (.ref a138), .val (.int (2 : Int32)), .val (.int (404 : Int32)), .val (.ref a28)]) rfl ?_
              show Steps p.tables e below (T166.setTop (mkF m 134 #[.val (.int p1), .val (.int p2), .val (.int p3), .val (.int (1 : Int32)), .val (.ref a138), .val (.int (2 : Int32)), .val (.int (404 : Int32)), .val (.ref a28)] [])) _
              refine XS.aload X166.here hx rfl (hb hby at_134) rfl rfl ?_
              show Steps p.tables e below (T166.setTop (mkF m 136 #[.val (.int p1), .val (.int p2), .val (.int p3), .val (.int (1 : Int32)), .val (.ref a138), .val (.int (2 : Int32)), .val (.int (404 : Int32)), .val (.ref a28)] [(.ref a28)])) _
              refine XS.iloadN X166.here hx rfl (hb hby at_136) rfl ?_
              show Steps p.tables e below (T166.setTop (mkF m 137 #[.val (.int p1), .val (.int p2), .val (.int p3), .val (.int (1 : Int32)), .val (.ref a138), .val (.int (2 : Int32)), .val (.int (404 : Int32)), .val (.ref a28)] [(.int (1 : Int32)), (.ref a28)])) _
              refine XS.iload X166.here hx rfl (hb hby at_137) rfl ?_
              show Steps p.tables e below (T166.setTop (mkF m 139 #[.val (.int p1), .val (.int p2), .val (.int p3), .val (.int (1 : Int32)), .val (.ref a138), .val (.int (2 : Int32)), .val (.int (404 : Int32)), .val (.ref a28)] [(.int (404 : Int32)), (.int (1 : Int32)), (.ref a28)])) _
              refine st170 _ ?_
              show Steps p.tables e below (T170.setTop (mkF m 142 #[.val (.int p1), .val (.int p2), .val (.int p3), .val (.int (1 : Int32)), .val (.ref a138), .val (.int (2 : Int32)), .val (.int (404 : Int32)), .val (.ref a28)] [(.ref a28), (.ref a28)])) _
              refine Jvm.RoadKit.acmp (g := (mkF m 142 #[.val (.int p1), .val (.int p2), .val (.int p3), .val (.int (1 : Int32)), .val (.ref a138), .val (.int (2 : Int32)), .val (.int (404 : Int32)), .val (.ref a28)] [(.ref a28), (.ref a28)])) X170 hx rfl rfl rfl (pc0 := 142) (pc' := 145) (same := true) rfl (hb hby at_142) rfl (decide_eq_true rfl) (by decide) (by decide) ?_
              show Steps p.tables e below (T170.setTop (mkF m 145 #[.val (.int p1), .val (.int p2), .val (.int p3), .val (.int (1 : Int32)), .val (.ref a138), .val (.int (2 : Int32)), .val (.int (404 : Int32)), .val (.ref a28)] [])) _
              refine XS.iconst X170.here hx rfl (hb hby at_145) ?_
              show Steps p.tables e below (T170.setTop (mkF m 146 #[.val (.int p1), .val (.int p2), .val (.int p3), .val (.int (1 : Int32)), .val (.ref a138), .val (.int (2 : Int32)), .val (.int (404 : Int32)), .val (.ref a28)] [(.int (1 : Int32))])) _
              refine XS.goto X170.here hx rfl (pc0 := 146) (pc' := 150) rfl (hb hby at_146) (by decide) (by decide) ?_
              show Steps p.tables e below (T170.setTop (mkF m 150 #[.val (.int p1), .val (.int p2), .val (.int p3), .val (.int (1 : Int32)), .val (.ref a138), .val (.int (2 : Int32)), .val (.int (404 : Int32)), .val (.ref a28)] [(.int (1 : Int32))])) _
              exact retN X170 hx (t := .boolean) Bd.returns (by simp) (hb hby at_150) hr
            · show Q0 Z _ _ _ _ _ _ _ _ _ h0 n0 _ T170.heap _
              rw [u173]
              exact ⟨rfl, N170⟩
          · skip
            have pre174 : ∀ t, Steps p.tables e below (T140.setTop (mkF m 83 #[.val (.int p1), .val (.int p2), .val (.int p3), .val (.int (1 : Int32)), .val (.ref a138), .val (.int i141), .unset, .unset] [(.int (3 : Int32)), (.int i141)])) t → Steps p.tables e below (s₁.setTop (entryFrame m #[(.int p1), (.int p2), (.int p3)] maxLocals)) t := by
              intro t kt
              refine pre164 t ?_
              show Steps p.tables e below (T140.setTop (mkF m 69 #[.val (.int p1), .val (.int p2), .val (.int p3), .val (.int (1 : Int32)), .val (.ref a138), .val (.int i141), .unset, .unset] [(.int (2 : Int32)), (.int i141)])) _
              refine XS.icmpYes X140.here hx rfl (pc0 := 69) (pc' := 80) rfl (hb hby at_69) rfl (feq hc165).2 (by decide) (by decide) ?_
              show Steps p.tables e below (T140.setTop (mkF m 80 #[.val (.int p1), .val (.int p2), .val (.int p3), .val (.int (1 : Int32)), .val (.ref a138), .val (.int i141), .unset, .unset] [])) _
              refine XS.iload X140.here hx rfl (hb hby at_80) rfl ?_
              show Steps p.tables e below (T140.setTop (mkF m 82 #[.val (.int p1), .val (.int p2), .val (.int p3), .val (.int (1 : Int32)), .val (.ref a138), .val (.int i141), .unset, .unset] [(.int i141)])) _
              refine XS.iconst X140.here hx rfl (hb hby at_82) ?_
              exact kt
            by_cases hc175 : i141 = (3 : Int32)
            · skip
              subst hc175
              obtain ⟨_, _, ⟨T176, L176, k176, n176⟩, -, X176, ⟨Lc176, hQ176, l176, y176, z176⟩, st176⟩ := Jvm.LawKit.callS X140 hx (y := M_2) hown (mvT hZ (hw _ (gw 4 rfl))) (mvT hZ (hw _ (gw 5 rfl))) (mvT hZ (hw _ (gw 6 rfl))) (mvT hZ (hw _ (gw 7 rfl))) (by decide) (backOf (W := 0) (rm1_24 l Z a0 hw [] a138 a50 h0 n0  O0 E_144 F145 S_51) hZ (hw _ (gw 7 rfl)) (hw _ (gw 6 rfl)) (by decide) (by decide)) (g := (mkF m 129 #[.val (.int p1), .val (.int p2), .val (.int p3), .val (.int (1 : Int32)), .val (.ref a138), .val (.int (3 : Int32)), .val (.int (400 : Int32)), .unset] [(.int (400 : Int32)), (.ref a138)])) rfl (by rw [hml]; rfl) (argsL := [(.ref a138), (.int (400 : Int32))]) (rest := []) (lenOf pd_1 rfl) rfl (by show 2 * 0 + _ ≤ _; exact Nat.le_of_eq rfl) (hb hby at_129) (fun _ _ => ⟨rfl, e140, (by decide : 0 + 0 ≤ _), (by decide : 0 + 0 ≤ _)⟩)
              dsimp only [Pt.U, Pt.locs, Pt.cells, Pt.slots] at X176 l176 y176 z176 st176 hQ176
              subst l176 y176 z176
              obtain ⟨rfl, u178, u179⟩ := hQ176
              have N176 := Fr.app N0 u178
              obtain ⟨_, _, ⟨T180, L180, k180, n180⟩, -, X180, ⟨Lc180, hQ180, l180, y180, z180⟩, st180⟩ := Jvm.LawKit.callS X176 hx (y := M_3) hown (mvT hZ (hw _ (gw 19 rfl))) (mvT hZ (hw _ (gw 20 rfl))) (mvT hZ (hw _ (gw 21 rfl))) (mvT hZ (hw _ (gw 22 rfl))) (by decide) (backOf (W := 1) (rm3_25 l Z a0 hw [] a50 h0 n0  O0 S_51) hZ (hw _ (gw 22 rfl)) (hw _ (gw 21 rfl)) (by decide) (by decide)) (g := (mkF m 139 #[.val (.int p1), .val (.int p2), .val (.int p3), .val (.int (1 : Int32)), .val (.ref a138), .val (.int (3 : Int32)), .val (.int (400 : Int32)), .val (.ref a50)] [(.int (400 : Int32)), (.int (1 : Int32)), (.ref a50)])) rfl (by rw [hml]; rfl) (argsL := [(.int (1 : Int32)), (.int (400 : Int32))]) (rest := [(.ref a50)]) (lenOf pd_2 rfl) rfl (by show 2 * 0 + _ ≤ _; exact Nat.le_of_eq rfl) (hb hby at_139) (fun _ _ => ⟨rfl, u179, (by decide : 0 + 0 ≤ _), (by decide : 0 + 0 ≤ _)⟩)
              dsimp only [Pt.U, Pt.locs, Pt.cells, Pt.slots] at X180 l180 y180 z180 st180 hQ180
              subst l180 y180 z180
              obtain ⟨rfl, u182, u183⟩ := hQ180
              have N180 := Fr.app N176 u182
              obtain ⟨fs, hr, hrun, hended, hW, hsame⟩ := X180.leave (v := some (.int (1 : Int32))) (fun h => by rw [Bd.returns] at h; cases h)
              refine ⟨_, _, pre174 _ ?_, hrun, hended, _, _, rfl, ?_, ⟨_, rfl⟩, hW, hsame.mono (by decide) (by decide)⟩
              · show Steps p.tables e below (T140.setTop (mkF m 83 #[.val (.int p1), .val (.int p2), .val (.int p3), .val (.int (1 : Int32)), .val (.ref a138), .val (.int (3 : Int32)), .unset, .unset] [(.int (3 : Int32)), (.int (3 : Int32))])) _
                refine XS.icmpNo X140.here hx rfl (hb hby at_83) rfl (teq (by decide +kernel : (3 : Int32) = (3 : Int32))).2 ?_
                show Steps p.tables e below (T140.setTop (mkF m 86 #[.val (.int p1), .val (.int p2), .val (.int p3), .val (.int (1 : Int32)), .val (.ref a138), .val (.int (3 : Int32)), .unset, .unset] [])) _
                refine XS.sipush X140.here hx rfl (hb hby at_86) ?_
                show Steps p.tables e below (T140.setTop (mkF m 89 #[.val (.int p1), .val (.int p2), .val (.int p3), .val (.int (1 : Int32)), .val (.ref a138), .val (.int (3 : Int32)), .unset, .unset] [(.int (400 : Int32))])) _
                refine XS.istore X140.here hx rfl (hb hby at_89) rfl (l' := #[.val (.int p1), .val (.int p2), .val (.int p3), .val (.int (1 : Int32)), .val (.ref a138), .val (.int (3 : Int32)), .val (.int (400 : Int32)), .unset]) rfl ?_
                show Steps p.tables e below (T140.setTop (mkF m 91 #[.val (.int p1), .val (.int p2), .val (.int p3), .val (.int (1 : Int32)), .val (.ref a138), .val (.int (3 : Int32)), .val (.int (400 : Int32)), .unset] [])) _
                refine XS.goto X140.here hx rfl (pc0 := 91) (pc' := 125) rfl (hb hby at_91) (by decide) (by decide) ?_
                show Steps p.tables e below (T140.setTop (mkF m 125 #[.val (.int p1), .val (.int p2), .val (.int p3), .val (.int (1 : Int32)), .val (.ref a138), .val (.int (3 : Int32)), .val (.int (400 : Int32)), .unset] [])) _
                refine XS.aload X140.here hx rfl (hb hby at_125) rfl rfl ?_
                show Steps p.tables e below (T140.setTop (mkF m 127 #[.val (.int p1), .val (.int p2), .val (.int p3), .val (.int (1 : Int32)), .val (.ref a138), .val (.int (3 : Int32)), .val (.int (400 : Int32)), .unset] [(.ref a138)])) _
                refine XS.iload X140.here hx rfl (hb hby at_127) rfl ?_
                show Steps p.tables e below (T140.setTop (mkF m 129 #[.val (.int p1), .val (.int p2), .val (.int p3), .val (.int (1 : Int32)), .val (.ref a138), .val (.int (3 : Int32)), .val (.int (400 : Int32)), .unset] [(.int (400 : Int32)), (.ref a138)])) _
                refine st176 _ ?_
                show Steps p.tables e below (T176.setTop (mkF m 132 #[.val (.int p1), .val (.int p2), .val (.int p3), .val (.int (1 : Int32)), .val (.ref a138), .val (.int (3 : Int32)), .val (.int (400 : Int32)), .unset] [(.ref a50)])) _
                refine XS.astore X176.here hx rfl (hb hby at_132) rfl rfl (l' := #[.val (.int p1), .val (.int p2), .val (.int p3), .val (.int (1 : Int32)), .val (.ref a138), .val (.int (3 : Int32)), .val (.int (400 : Int32)), .val (.ref a50)]) rfl ?_
                show Steps p.tables e below (T176.setTop (mkF m 134 #[.val (.int p1), .val (.int p2), .val (.int p3), .val (.int (1 : Int32)), .val (.ref a138), .val (.int (3 : Int32)), .val (.int (400 : Int32)), .val (.ref a50)] [])) _
                refine XS.aload X176.here hx rfl (hb hby at_134) rfl rfl ?_
                show Steps p.tables e below (T176.setTop (mkF m 136 #[.val (.int p1), .val (.int p2), .val (.int p3), .val (.int (1 : Int32)), .val (.ref a138), .val (.int (3 : Int32)), .val (.int (400 : Int32)), .val (.ref a50)] [(.ref a50)])) _
                refine XS.iloadN X176.here hx rfl (hb hby at_136) rfl ?_
                show Steps p.tables e below (T176.setTop (mkF m 137 #[.val (.int p1), .val (.int p2), .val (.int p3), .val (.int (1 : Int32)), .val (.ref a138), .val (.int (3 : Int32)), .val (.int (400 : Int32)), .val (.ref a50)] [(.int (1 : Int32)), (.ref a50)])) _
                refine XS.iload X176.here hx rfl (hb hby at_137) rfl ?_
                show Steps p.tables e below (T176.setTop (mkF m 139 #[.val (.int p1), .val (.int p2), .val (.int p3), .val (.int (1 : Int32)), .val (.ref a138), .val (.int (3 : Int32)), .val (.int (400 : Int32)), .val (.ref a50)] [(.int (400 : Int32)), (.int (1 : Int32)), (.ref a50)])) _
                refine st180 _ ?_
                show Steps p.tables e below (T180.setTop (mkF m 142 #[.val (.int p1), .val (.int p2), .val (.int p3), .val (.int (1 : Int32)), .val (.ref a138), .val (.int (3 : Int32)), .val (.int (400 : Int32)), .val (.ref a50)] [(.ref a50), (.ref a50)])) _
                refine Jvm.RoadKit.acmp (g := (mkF m 142 #[.val (.int p1), .val (.int p2), .val (.int p3), .val (.int (1 : Int32)), .val (.ref a138), .val (.int (3 : Int32)), .val (.int (400 : Int32)), .val (.ref a50)] [(.ref a50), (.ref a50)])) X180 hx rfl rfl rfl (pc0 := 142) (pc' := 145) (same := true) rfl (hb hby at_142) rfl (decide_eq_true rfl) (by decide) (by decide) ?_
                show Steps p.tables e below (T180.setTop (mkF m 145 #[.val (.int p1), .val (.int p2), .val (.int p3), .val (.int (1 : Int32)), .val (.ref a138), .val (.int (3 : Int32)), .val (.int (400 : Int32)), .val (.ref a50)] [])) _
                refine XS.iconst X180.here hx rfl (hb hby at_145) ?_
                show Steps p.tables e below (T180.setTop (mkF m 146 #[.val (.int p1), .val (.int p2), .val (.int p3), .val (.int (1 : Int32)), .val (.ref a138), .val (.int (3 : Int32)), .val (.int (400 : Int32)), .val (.ref a50)] [(.int (1 : Int32))])) _
                refine XS.goto X180.here hx rfl (pc0 := 146) (pc' := 150) rfl (hb hby at_146) (by decide) (by decide) ?_
                show Steps p.tables e below (T180.setTop (mkF m 150 #[.val (.int p1), .val (.int p2), .val (.int p3), .val (.int (1 : Int32)), .val (.ref a138), .val (.int (3 : Int32)), .val (.int (400 : Int32)), .val (.ref a50)] [(.int (1 : Int32))])) _
                exact retN X180 hx (t := .boolean) Bd.returns (by simp) (hb hby at_150) hr
              · show Q0 Z _ _ _ _ _ _ _ _ _ h0 n0 _ T180.heap _
                rw [u183]
                exact ⟨rfl, N180⟩
            · skip
              have pre184 : ∀ t, Steps p.tables e below (T140.setTop (mkF m 97 #[.val (.int p1), .val (.int p2), .val (.int p3), .val (.int (1 : Int32)), .val (.ref a138), .val (.int i141), .unset, .unset] [(.int (4 : Int32)), (.int i141)])) t → Steps p.tables e below (s₁.setTop (entryFrame m #[(.int p1), (.int p2), (.int p3)] maxLocals)) t := by
                intro t kt
                refine pre174 t ?_
                show Steps p.tables e below (T140.setTop (mkF m 83 #[.val (.int p1), .val (.int p2), .val (.int p3), .val (.int (1 : Int32)), .val (.ref a138), .val (.int i141), .unset, .unset] [(.int (3 : Int32)), (.int i141)])) _
                refine XS.icmpYes X140.here hx rfl (pc0 := 83) (pc' := 94) rfl (hb hby at_83) rfl (feq hc175).2 (by decide) (by decide) ?_
                show Steps p.tables e below (T140.setTop (mkF m 94 #[.val (.int p1), .val (.int p2), .val (.int p3), .val (.int (1 : Int32)), .val (.ref a138), .val (.int i141), .unset, .unset] [])) _
                refine XS.iload X140.here hx rfl (hb hby at_94) rfl ?_
                show Steps p.tables e below (T140.setTop (mkF m 96 #[.val (.int p1), .val (.int p2), .val (.int p3), .val (.int (1 : Int32)), .val (.ref a138), .val (.int i141), .unset, .unset] [(.int i141)])) _
                refine XS.iconst X140.here hx rfl (hb hby at_96) ?_
                exact kt
              by_cases hc185 : i141 = (4 : Int32)
              · skip
                subst hc185
                obtain ⟨_, _, ⟨T186, L186, k186, n186⟩, -, X186, ⟨Lc186, hQ186, l186, y186, z186⟩, st186⟩ := Jvm.LawKit.callS X140 hx (y := M_2) hown (mvT hZ (hw _ (gw 4 rfl))) (mvT hZ (hw _ (gw 5 rfl))) (mvT hZ (hw _ (gw 6 rfl))) (mvT hZ (hw _ (gw 7 rfl))) (by decide) (backOf (W := 0) (rm1_26 l Z a0 hw [] a138 a50 h0 n0  O0 E_144 F145 S_51) hZ (hw _ (gw 7 rfl)) (hw _ (gw 6 rfl)) (by decide) (by decide)) (g := (mkF m 129 #[.val (.int p1), .val (.int p2), .val (.int p3), .val (.int (1 : Int32)), .val (.ref a138), .val (.int (4 : Int32)), .val (.int (413 : Int32)), .unset] [(.int (413 : Int32)), (.ref a138)])) rfl (by rw [hml]; rfl) (argsL := [(.ref a138), (.int (413 : Int32))]) (rest := []) (lenOf pd_1 rfl) rfl (by show 2 * 0 + _ ≤ _; exact Nat.le_of_eq rfl) (hb hby at_129) (fun _ _ => ⟨rfl, e140, (by decide : 0 + 0 ≤ _), (by decide : 0 + 0 ≤ _)⟩)
                dsimp only [Pt.U, Pt.locs, Pt.cells, Pt.slots] at X186 l186 y186 z186 st186 hQ186
                subst l186 y186 z186
                obtain ⟨rfl, u188, u189⟩ := hQ186
                have N186 := Fr.app N0 u188
                obtain ⟨_, _, ⟨T190, L190, k190, n190⟩, -, X190, ⟨Lc190, hQ190, l190, y190, z190⟩, st190⟩ := Jvm.LawKit.callS X186 hx (y := M_3) hown (mvT hZ (hw _ (gw 19 rfl))) (mvT hZ (hw _ (gw 20 rfl))) (mvT hZ (hw _ (gw 21 rfl))) (mvT hZ (hw _ (gw 22 rfl))) (by decide) (backOf (W := 1) (rm3_27 l Z a0 hw [] a50 h0 n0  O0 S_51) hZ (hw _ (gw 22 rfl)) (hw _ (gw 21 rfl)) (by decide) (by decide)) (g := (mkF m 139 #[.val (.int p1), .val (.int p2), .val (.int p3), .val (.int (1 : Int32)), .val (.ref a138), .val (.int (4 : Int32)), .val (.int (413 : Int32)), .val (.ref a50)] [(.int (413 : Int32)), (.int (1 : Int32)), (.ref a50)])) rfl (by rw [hml]; rfl) (argsL := [(.int (1 : Int32)), (.int (413 : Int32))]) (rest := [(.ref a50)]) (lenOf pd_2 rfl) rfl (by show 2 * 0 + _ ≤ _; exact Nat.le_of_eq rfl) (hb hby at_139) (fun _ _ => ⟨rfl, u189, (by decide : 0 + 0 ≤ _), (by decide : 0 + 0 ≤ _)⟩)
                dsimp only [Pt.U, Pt.locs, Pt.cells, Pt.slots] at X190 l190 y190 z190 st190 hQ190
                subst l190 y190 z190
                obtain ⟨rfl, u192, u193⟩ := hQ190
                have N190 := Fr.app N186 u192
                obtain ⟨fs, hr, hrun, hended, hW, hsame⟩ := X190.leave (v := some (.int (1 : Int32))) (fun h => by rw [Bd.returns] at h; cases h)
                refine ⟨_, _, pre184 _ ?_, hrun, hended, _, _, rfl, ?_, ⟨_, rfl⟩, hW, hsame.mono (by decide) (by decide)⟩
                · show Steps p.tables e below (T140.setTop (mkF m 97 #[.val (.int p1), .val (.int p2), .val (.int p3), .val (.int (1 : Int32)), .val (.ref a138), .val (.int (4 : Int32)), .unset, .unset] [(.int (4 : Int32)), (.int (4 : Int32))])) _
                  refine XS.icmpNo X140.here hx rfl (hb hby at_97) rfl (teq (by decide +kernel : (4 : Int32) = (4 : Int32))).2 ?_
                  show Steps p.tables e below (T140.setTop (mkF m 100 #[.val (.int p1), .val (.int p2), .val (.int p3), .val (.int (1 : Int32)), .val (.ref a138), .val (.int (4 : Int32)), .unset, .unset] [])) _
                  refine XS.sipush X140.here hx rfl (hb hby at_100) ?_
                  show Steps p.tables e below (T140.setTop (mkF m 103 #[.val (.int p1), .val (.int p2), .val (.int p3), .val (.int (1 : Int32)), .val (.ref a138), .val (.int (4 : Int32)), .unset, .unset] [(.int (413 : Int32))])) _
                  refine XS.istore X140.here hx rfl (hb hby at_103) rfl (l' := #[.val (.int p1), .val (.int p2), .val (.int p3), .val (.int (1 : Int32)), .val (.ref a138), .val (.int (4 : Int32)), .val (.int (413 : Int32)), .unset]) rfl ?_
                  show Steps p.tables e below (T140.setTop (mkF m 105 #[.val (.int p1), .val (.int p2), .val (.int p3), .val (.int (1 : Int32)), .val (.ref a138), .val (.int (4 : Int32)), .val (.int (413 : Int32)), .unset] [])) _
                  refine XS.goto X140.here hx rfl (pc0 := 105) (pc' := 125) rfl (hb hby at_105) (by decide) (by decide) ?_
                  show Steps p.tables e below (T140.setTop (mkF m 125 #[.val (.int p1), .val (.int p2), .val (.int p3), .val (.int (1 : Int32)), .val (.ref a138), .val (.int (4 : Int32)), .val (.int (413 : Int32)), .unset] [])) _
                  refine XS.aload X140.here hx rfl (hb hby at_125) rfl rfl ?_
                  show Steps p.tables e below (T140.setTop (mkF m 127 #[.val (.int p1), .val (.int p2), .val (.int p3), .val (.int (1 : Int32)), .val (.ref a138), .val (.int (4 : Int32)), .val (.int (413 : Int32)), .unset] [(.ref a138)])) _
                  refine XS.iload X140.here hx rfl (hb hby at_127) rfl ?_
                  show Steps p.tables e below (T140.setTop (mkF m 129 #[.val (.int p1), .val (.int p2), .val (.int p3), .val (.int (1 : Int32)), .val (.ref a138), .val (.int (4 : Int32)), .val (.int (413 : Int32)), .unset] [(.int (413 : Int32)), (.ref a138)])) _
                  refine st186 _ ?_
                  show Steps p.tables e below (T186.setTop (mkF m 132 #[.val (.int p1), .val (.int p2), .val (.int p3), .val (.int (1 : Int32)), .val (.ref a138), .val (.int (4 : Int32)), .val (.int (413 : Int32)), .unset] [(.ref a50)])) _
                  refine XS.astore X186.here hx rfl (hb hby at_132) rfl rfl (l' := #[.val (.int p1), .val (.int p2), .val (.int p3), .val (.int (1 : Int32)), .val (.ref a138), .val (.int (4 : Int32)), .val (.int (413 : Int32)), .val (.ref a50)]) rfl ?_
                  show Steps p.tables e below (T186.setTop (mkF m 134 #[.val (.int p1), .val (.int p2), .val (.int p3), .val (.int (1 : Int32)), .val (.ref a138), .val (.int (4 : Int32)), .val (.int (413 : Int32)), .val (.ref a50)] [])) _
                  refine XS.aload X186.here hx rfl (hb hby at_134) rfl rfl ?_
                  show Steps p.tables e below (T186.setTop (mkF m 136 #[.val (.int p1), .val (.int p2), .val (.int p3), .val (.int (1 : Int32)), .val (.ref a138), .val (.int (4 : Int32)), .val (.int (413 : Int32)), .val (.ref a50)] [(.ref a50)])) _
                  refine XS.iloadN X186.here hx rfl (hb hby at_136) rfl ?_
                  show Steps p.tables e below (T186.setTop (mkF m 137 #[.val (.int p1), .val (.int p2), .val (.int p3), .val (.int (1 : Int32)), .val (.ref a138), .val (.int (4 : Int32)), .val (.int (413 : Int32)), .val (.ref a50)] [(.int (1 : Int32)), (.ref a50)])) _
                  refine XS.iload X186.here hx rfl (hb hby at_137) rfl ?_
                  show Steps p.tables e below (T186.setTop (mkF m 139 #[.val (.int p1), .val (.int p2), .val (.int p3), .val (.int (1 : Int32)), .val (.ref a138), .val (.int (4 : Int32)), .val (.int (413 : Int32)), .val (.ref a50)] [(.int (413 : Int32)), (.int (1 : Int32)), (.ref a50)])) _
                  refine st190 _ ?_
                  show Steps p.tables e below (T190.setTop (mkF m 142 #[.val (.int p1), .val (.int p2), .val (.int p3), .val (.int (1 : Int32)), .val (.ref a138), .val (.int (4 : Int32)), .val (.int (413 : Int32)), .val (.ref a50)] [(.ref a50), (.ref a50)])) _
                  refine Jvm.RoadKit.acmp (g := (mkF m 142 #[.val (.int p1), .val (.int p2), .val (.int p3), .val (.int (1 : Int32)), .val (.ref a138), .val (.int (4 : Int32)), .val (.int (413 : Int32)), .val (.ref a50)] [(.ref a50), (.ref a50)])) X190 hx rfl rfl rfl (pc0 := 142) (pc' := 145) (same := true) rfl (hb hby at_142) rfl (decide_eq_true rfl) (by decide) (by decide) ?_
                  show Steps p.tables e below (T190.setTop (mkF m 145 #[.val (.int p1), .val (.int p2), .val (.int p3), .val (.int (1 : Int32)), .val (.ref a138), .val (.int (4 : Int32)), .val (.int (413 : Int32)), .val (.ref a50)] [])) _
                  refine XS.iconst X190.here hx rfl (hb hby at_145) ?_
                  show Steps p.tables e below (T190.setTop (mkF m 146 #[.val (.int p1), .val (.int p2), .val (.int p3), .val (.int (1 : Int32)), .val (.ref a138), .val (.int (4 : Int32)), .val (.int (413 : Int32)), .val (.ref a50)] [(.int (1 : Int32))])) _
                  refine XS.goto X190.here hx rfl (pc0 := 146) (pc' := 150) rfl (hb hby at_146) (by decide) (by decide) ?_
                  show Steps p.tables e below (T190.setTop (mkF m 150 #[.val (.int p1), .val (.int p2), .val (.int p3), .val (.int (1 : Int32)), .val (.ref a138), .val (.int (4 : Int32)), .val (.int (413 : Int32)), .val (.ref a50)] [(.int (1 : Int32))])) _
                  exact retN X190 hx (t := .boolean) Bd.returns (by simp) (hb hby at_150) hr
                · show Q0 Z _ _ _ _ _ _ _ _ _ h0 n0 _ T190.heap _
                  rw [u193]
                  exact ⟨rfl, N190⟩
              · skip
                have pre194 : ∀ t, Steps p.tables e below (T140.setTop (mkF m 111 #[.val (.int p1), .val (.int p2), .val (.int p3), .val (.int (1 : Int32)), .val (.ref a138), .val (.int i141), .unset, .unset] [(.int (5 : Int32)), (.int i141)])) t → Steps p.tables e below (s₁.setTop (entryFrame m #[(.int p1), (.int p2), (.int p3)] maxLocals)) t := by
                  intro t kt
                  refine pre184 t ?_
                  show Steps p.tables e below (T140.setTop (mkF m 97 #[.val (.int p1), .val (.int p2), .val (.int p3), .val (.int (1 : Int32)), .val (.ref a138), .val (.int i141), .unset, .unset] [(.int (4 : Int32)), (.int i141)])) _
                  refine XS.icmpYes X140.here hx rfl (pc0 := 97) (pc' := 108) rfl (hb hby at_97) rfl (feq hc185).2 (by decide) (by decide) ?_
                  show Steps p.tables e below (T140.setTop (mkF m 108 #[.val (.int p1), .val (.int p2), .val (.int p3), .val (.int (1 : Int32)), .val (.ref a138), .val (.int i141), .unset, .unset] [])) _
                  refine XS.iload X140.here hx rfl (hb hby at_108) rfl ?_
                  show Steps p.tables e below (T140.setTop (mkF m 110 #[.val (.int p1), .val (.int p2), .val (.int p3), .val (.int (1 : Int32)), .val (.ref a138), .val (.int i141), .unset, .unset] [(.int i141)])) _
                  refine XS.iconst X140.here hx rfl (hb hby at_110) ?_
                  exact kt
                by_cases hc195 : i141 = (5 : Int32)
                · skip
                  subst hc195
                  obtain ⟨_, _, ⟨T196, L196, k196, n196⟩, -, X196, ⟨Lc196, hQ196, l196, y196, z196⟩, st196⟩ := Jvm.LawKit.callS X140 hx (y := M_2) hown (mvT hZ (hw _ (gw 4 rfl))) (mvT hZ (hw _ (gw 5 rfl))) (mvT hZ (hw _ (gw 6 rfl))) (mvT hZ (hw _ (gw 7 rfl))) (by decide) (backOf (W := 0) (rm1_28 l Z a0 hw [] a138 a16 h0 n0  O0 E_144 F145 S_17) hZ (hw _ (gw 7 rfl)) (hw _ (gw 6 rfl)) (by decide) (by decide)) (g := (mkF m 129 #[.val (.int p1), .val (.int p2), .val (.int p3), .val (.int (1 : Int32)), .val (.ref a138), .val (.int (5 : Int32)), .val (.int (503 : Int32)), .unset] [(.int (503 : Int32)), (.ref a138)])) rfl (by rw [hml]; rfl) (argsL := [(.ref a138), (.int (503 : Int32))]) (rest := []) (lenOf pd_1 rfl) rfl (by show 2 * 0 + _ ≤ _; exact Nat.le_of_eq rfl) (hb hby at_129) (fun _ _ => ⟨rfl, e140, (by decide : 0 + 0 ≤ _), (by decide : 0 + 0 ≤ _)⟩)
                  dsimp only [Pt.U, Pt.locs, Pt.cells, Pt.slots] at X196 l196 y196 z196 st196 hQ196
                  subst l196 y196 z196
                  obtain ⟨rfl, u198, u199⟩ := hQ196
                  have N196 := Fr.app N0 u198
                  obtain ⟨_, _, ⟨T200, L200, k200, n200⟩, -, X200, ⟨Lc200, hQ200, l200, y200, z200⟩, st200⟩ := Jvm.LawKit.callS X196 hx (y := M_3) hown (mvT hZ (hw _ (gw 19 rfl))) (mvT hZ (hw _ (gw 20 rfl))) (mvT hZ (hw _ (gw 21 rfl))) (mvT hZ (hw _ (gw 22 rfl))) (by decide) (backOf (W := 1) (rm3_29 l Z a0 hw [] a16 h0 n0  O0 S_17) hZ (hw _ (gw 22 rfl)) (hw _ (gw 21 rfl)) (by decide) (by decide)) (g := (mkF m 139 #[.val (.int p1), .val (.int p2), .val (.int p3), .val (.int (1 : Int32)), .val (.ref a138), .val (.int (5 : Int32)), .val (.int (503 : Int32)), .val (.ref a16)] [(.int (503 : Int32)), (.int (1 : Int32)), (.ref a16)])) rfl (by rw [hml]; rfl) (argsL := [(.int (1 : Int32)), (.int (503 : Int32))]) (rest := [(.ref a16)]) (lenOf pd_2 rfl) rfl (by show 2 * 0 + _ ≤ _; exact Nat.le_of_eq rfl) (hb hby at_139) (fun _ _ => ⟨rfl, u199, (by decide : 0 + 0 ≤ _), (by decide : 0 + 0 ≤ _)⟩)
                  dsimp only [Pt.U, Pt.locs, Pt.cells, Pt.slots] at X200 l200 y200 z200 st200 hQ200
                  subst l200 y200 z200
                  obtain ⟨rfl, u202, u203⟩ := hQ200
                  have N200 := Fr.app N196 u202
                  obtain ⟨fs, hr, hrun, hended, hW, hsame⟩ := X200.leave (v := some (.int (1 : Int32))) (fun h => by rw [Bd.returns] at h; cases h)
                  refine ⟨_, _, pre194 _ ?_, hrun, hended, _, _, rfl, ?_, ⟨_, rfl⟩, hW, hsame.mono (by decide) (by decide)⟩
                  · show Steps p.tables e below (T140.setTop (mkF m 111 #[.val (.int p1), .val (.int p2), .val (.int p3), .val (.int (1 : Int32)), .val (.ref a138), .val (.int (5 : Int32)), .unset, .unset] [(.int (5 : Int32)), (.int (5 : Int32))])) _
                    refine XS.icmpNo X140.here hx rfl (hb hby at_111) rfl (teq (by decide +kernel : (5 : Int32) = (5 : Int32))).2 ?_
                    show Steps p.tables e below (T140.setTop (mkF m 114 #[.val (.int p1), .val (.int p2), .val (.int p3), .val (.int (1 : Int32)), .val (.ref a138), .val (.int (5 : Int32)), .unset, .unset] [])) _
                    refine XS.sipush X140.here hx rfl (hb hby at_114) ?_
                    show Steps p.tables e below (T140.setTop (mkF m 117 #[.val (.int p1), .val (.int p2), .val (.int p3), .val (.int (1 : Int32)), .val (.ref a138), .val (.int (5 : Int32)), .unset, .unset] [(.int (503 : Int32))])) _
                    refine XS.istore X140.here hx rfl (hb hby at_117) rfl (l' := #[.val (.int p1), .val (.int p2), .val (.int p3), .val (.int (1 : Int32)), .val (.ref a138), .val (.int (5 : Int32)), .val (.int (503 : Int32)), .unset]) rfl ?_
                    show Steps p.tables e below (T140.setTop (mkF m 119 #[.val (.int p1), .val (.int p2), .val (.int p3), .val (.int (1 : Int32)), .val (.ref a138), .val (.int (5 : Int32)), .val (.int (503 : Int32)), .unset] [])) _
                    refine XS.goto X140.here hx rfl (pc0 := 119) (pc' := 125) rfl (hb hby at_119) (by decide) (by decide) ?_
                    show Steps p.tables e below (T140.setTop (mkF m 125 #[.val (.int p1), .val (.int p2), .val (.int p3), .val (.int (1 : Int32)), .val (.ref a138), .val (.int (5 : Int32)), .val (.int (503 : Int32)), .unset] [])) _
                    refine XS.aload X140.here hx rfl (hb hby at_125) rfl rfl ?_
                    show Steps p.tables e below (T140.setTop (mkF m 127 #[.val (.int p1), .val (.int p2), .val (.int p3), .val (.int (1 : Int32)), .val (.ref a138), .val (.int (5 : Int32)), .val (.int (503 : Int32)), .unset] [(.ref a138)])) _
                    refine XS.iload X140.here hx rfl (hb hby at_127) rfl ?_
                    show Steps p.tables e below (T140.setTop (mkF m 129 #[.val (.int p1), .val (.int p2), .val (.int p3), .val (.int (1 : Int32)), .val (.ref a138), .val (.int (5 : Int32)), .val (.int (503 : Int32)), .unset] [(.int (503 : Int32)), (.ref a138)])) _
                    refine st196 _ ?_
                    show Steps p.tables e below (T196.setTop (mkF m 132 #[.val (.int p1), .val (.int p2), .val (.int p3), .val (.int (1 : Int32)), .val (.ref a138), .val (.int (5 : Int32)), .val (.int (503 : Int32)), .unset] [(.ref a16)])) _
                    refine XS.astore X196.here hx rfl (hb hby at_132) rfl rfl (l' := #[.val (.int p1), .val (.int p2), .val (.int p3), .val (.int (1 : Int32)), .val (.ref a138), .val (.int (5 : Int32)), .val (.int (503 : Int32)), .val (.ref a16)]) rfl ?_
                    show Steps p.tables e below (T196.setTop (mkF m 134 #[.val (.int p1), .val (.int p2), .val (.int p3), .val (.int (1 : Int32)), .val (.ref a138), .val (.int (5 : Int32)), .val (.int (503 : Int32)), .val (.ref a16)] [])) _
                    refine XS.aload X196.here hx rfl (hb hby at_134) rfl rfl ?_
                    show Steps p.tables e below (T196.setTop (mkF m 136 #[.val (.int p1), .val (.int p2), .val (.int p3), .val (.int (1 : Int32)), .val (.ref a138), .val (.int (5 : Int32)), .val (.int (503 : Int32)), .val (.ref a16)] [(.ref a16)])) _
                    refine XS.iloadN X196.here hx rfl (hb hby at_136) rfl ?_
                    show Steps p.tables e below (T196.setTop (mkF m 137 #[.val (.int p1), .val (.int p2), .val (.int p3), .val (.int (1 : Int32)), .val (.ref a138), .val (.int (5 : Int32)), .val (.int (503 : Int32)), .val (.ref a16)] [(.int (1 : Int32)), (.ref a16)])) _
                    refine XS.iload X196.here hx rfl (hb hby at_137) rfl ?_
                    show Steps p.tables e below (T196.setTop (mkF m 139 #[.val (.int p1), .val (.int p2), .val (.int p3), .val (.int (1 : Int32)), .val (.ref a138), .val (.int (5 : Int32)), .val (.int (503 : Int32)), .val (.ref a16)] [(.int (503 : Int32)), (.int (1 : Int32)), (.ref a16)])) _
                    refine st200 _ ?_
                    show Steps p.tables e below (T200.setTop (mkF m 142 #[.val (.int p1), .val (.int p2), .val (.int p3), .val (.int (1 : Int32)), .val (.ref a138), .val (.int (5 : Int32)), .val (.int (503 : Int32)), .val (.ref a16)] [(.ref a16), (.ref a16)])) _
                    refine Jvm.RoadKit.acmp (g := (mkF m 142 #[.val (.int p1), .val (.int p2), .val (.int p3), .val (.int (1 : Int32)), .val (.ref a138), .val (.int (5 : Int32)), .val (.int (503 : Int32)), .val (.ref a16)] [(.ref a16), (.ref a16)])) X200 hx rfl rfl rfl (pc0 := 142) (pc' := 145) (same := true) rfl (hb hby at_142) rfl (decide_eq_true rfl) (by decide) (by decide) ?_
                    show Steps p.tables e below (T200.setTop (mkF m 145 #[.val (.int p1), .val (.int p2), .val (.int p3), .val (.int (1 : Int32)), .val (.ref a138), .val (.int (5 : Int32)), .val (.int (503 : Int32)), .val (.ref a16)] [])) _
                    refine XS.iconst X200.here hx rfl (hb hby at_145) ?_
                    show Steps p.tables e below (T200.setTop (mkF m 146 #[.val (.int p1), .val (.int p2), .val (.int p3), .val (.int (1 : Int32)), .val (.ref a138), .val (.int (5 : Int32)), .val (.int (503 : Int32)), .val (.ref a16)] [(.int (1 : Int32))])) _
                    refine XS.goto X200.here hx rfl (pc0 := 146) (pc' := 150) rfl (hb hby at_146) (by decide) (by decide) ?_
                    show Steps p.tables e below (T200.setTop (mkF m 150 #[.val (.int p1), .val (.int p2), .val (.int p3), .val (.int (1 : Int32)), .val (.ref a138), .val (.int (5 : Int32)), .val (.int (503 : Int32)), .val (.ref a16)] [(.int (1 : Int32))])) _
                    exact retN X200 hx (t := .boolean) Bd.returns (by simp) (hb hby at_150) hr
                  · show Q0 Z _ _ _ _ _ _ _ _ _ h0 n0 _ T200.heap _
                    rw [u203]
                    exact ⟨rfl, N200⟩
                · skip
                  have pre205 : ∀ t, Steps p.tables e below (T140.setTop (mkF m 129 #[.val (.int p1), .val (.int p2), .val (.int p3), .val (.int (1 : Int32)), .val (.ref a138), .val (.int i141), .val (.int p3), .unset] [(.int p3), (.ref a138)])) t → Steps p.tables e below (s₁.setTop (entryFrame m #[(.int p1), (.int p2), (.int p3)] maxLocals)) t := by
                    intro t kt
                    refine pre194 t ?_
                    show Steps p.tables e below (T140.setTop (mkF m 111 #[.val (.int p1), .val (.int p2), .val (.int p3), .val (.int (1 : Int32)), .val (.ref a138), .val (.int i141), .unset, .unset] [(.int (5 : Int32)), (.int i141)])) _
                    refine XS.icmpYes X140.here hx rfl (pc0 := 111) (pc' := 122) rfl (hb hby at_111) rfl (feq hc195).2 (by decide) (by decide) ?_
                    show Steps p.tables e below (T140.setTop (mkF m 122 #[.val (.int p1), .val (.int p2), .val (.int p3), .val (.int (1 : Int32)), .val (.ref a138), .val (.int i141), .unset, .unset] [])) _
                    refine XS.iloadN X140.here hx rfl (hb hby at_122) rfl ?_
                    show Steps p.tables e below (T140.setTop (mkF m 123 #[.val (.int p1), .val (.int p2), .val (.int p3), .val (.int (1 : Int32)), .val (.ref a138), .val (.int i141), .unset, .unset] [(.int p3)])) _
                    refine XS.istore X140.here hx rfl (hb hby at_123) rfl (l' := #[.val (.int p1), .val (.int p2), .val (.int p3), .val (.int (1 : Int32)), .val (.ref a138), .val (.int i141), .val (.int p3), .unset]) rfl ?_
                    show Steps p.tables e below (T140.setTop (mkF m 125 #[.val (.int p1), .val (.int p2), .val (.int p3), .val (.int (1 : Int32)), .val (.ref a138), .val (.int i141), .val (.int p3), .unset] [])) _
                    refine XS.aload X140.here hx rfl (hb hby at_125) rfl rfl ?_
                    show Steps p.tables e below (T140.setTop (mkF m 127 #[.val (.int p1), .val (.int p2), .val (.int p3), .val (.int (1 : Int32)), .val (.ref a138), .val (.int i141), .val (.int p3), .unset] [(.ref a138)])) _
                    refine XS.iload X140.here hx rfl (hb hby at_127) rfl ?_
                    show Steps p.tables e below (T140.setTop (mkF m 129 #[.val (.int p1), .val (.int p2), .val (.int p3), .val (.int (1 : Int32)), .val (.ref a138), .val (.int i141), .val (.int p3), .unset] [(.int p3), (.ref a138)])) _
                    exact kt
                  obtain ⟨_, _, ⟨T204, L204, k204, n204⟩, -, X204, ⟨Lc204, hQ204, l204, y204, z204⟩, st204⟩ := Jvm.LawKit.callS X140 hx (y := M_2) hown (mvT hZ (hw _ (gw 4 rfl))) (mvT hZ (hw _ (gw 5 rfl))) (mvT hZ (hw _ (gw 6 rfl))) (mvT hZ (hw _ (gw 7 rfl))) (by decide) (backOf (W := 0) (rm1_30 l Z a0 hw [] a138 p3 a28 a50 a16 h0 n0  O0 E_144 F145 S_29 S_51 S_17) hZ (hw _ (gw 7 rfl)) (hw _ (gw 6 rfl)) (by decide) (by decide)) (g := (mkF m 129 #[.val (.int p1), .val (.int p2), .val (.int p3), .val (.int (1 : Int32)), .val (.ref a138), .val (.int i141), .val (.int p3), .unset] [(.int p3), (.ref a138)])) rfl (by rw [hml]; rfl) (argsL := [(.ref a138), (.int p3)]) (rest := []) (lenOf pd_1 rfl) rfl (by show 2 * 0 + _ ≤ _; exact Nat.le_of_eq rfl) (hb hby at_129) (fun _ _ => ⟨rfl, e140, (by decide : 0 + 0 ≤ _), (by decide : 0 + 0 ≤ _)⟩)
                  dsimp only [Pt.U, Pt.locs, Pt.cells, Pt.slots] at X204 l204 y204 z204 st204 hQ204
                  subst l204 y204 z204
                  rcases hQ204 with ⟨u206, rfl, u208, u209⟩ | ⟨u210, u211, rfl, u213, u214⟩ | ⟨u215, u216, u217, rfl, u219, u220⟩ | ⟨u221, u222, u223, u224, rfl, u226, u227⟩ | ⟨u228, u229, u230, u231, rfl, u233, u234⟩
                  · skip
                    have N204 := Fr.app N0 u208
                    have pre235 : ∀ t, Steps p.tables e below (T204.setTop (mkF m 132 #[.val (.int p1), .val (.int p2), .val (.int p3), .val (.int (1 : Int32)), .val (.ref a138), .val (.int i141), .val (.int p3), .unset] [(.ref a28)])) t → Steps p.tables e below (s₁.setTop (entryFrame m #[(.int p1), (.int p2), (.int p3)] maxLocals)) t := by
                      intro t kt
                      refine pre205 t ?_
                      refine st204 _ ?_
                      exact kt
                    subst u206
                    obtain ⟨_, _, ⟨T236, L236, k236, n236⟩, -, X236, ⟨Lc236, hQ236, l236, y236, z236⟩, st236⟩ := Jvm.LawKit.callS X204 hx (y := M_3) hown (mvT hZ (hw _ (gw 19 rfl))) (mvT hZ (hw _ (gw 20 rfl))) (mvT hZ (hw _ (gw 21 rfl))) (mvT hZ (hw _ (gw 22 rfl))) (by decide) (backOf (W := 1) (rm3_19 l Z a0 hw [] a28 h0 n0  O0 S_29) hZ (hw _ (gw 22 rfl)) (hw _ (gw 21 rfl)) (by decide) (by decide)) (g := (mkF m 139 #[.val (.int p1), .val (.int p2), .val (.int (200 : Int32)), .val (.int (1 : Int32)), .val (.ref a138), .val (.int i141), .val (.int (200 : Int32)), .val (.ref a28)] [(.int (200 : Int32)), (.int (1 : Int32)), (.ref a28)])) rfl (by rw [hml]; rfl) (argsL := [(.int (1 : Int32)), (.int (200 : Int32))]) (rest := [(.ref a28)]) (lenOf pd_2 rfl) rfl (by show 2 * 0 + _ ≤ _; exact Nat.le_of_eq rfl) (hb hby at_139) (fun _ _ => ⟨rfl, u209, (by decide : 0 + 0 ≤ _), (by decide : 0 + 0 ≤ _)⟩)
                    dsimp only [Pt.U, Pt.locs, Pt.cells, Pt.slots] at X236 l236 y236 z236 st236 hQ236
                    subst l236 y236 z236
                    obtain ⟨rfl, u238, u239⟩ := hQ236
                    have N236 := Fr.app N204 u238
                    obtain ⟨fs, hr, hrun, hended, hW, hsame⟩ := X236.leave (v := some (.int (1 : Int32))) (fun h => by rw [Bd.returns] at h; cases h)
                    refine ⟨_, _, pre235 _ ?_, hrun, hended, _, _, rfl, ?_, ⟨_, rfl⟩, hW, hsame.mono (by decide) (by decide)⟩
                    · show Steps p.tables e below (T204.setTop (mkF m 132 #[.val (.int p1), .val (.int p2), .val (.int (200 : Int32)), .val (.int (1 : Int32)), .val (.ref a138), .val (.int i141), .val (.int (200 : Int32)), .unset] [(.ref a28)])) _
                      refine XS.astore X204.here hx rfl (hb hby at_132) rfl rfl (l' := #[.val (.int p1), .val (.int p2), .val (.int (200 : Int32)), .val (.int (1 : Int32)), .val (.ref a138), .val (.int i141), .val (.int (200 : Int32)), .val (.ref a28)]) rfl ?_
                      show Steps p.tables e below (T204.setTop (mkF m 134 #[.val (.int p1), .val (.int p2), .val (.int (200 : Int32)), .val (.int (1 : Int32)), .val (.ref a138), .val (.int i141), .val (.int (200 : Int32)), .val (.ref a28)] [])) _
                      refine XS.aload X204.here hx rfl (hb hby at_134) rfl rfl ?_
                      show Steps p.tables e below (T204.setTop (mkF m 136 #[.val (.int p1), .val (.int p2), .val (.int (200 : Int32)), .val (.int (1 : Int32)), .val (.ref a138), .val (.int i141), .val (.int (200 : Int32)), .val (.ref a28)] [(.ref a28)])) _
                      refine XS.iloadN X204.here hx rfl (hb hby at_136) rfl ?_
                      show Steps p.tables e below (T204.setTop (mkF m 137 #[.val (.int p1), .val (.int p2), .val (.int (200 : Int32)), .val (.int (1 : Int32)), .val (.ref a138), .val (.int i141), .val (.int (200 : Int32)), .val (.ref a28)] [(.int (1 : Int32)), (.ref a28)])) _
                      refine XS.iload X204.here hx rfl (hb hby at_137) rfl ?_
                      show Steps p.tables e below (T204.setTop (mkF m 139 #[.val (.int p1), .val (.int p2), .val (.int (200 : Int32)), .val (.int (1 : Int32)), .val (.ref a138), .val (.int i141), .val (.int (200 : Int32)), .val (.ref a28)] [(.int (200 : Int32)), (.int (1 : Int32)), (.ref a28)])) _
                      refine st236 _ ?_
                      show Steps p.tables e below (T236.setTop (mkF m 142 #[.val (.int p1), .val (.int p2), .val (.int (200 : Int32)), .val (.int (1 : Int32)), .val (.ref a138), .val (.int i141), .val (.int (200 : Int32)), .val (.ref a28)] [(.ref a28), (.ref a28)])) _
                      refine Jvm.RoadKit.acmp (g := (mkF m 142 #[.val (.int p1), .val (.int p2), .val (.int (200 : Int32)), .val (.int (1 : Int32)), .val (.ref a138), .val (.int i141), .val (.int (200 : Int32)), .val (.ref a28)] [(.ref a28), (.ref a28)])) X236 hx rfl rfl rfl (pc0 := 142) (pc' := 145) (same := true) rfl (hb hby at_142) rfl (decide_eq_true rfl) (by decide) (by decide) ?_
                      show Steps p.tables e below (T236.setTop (mkF m 145 #[.val (.int p1), .val (.int p2), .val (.int (200 : Int32)), .val (.int (1 : Int32)), .val (.ref a138), .val (.int i141), .val (.int (200 : Int32)), .val (.ref a28)] [])) _
                      refine XS.iconst X236.here hx rfl (hb hby at_145) ?_
                      show Steps p.tables e below (T236.setTop (mkF m 146 #[.val (.int p1), .val (.int p2), .val (.int (200 : Int32)), .val (.int (1 : Int32)), .val (.ref a138), .val (.int i141), .val (.int (200 : Int32)), .val (.ref a28)] [(.int (1 : Int32))])) _
                      refine XS.goto X236.here hx rfl (pc0 := 146) (pc' := 150) rfl (hb hby at_146) (by decide) (by decide) ?_
                      show Steps p.tables e below (T236.setTop (mkF m 150 #[.val (.int p1), .val (.int p2), .val (.int (200 : Int32)), .val (.int (1 : Int32)), .val (.ref a138), .val (.int i141), .val (.int (200 : Int32)), .val (.ref a28)] [(.int (1 : Int32))])) _
                      exact retN X236 hx (t := .boolean) Bd.returns (by simp) (hb hby at_150) hr
                    · show Q0 Z _ _ _ _ _ _ _ _ _ h0 n0 _ T236.heap _
                      rw [u239]
                      exact ⟨rfl, N236⟩
                  · skip
                    have N204 := Fr.app N0 u213
                    have pre240 : ∀ t, Steps p.tables e below (T204.setTop (mkF m 132 #[.val (.int p1), .val (.int p2), .val (.int p3), .val (.int (1 : Int32)), .val (.ref a138), .val (.int i141), .val (.int p3), .unset] [(.ref a28)])) t → Steps p.tables e below (s₁.setTop (entryFrame m #[(.int p1), (.int p2), (.int p3)] maxLocals)) t := by
                      intro t kt
                      refine pre205 t ?_
                      refine st204 _ ?_
                      exact kt
                    subst u210
                    obtain ⟨_, _, ⟨T241, L241, k241, n241⟩, -, X241, ⟨Lc241, hQ241, l241, y241, z241⟩, st241⟩ := Jvm.LawKit.callS X204 hx (y := M_3) hown (mvT hZ (hw _ (gw 19 rfl))) (mvT hZ (hw _ (gw 20 rfl))) (mvT hZ (hw _ (gw 21 rfl))) (mvT hZ (hw _ (gw 22 rfl))) (by decide) (backOf (W := 1) (rm3_23 l Z a0 hw [] a28 h0 n0  O0 S_29) hZ (hw _ (gw 22 rfl)) (hw _ (gw 21 rfl)) (by decide) (by decide)) (g := (mkF m 139 #[.val (.int p1), .val (.int p2), .val (.int (404 : Int32)), .val (.int (1 : Int32)), .val (.ref a138), .val (.int i141), .val (.int (404 : Int32)), .val (.ref a28)] [(.int (404 : Int32)), (.int (1 : Int32)), (.ref a28)])) rfl (by rw [hml]; rfl) (argsL := [(.int (1 : Int32)), (.int (404 : Int32))]) (rest := [(.ref a28)]) (lenOf pd_2 rfl) rfl (by show 2 * 0 + _ ≤ _; exact Nat.le_of_eq rfl) (hb hby at_139) (fun _ _ => ⟨rfl, u214, (by decide : 0 + 0 ≤ _), (by decide : 0 + 0 ≤ _)⟩)
                    dsimp only [Pt.U, Pt.locs, Pt.cells, Pt.slots] at X241 l241 y241 z241 st241 hQ241
                    subst l241 y241 z241
                    obtain ⟨rfl, u243, u244⟩ := hQ241
                    have N241 := Fr.app N204 u243
                    obtain ⟨fs, hr, hrun, hended, hW, hsame⟩ := X241.leave (v := some (.int (1 : Int32))) (fun h => by rw [Bd.returns] at h; cases h)
                    refine ⟨_, _, pre240 _ ?_, hrun, hended, _, _, rfl, ?_, ⟨_, rfl⟩, hW, hsame.mono (by decide) (by decide)⟩
                    · show Steps p.tables e below (T204.setTop (mkF m 132 #[.val (.int p1), .val (.int p2), .val (.int (404 : Int32)), .val (.int (1 : Int32)), .val (.ref a138), .val (.int i141), .val (.int (404 : Int32)), .unset] [(.ref a28)])) _
                      refine XS.astore X204.here hx rfl (hb hby at_132) rfl rfl (l' := #[.val (.int p1), .val (.int p2), .val (.int (404 : Int32)), .val (.int (1 : Int32)), .val (.ref a138), .val (.int i141), .val (.int (404 : Int32)), .val (.ref a28)]) rfl ?_
                      show Steps p.tables e below (T204.setTop (mkF m 134 #[.val (.int p1), .val (.int p2), .val (.int (404 : Int32)), .val (.int (1 : Int32)), .val (.ref a138), .val (.int i141), .val (.int (404 : Int32)), .val (.ref a28)] [])) _
                      refine XS.aload X204.here hx rfl (hb hby at_134) rfl rfl ?_
                      show Steps p.tables e below (T204.setTop (mkF m 136 #[.val (.int p1), .val (.int p2), .val (.int (404 : Int32)), .val (.int (1 : Int32)), .val (.ref a138), .val (.int i141), .val (.int (404 : Int32)), .val (.ref a28)] [(.ref a28)])) _
                      refine XS.iloadN X204.here hx rfl (hb hby at_136) rfl ?_
                      show Steps p.tables e below (T204.setTop (mkF m 137 #[.val (.int p1), .val (.int p2), .val (.int (404 : Int32)), .val (.int (1 : Int32)), .val (.ref a138), .val (.int i141), .val (.int (404 : Int32)), .val (.ref a28)] [(.int (1 : Int32)), (.ref a28)])) _
                      refine XS.iload X204.here hx rfl (hb hby at_137) rfl ?_
                      show Steps p.tables e below (T204.setTop (mkF m 139 #[.val (.int p1), .val (.int p2), .val (.int (404 : Int32)), .val (.int (1 : Int32)), .val (.ref a138), .val (.int i141), .val (.int (404 : Int32)), .val (.ref a28)] [(.int (404 : Int32)), (.int (1 : Int32)), (.ref a28)])) _
                      refine st241 _ ?_
                      show Steps p.tables e below (T241.setTop (mkF m 142 #[.val (.int p1), .val (.int p2), .val (.int (404 : Int32)), .val (.int (1 : Int32)), .val (.ref a138), .val (.int i141), .val (.int (404 : Int32)), .val (.ref a28)] [(.ref a28), (.ref a28)])) _
                      refine Jvm.RoadKit.acmp (g := (mkF m 142 #[.val (.int p1), .val (.int p2), .val (.int (404 : Int32)), .val (.int (1 : Int32)), .val (.ref a138), .val (.int i141), .val (.int (404 : Int32)), .val (.ref a28)] [(.ref a28), (.ref a28)])) X241 hx rfl rfl rfl (pc0 := 142) (pc' := 145) (same := true) rfl (hb hby at_142) rfl (decide_eq_true rfl) (by decide) (by decide) ?_
                      show Steps p.tables e below (T241.setTop (mkF m 145 #[.val (.int p1), .val (.int p2), .val (.int (404 : Int32)), .val (.int (1 : Int32)), .val (.ref a138), .val (.int i141), .val (.int (404 : Int32)), .val (.ref a28)] [])) _
                      refine XS.iconst X241.here hx rfl (hb hby at_145) ?_
                      show Steps p.tables e below (T241.setTop (mkF m 146 #[.val (.int p1), .val (.int p2), .val (.int (404 : Int32)), .val (.int (1 : Int32)), .val (.ref a138), .val (.int i141), .val (.int (404 : Int32)), .val (.ref a28)] [(.int (1 : Int32))])) _
                      refine XS.goto X241.here hx rfl (pc0 := 146) (pc' := 150) rfl (hb hby at_146) (by decide) (by decide) ?_
                      show Steps p.tables e below (T241.setTop (mkF m 150 #[.val (.int p1), .val (.int p2), .val (.int (404 : Int32)), .val (.int (1 : Int32)), .val (.ref a138), .val (.int i141), .val (.int (404 : Int32)), .val (.ref a28)] [(.int (1 : Int32))])) _
                      exact retN X241 hx (t := .boolean) Bd.returns (by simp) (hb hby at_150) hr
                    · show Q0 Z _ _ _ _ _ _ _ _ _ h0 n0 _ T241.heap _
                      rw [u244]
                      exact ⟨rfl, N241⟩
                  · skip
                    have N204 := Fr.app N0 u219
                    have pre245 : ∀ t, Steps p.tables e below (T204.setTop (mkF m 132 #[.val (.int p1), .val (.int p2), .val (.int p3), .val (.int (1 : Int32)), .val (.ref a138), .val (.int i141), .val (.int p3), .unset] [(.ref a50)])) t → Steps p.tables e below (s₁.setTop (entryFrame m #[(.int p1), (.int p2), (.int p3)] maxLocals)) t := by
                      intro t kt
                      refine pre205 t ?_
                      refine st204 _ ?_
                      exact kt
                    subst u215
                    obtain ⟨_, _, ⟨T246, L246, k246, n246⟩, -, X246, ⟨Lc246, hQ246, l246, y246, z246⟩, st246⟩ := Jvm.LawKit.callS X204 hx (y := M_3) hown (mvT hZ (hw _ (gw 19 rfl))) (mvT hZ (hw _ (gw 20 rfl))) (mvT hZ (hw _ (gw 21 rfl))) (mvT hZ (hw _ (gw 22 rfl))) (by decide) (backOf (W := 1) (rm3_25 l Z a0 hw [] a50 h0 n0  O0 S_51) hZ (hw _ (gw 22 rfl)) (hw _ (gw 21 rfl)) (by decide) (by decide)) (g := (mkF m 139 #[.val (.int p1), .val (.int p2), .val (.int (400 : Int32)), .val (.int (1 : Int32)), .val (.ref a138), .val (.int i141), .val (.int (400 : Int32)), .val (.ref a50)] [(.int (400 : Int32)), (.int (1 : Int32)), (.ref a50)])) rfl (by rw [hml]; rfl) (argsL := [(.int (1 : Int32)), (.int (400 : Int32))]) (rest := [(.ref a50)]) (lenOf pd_2 rfl) rfl (by show 2 * 0 + _ ≤ _; exact Nat.le_of_eq rfl) (hb hby at_139) (fun _ _ => ⟨rfl, u220, (by decide : 0 + 0 ≤ _), (by decide : 0 + 0 ≤ _)⟩)
                    dsimp only [Pt.U, Pt.locs, Pt.cells, Pt.slots] at X246 l246 y246 z246 st246 hQ246
                    subst l246 y246 z246
                    obtain ⟨rfl, u248, u249⟩ := hQ246
                    have N246 := Fr.app N204 u248
                    obtain ⟨fs, hr, hrun, hended, hW, hsame⟩ := X246.leave (v := some (.int (1 : Int32))) (fun h => by rw [Bd.returns] at h; cases h)
                    refine ⟨_, _, pre245 _ ?_, hrun, hended, _, _, rfl, ?_, ⟨_, rfl⟩, hW, hsame.mono (by decide) (by decide)⟩
                    · show Steps p.tables e below (T204.setTop (mkF m 132 #[.val (.int p1), .val (.int p2), .val (.int (400 : Int32)), .val (.int (1 : Int32)), .val (.ref a138), .val (.int i141), .val (.int (400 : Int32)), .unset] [(.ref a50)])) _
                      refine XS.astore X204.here hx rfl (hb hby at_132) rfl rfl (l' := #[.val (.int p1), .val (.int p2), .val (.int (400 : Int32)), .val (.int (1 : Int32)), .val (.ref a138), .val (.int i141), .val (.int (400 : Int32)), .val (.ref a50)]) rfl ?_
                      show Steps p.tables e below (T204.setTop (mkF m 134 #[.val (.int p1), .val (.int p2), .val (.int (400 : Int32)), .val (.int (1 : Int32)), .val (.ref a138), .val (.int i141), .val (.int (400 : Int32)), .val (.ref a50)] [])) _
                      refine XS.aload X204.here hx rfl (hb hby at_134) rfl rfl ?_
                      show Steps p.tables e below (T204.setTop (mkF m 136 #[.val (.int p1), .val (.int p2), .val (.int (400 : Int32)), .val (.int (1 : Int32)), .val (.ref a138), .val (.int i141), .val (.int (400 : Int32)), .val (.ref a50)] [(.ref a50)])) _
                      refine XS.iloadN X204.here hx rfl (hb hby at_136) rfl ?_
                      show Steps p.tables e below (T204.setTop (mkF m 137 #[.val (.int p1), .val (.int p2), .val (.int (400 : Int32)), .val (.int (1 : Int32)), .val (.ref a138), .val (.int i141), .val (.int (400 : Int32)), .val (.ref a50)] [(.int (1 : Int32)), (.ref a50)])) _
                      refine XS.iload X204.here hx rfl (hb hby at_137) rfl ?_
                      show Steps p.tables e below (T204.setTop (mkF m 139 #[.val (.int p1), .val (.int p2), .val (.int (400 : Int32)), .val (.int (1 : Int32)), .val (.ref a138), .val (.int i141), .val (.int (400 : Int32)), .val (.ref a50)] [(.int (400 : Int32)), (.int (1 : Int32)), (.ref a50)])) _
                      refine st246 _ ?_
                      show Steps p.tables e below (T246.setTop (mkF m 142 #[.val (.int p1), .val (.int p2), .val (.int (400 : Int32)), .val (.int (1 : Int32)), .val (.ref a138), .val (.int i141), .val (.int (400 : Int32)), .val (.ref a50)] [(.ref a50), (.ref a50)])) _
                      refine Jvm.RoadKit.acmp (g := (mkF m 142 #[.val (.int p1), .val (.int p2), .val (.int (400 : Int32)), .val (.int (1 : Int32)), .val (.ref a138), .val (.int i141), .val (.int (400 : Int32)), .val (.ref a50)] [(.ref a50), (.ref a50)])) X246 hx rfl rfl rfl (pc0 := 142) (pc' := 145) (same := true) rfl (hb hby at_142) rfl (decide_eq_true rfl) (by decide) (by decide) ?_
                      show Steps p.tables e below (T246.setTop (mkF m 145 #[.val (.int p1), .val (.int p2), .val (.int (400 : Int32)), .val (.int (1 : Int32)), .val (.ref a138), .val (.int i141), .val (.int (400 : Int32)), .val (.ref a50)] [])) _
                      refine XS.iconst X246.here hx rfl (hb hby at_145) ?_
                      show Steps p.tables e below (T246.setTop (mkF m 146 #[.val (.int p1), .val (.int p2), .val (.int (400 : Int32)), .val (.int (1 : Int32)), .val (.ref a138), .val (.int i141), .val (.int (400 : Int32)), .val (.ref a50)] [(.int (1 : Int32))])) _
                      refine XS.goto X246.here hx rfl (pc0 := 146) (pc' := 150) rfl (hb hby at_146) (by decide) (by decide) ?_
                      show Steps p.tables e below (T246.setTop (mkF m 150 #[.val (.int p1), .val (.int p2), .val (.int (400 : Int32)), .val (.int (1 : Int32)), .val (.ref a138), .val (.int i141), .val (.int (400 : Int32)), .val (.ref a50)] [(.int (1 : Int32))])) _
                      exact retN X246 hx (t := .boolean) Bd.returns (by simp) (hb hby at_150) hr
                    · show Q0 Z _ _ _ _ _ _ _ _ _ h0 n0 _ T246.heap _
                      rw [u249]
                      exact ⟨rfl, N246⟩
                  · skip
                    have N204 := Fr.app N0 u226
                    have pre250 : ∀ t, Steps p.tables e below (T204.setTop (mkF m 132 #[.val (.int p1), .val (.int p2), .val (.int p3), .val (.int (1 : Int32)), .val (.ref a138), .val (.int i141), .val (.int p3), .unset] [(.ref a50)])) t → Steps p.tables e below (s₁.setTop (entryFrame m #[(.int p1), (.int p2), (.int p3)] maxLocals)) t := by
                      intro t kt
                      refine pre205 t ?_
                      refine st204 _ ?_
                      exact kt
                    subst u221
                    obtain ⟨_, _, ⟨T251, L251, k251, n251⟩, -, X251, ⟨Lc251, hQ251, l251, y251, z251⟩, st251⟩ := Jvm.LawKit.callS X204 hx (y := M_3) hown (mvT hZ (hw _ (gw 19 rfl))) (mvT hZ (hw _ (gw 20 rfl))) (mvT hZ (hw _ (gw 21 rfl))) (mvT hZ (hw _ (gw 22 rfl))) (by decide) (backOf (W := 1) (rm3_27 l Z a0 hw [] a50 h0 n0  O0 S_51) hZ (hw _ (gw 22 rfl)) (hw _ (gw 21 rfl)) (by decide) (by decide)) (g := (mkF m 139 #[.val (.int p1), .val (.int p2), .val (.int (413 : Int32)), .val (.int (1 : Int32)), .val (.ref a138), .val (.int i141), .val (.int (413 : Int32)), .val (.ref a50)] [(.int (413 : Int32)), (.int (1 : Int32)), (.ref a50)])) rfl (by rw [hml]; rfl) (argsL := [(.int (1 : Int32)), (.int (413 : Int32))]) (rest := [(.ref a50)]) (lenOf pd_2 rfl) rfl (by show 2 * 0 + _ ≤ _; exact Nat.le_of_eq rfl) (hb hby at_139) (fun _ _ => ⟨rfl, u227, (by decide : 0 + 0 ≤ _), (by decide : 0 + 0 ≤ _)⟩)
                    dsimp only [Pt.U, Pt.locs, Pt.cells, Pt.slots] at X251 l251 y251 z251 st251 hQ251
                    subst l251 y251 z251
                    obtain ⟨rfl, u253, u254⟩ := hQ251
                    have N251 := Fr.app N204 u253
                    obtain ⟨fs, hr, hrun, hended, hW, hsame⟩ := X251.leave (v := some (.int (1 : Int32))) (fun h => by rw [Bd.returns] at h; cases h)
                    refine ⟨_, _, pre250 _ ?_, hrun, hended, _, _, rfl, ?_, ⟨_, rfl⟩, hW, hsame.mono (by decide) (by decide)⟩
                    · show Steps p.tables e below (T204.setTop (mkF m 132 #[.val (.int p1), .val (.int p2), .val (.int (413 : Int32)), .val (.int (1 : Int32)), .val (.ref a138), .val (.int i141), .val (.int (413 : Int32)), .unset] [(.ref a50)])) _
                      refine XS.astore X204.here hx rfl (hb hby at_132) rfl rfl (l' := #[.val (.int p1), .val (.int p2), .val (.int (413 : Int32)), .val (.int (1 : Int32)), .val (.ref a138), .val (.int i141), .val (.int (413 : Int32)), .val (.ref a50)]) rfl ?_
                      show Steps p.tables e below (T204.setTop (mkF m 134 #[.val (.int p1), .val (.int p2), .val (.int (413 : Int32)), .val (.int (1 : Int32)), .val (.ref a138), .val (.int i141), .val (.int (413 : Int32)), .val (.ref a50)] [])) _
                      refine XS.aload X204.here hx rfl (hb hby at_134) rfl rfl ?_
                      show Steps p.tables e below (T204.setTop (mkF m 136 #[.val (.int p1), .val (.int p2), .val (.int (413 : Int32)), .val (.int (1 : Int32)), .val (.ref a138), .val (.int i141), .val (.int (413 : Int32)), .val (.ref a50)] [(.ref a50)])) _
                      refine XS.iloadN X204.here hx rfl (hb hby at_136) rfl ?_
                      show Steps p.tables e below (T204.setTop (mkF m 137 #[.val (.int p1), .val (.int p2), .val (.int (413 : Int32)), .val (.int (1 : Int32)), .val (.ref a138), .val (.int i141), .val (.int (413 : Int32)), .val (.ref a50)] [(.int (1 : Int32)), (.ref a50)])) _
                      refine XS.iload X204.here hx rfl (hb hby at_137) rfl ?_
                      show Steps p.tables e below (T204.setTop (mkF m 139 #[.val (.int p1), .val (.int p2), .val (.int (413 : Int32)), .val (.int (1 : Int32)), .val (.ref a138), .val (.int i141), .val (.int (413 : Int32)), .val (.ref a50)] [(.int (413 : Int32)), (.int (1 : Int32)), (.ref a50)])) _
                      refine st251 _ ?_
                      show Steps p.tables e below (T251.setTop (mkF m 142 #[.val (.int p1), .val (.int p2), .val (.int (413 : Int32)), .val (.int (1 : Int32)), .val (.ref a138), .val (.int i141), .val (.int (413 : Int32)), .val (.ref a50)] [(.ref a50), (.ref a50)])) _
                      refine Jvm.RoadKit.acmp (g := (mkF m 142 #[.val (.int p1), .val (.int p2), .val (.int (413 : Int32)), .val (.int (1 : Int32)), .val (.ref a138), .val (.int i141), .val (.int (413 : Int32)), .val (.ref a50)] [(.ref a50), (.ref a50)])) X251 hx rfl rfl rfl (pc0 := 142) (pc' := 145) (same := true) rfl (hb hby at_142) rfl (decide_eq_true rfl) (by decide) (by decide) ?_
                      show Steps p.tables e below (T251.setTop (mkF m 145 #[.val (.int p1), .val (.int p2), .val (.int (413 : Int32)), .val (.int (1 : Int32)), .val (.ref a138), .val (.int i141), .val (.int (413 : Int32)), .val (.ref a50)] [])) _
                      refine XS.iconst X251.here hx rfl (hb hby at_145) ?_
                      show Steps p.tables e below (T251.setTop (mkF m 146 #[.val (.int p1), .val (.int p2), .val (.int (413 : Int32)), .val (.int (1 : Int32)), .val (.ref a138), .val (.int i141), .val (.int (413 : Int32)), .val (.ref a50)] [(.int (1 : Int32))])) _
                      refine XS.goto X251.here hx rfl (pc0 := 146) (pc' := 150) rfl (hb hby at_146) (by decide) (by decide) ?_
                      show Steps p.tables e below (T251.setTop (mkF m 150 #[.val (.int p1), .val (.int p2), .val (.int (413 : Int32)), .val (.int (1 : Int32)), .val (.ref a138), .val (.int i141), .val (.int (413 : Int32)), .val (.ref a50)] [(.int (1 : Int32))])) _
                      exact retN X251 hx (t := .boolean) Bd.returns (by simp) (hb hby at_150) hr
                    · show Q0 Z _ _ _ _ _ _ _ _ _ h0 n0 _ T251.heap _
                      rw [u254]
                      exact ⟨rfl, N251⟩
                  · skip
                    have N204 := Fr.app N0 u233
                    have pre256 : ∀ t, Steps p.tables e below (T204.setTop (mkF m 139 #[.val (.int p1), .val (.int p2), .val (.int p3), .val (.int (1 : Int32)), .val (.ref a138), .val (.int i141), .val (.int p3), .val (.ref a16)] [(.int p3), (.int (1 : Int32)), (.ref a16)])) t → Steps p.tables e below (s₁.setTop (entryFrame m #[(.int p1), (.int p2), (.int p3)] maxLocals)) t := by
                      intro t kt
                      refine pre205 t ?_
                      refine st204 _ ?_
                      show Steps p.tables e below (T204.setTop (mkF m 132 #[.val (.int p1), .val (.int p2), .val (.int p3), .val (.int (1 : Int32)), .val (.ref a138), .val (.int i141), .val (.int p3), .unset] [(.ref a16)])) _
                      refine XS.astore X204.here hx rfl (hb hby at_132) rfl rfl (l' := #[.val (.int p1), .val (.int p2), .val (.int p3), .val (.int (1 : Int32)), .val (.ref a138), .val (.int i141), .val (.int p3), .val (.ref a16)]) rfl ?_
                      show Steps p.tables e below (T204.setTop (mkF m 134 #[.val (.int p1), .val (.int p2), .val (.int p3), .val (.int (1 : Int32)), .val (.ref a138), .val (.int i141), .val (.int p3), .val (.ref a16)] [])) _
                      refine XS.aload X204.here hx rfl (hb hby at_134) rfl rfl ?_
                      show Steps p.tables e below (T204.setTop (mkF m 136 #[.val (.int p1), .val (.int p2), .val (.int p3), .val (.int (1 : Int32)), .val (.ref a138), .val (.int i141), .val (.int p3), .val (.ref a16)] [(.ref a16)])) _
                      refine XS.iloadN X204.here hx rfl (hb hby at_136) rfl ?_
                      show Steps p.tables e below (T204.setTop (mkF m 137 #[.val (.int p1), .val (.int p2), .val (.int p3), .val (.int (1 : Int32)), .val (.ref a138), .val (.int i141), .val (.int p3), .val (.ref a16)] [(.int (1 : Int32)), (.ref a16)])) _
                      refine XS.iload X204.here hx rfl (hb hby at_137) rfl ?_
                      show Steps p.tables e below (T204.setTop (mkF m 139 #[.val (.int p1), .val (.int p2), .val (.int p3), .val (.int (1 : Int32)), .val (.ref a138), .val (.int i141), .val (.int p3), .val (.ref a16)] [(.int p3), (.int (1 : Int32)), (.ref a16)])) _
                      exact kt
                    obtain ⟨_, _, ⟨T255, L255, k255, n255⟩, -, X255, ⟨Lc255, hQ255, l255, y255, z255⟩, st255⟩ := Jvm.LawKit.callS X204 hx (y := M_3) hown (mvT hZ (hw _ (gw 19 rfl))) (mvT hZ (hw _ (gw 20 rfl))) (mvT hZ (hw _ (gw 21 rfl))) (mvT hZ (hw _ (gw 22 rfl))) (by decide) (backOf (W := 1) (rm3_31 l Z a0 hw [] p3 a16 h0 n0  O0 S_17 u228 u229 u230 u231) hZ (hw _ (gw 22 rfl)) (hw _ (gw 21 rfl)) (by decide) (by decide)) (g := (mkF m 139 #[.val (.int p1), .val (.int p2), .val (.int p3), .val (.int (1 : Int32)), .val (.ref a138), .val (.int i141), .val (.int p3), .val (.ref a16)] [(.int p3), (.int (1 : Int32)), (.ref a16)])) rfl (by rw [hml]; rfl) (argsL := [(.int (1 : Int32)), (.int p3)]) (rest := [(.ref a16)]) (lenOf pd_2 rfl) rfl (by show 2 * 0 + _ ≤ _; exact Nat.le_of_eq rfl) (hb hby at_139) (fun _ _ => ⟨rfl, u234, (by decide : 0 + 0 ≤ _), (by decide : 0 + 0 ≤ _)⟩)
                    dsimp only [Pt.U, Pt.locs, Pt.cells, Pt.slots] at X255 l255 y255 z255 st255 hQ255
                    subst l255 y255 z255
                    rcases hQ255 with ⟨u257, rfl, u259, u260⟩ | ⟨u261, rfl, u263, u264⟩
                    · skip
                      have N255 := Fr.app N204 u259
                      have pre265 : ∀ t, Steps p.tables e below (T255.setTop (mkF m 142 #[.val (.int p1), .val (.int p2), .val (.int p3), .val (.int (1 : Int32)), .val (.ref a138), .val (.int i141), .val (.int p3), .val (.ref a16)] [(.ref a16), (.ref a16)])) t → Steps p.tables e below (s₁.setTop (entryFrame m #[(.int p1), (.int p2), (.int p3)] maxLocals)) t := by
                        intro t kt
                        refine pre256 t ?_
                        refine st255 _ ?_
                        exact kt
                      subst u257
                      obtain ⟨fs, hr, hrun, hended, hW, hsame⟩ := X255.leave (v := some (.int (1 : Int32))) (fun h => by rw [Bd.returns] at h; cases h)
                      refine ⟨_, _, pre265 _ ?_, hrun, hended, _, _, rfl, ?_, ⟨_, rfl⟩, hW, hsame.mono (by decide) (by decide)⟩
                      · show Steps p.tables e below (T255.setTop (mkF m 142 #[.val (.int p1), .val (.int p2), .val (.int (204 : Int32)), .val (.int (1 : Int32)), .val (.ref a138), .val (.int i141), .val (.int (204 : Int32)), .val (.ref a16)] [(.ref a16), (.ref a16)])) _
                        refine Jvm.RoadKit.acmp (g := (mkF m 142 #[.val (.int p1), .val (.int p2), .val (.int (204 : Int32)), .val (.int (1 : Int32)), .val (.ref a138), .val (.int i141), .val (.int (204 : Int32)), .val (.ref a16)] [(.ref a16), (.ref a16)])) X255 hx rfl rfl rfl (pc0 := 142) (pc' := 145) (same := true) rfl (hb hby at_142) rfl (decide_eq_true rfl) (by decide) (by decide) ?_
                        show Steps p.tables e below (T255.setTop (mkF m 145 #[.val (.int p1), .val (.int p2), .val (.int (204 : Int32)), .val (.int (1 : Int32)), .val (.ref a138), .val (.int i141), .val (.int (204 : Int32)), .val (.ref a16)] [])) _
                        refine XS.iconst X255.here hx rfl (hb hby at_145) ?_
                        show Steps p.tables e below (T255.setTop (mkF m 146 #[.val (.int p1), .val (.int p2), .val (.int (204 : Int32)), .val (.int (1 : Int32)), .val (.ref a138), .val (.int i141), .val (.int (204 : Int32)), .val (.ref a16)] [(.int (1 : Int32))])) _
                        refine XS.goto X255.here hx rfl (pc0 := 146) (pc' := 150) rfl (hb hby at_146) (by decide) (by decide) ?_
                        show Steps p.tables e below (T255.setTop (mkF m 150 #[.val (.int p1), .val (.int p2), .val (.int (204 : Int32)), .val (.int (1 : Int32)), .val (.ref a138), .val (.int i141), .val (.int (204 : Int32)), .val (.ref a16)] [(.int (1 : Int32))])) _
                        exact retN X255 hx (t := .boolean) Bd.returns (by simp) (hb hby at_150) hr
                      · show Q0 Z _ _ _ _ _ _ _ _ _ h0 n0 _ T255.heap _
                        rw [u260]
                        exact ⟨rfl, N255⟩
                    · skip
                      have N255 := Fr.app N204 u263
                      obtain ⟨fs, hr, hrun, hended, hW, hsame⟩ := X255.leave (v := some (.int (1 : Int32))) (fun h => by rw [Bd.returns] at h; cases h)
                      refine ⟨_, _, pre256 _ ?_, hrun, hended, _, _, rfl, ?_, ⟨_, rfl⟩, hW, hsame.mono (by decide) (by decide)⟩
                      · refine st255 _ ?_
                        show Steps p.tables e below (T255.setTop (mkF m 142 #[.val (.int p1), .val (.int p2), .val (.int p3), .val (.int (1 : Int32)), .val (.ref a138), .val (.int i141), .val (.int p3), .val (.ref a16)] [(.ref a16), (.ref a16)])) _
                        refine Jvm.RoadKit.acmp (g := (mkF m 142 #[.val (.int p1), .val (.int p2), .val (.int p3), .val (.int (1 : Int32)), .val (.ref a138), .val (.int i141), .val (.int p3), .val (.ref a16)] [(.ref a16), (.ref a16)])) X255 hx rfl rfl rfl (pc0 := 142) (pc' := 145) (same := true) rfl (hb hby at_142) rfl (decide_eq_true rfl) (by decide) (by decide) ?_
                        show Steps p.tables e below (T255.setTop (mkF m 145 #[.val (.int p1), .val (.int p2), .val (.int p3), .val (.int (1 : Int32)), .val (.ref a138), .val (.int i141), .val (.int p3), .val (.ref a16)] [])) _
                        refine XS.iconst X255.here hx rfl (hb hby at_145) ?_
                        show Steps p.tables e below (T255.setTop (mkF m 146 #[.val (.int p1), .val (.int p2), .val (.int p3), .val (.int (1 : Int32)), .val (.ref a138), .val (.int i141), .val (.int p3), .val (.ref a16)] [(.int (1 : Int32))])) _
                        refine XS.goto X255.here hx rfl (pc0 := 146) (pc' := 150) rfl (hb hby at_146) (by decide) (by decide) ?_
                        show Steps p.tables e below (T255.setTop (mkF m 150 #[.val (.int p1), .val (.int p2), .val (.int p3), .val (.int (1 : Int32)), .val (.ref a138), .val (.int i141), .val (.int p3), .val (.ref a16)] [(.int (1 : Int32))])) _
                        exact retN X255 hx (t := .boolean) Bd.returns (by simp) (hb hby at_150) hr
                      · show Q0 Z _ _ _ _ _ _ _ _ _ h0 n0 _ T255.heap _
                        rw [u264]
                        exact ⟨rfl, N255⟩
    · skip
      obtain ⟨T268, X268, e268, st268⟩ := getS2 X0 hx hZ hown (host := "") (Or.inl (hw _ (gw 26 rfl))) Via.refl e0 (Sta.ext O0.2 S_267) (g := (mkF m 28 #[.val (.int p1), .val (.int p2), .val (.int p3), .val (.int i5), .unset, .unset, .unset, .unset] [])) rfl (hb hby at_28)
      obtain ⟨i269, hi269⟩ : ∃ z, z = (p2 &&& (7 : Int32)) := ⟨_, rfl⟩
      have pre270 : ∀ t, Steps p.tables e below (T268.setTop (mkF m 41 #[.val (.int p1), .val (.int p2), .val (.int p3), .val (.int i5), .val (.ref a266), .val (.int i269), .unset, .unset] [(.int i269)])) t → Steps p.tables e below (s₁.setTop (entryFrame m #[(.int p1), (.int p2), (.int p3)] maxLocals)) t := by
        intro t kt
        refine pre136 t ?_
        show Steps p.tables e below (s₁.setTop (mkF m 19 #[.val (.int p1), .val (.int p2), .val (.int p3), .val (.int i5), .unset, .unset, .unset, .unset] [(.int (1 : Int32)), (.int i5)])) _
        refine XS.icmpYes X0.here hx rfl (pc0 := 19) (pc' := 28) rfl (hb hby at_19) rfl (feq hc137).2 (by decide) (by decide) ?_
        show Steps p.tables e below (s₁.setTop (mkF m 28 #[.val (.int p1), .val (.int p2), .val (.int p3), .val (.int i5), .unset, .unset, .unset, .unset] [])) _
        refine st268 _ ?_
        show Steps p.tables e below (T268.setTop (mkF m 31 #[.val (.int p1), .val (.int p2), .val (.int p3), .val (.int i5), .unset, .unset, .unset, .unset] [(.ref a266)])) _
        refine XS.astore X268.here hx rfl (hb hby at_31) rfl rfl (l' := #[.val (.int p1), .val (.int p2), .val (.int p3), .val (.int i5), .val (.ref a266), .unset, .unset, .unset]) rfl ?_
        show Steps p.tables e below (T268.setTop (mkF m 33 #[.val (.int p1), .val (.int p2), .val (.int p3), .val (.int i5), .val (.ref a266), .unset, .unset, .unset] [])) _
        refine XS.iloadN X268.here hx rfl (hb hby at_33) rfl ?_
        show Steps p.tables e below (T268.setTop (mkF m 34 #[.val (.int p1), .val (.int p2), .val (.int p3), .val (.int i5), .val (.ref a266), .unset, .unset, .unset] [(.int p2)])) _
        refine XS.bipush X268.here hx rfl (hb hby at_34) ?_
        show Steps p.tables e below (T268.setTop (mkF m 36 #[.val (.int p1), .val (.int p2), .val (.int p3), .val (.int i5), .val (.ref a266), .unset, .unset, .unset] [(.int (7 : Int32)), (.int p2)])) _
        refine XS.iand X268.here hx rfl (hb hby at_36) rfl ?_
        show Steps p.tables e below (T268.setTop (mkF m 37 #[.val (.int p1), .val (.int p2), .val (.int p3), .val (.int i5), .val (.ref a266), .unset, .unset, .unset] [(.int (p2 &&& (7 : Int32)))])) _
        rw [← hi269]
        show Steps p.tables e below (T268.setTop (mkF m 37 #[.val (.int p1), .val (.int p2), .val (.int p3), .val (.int i5), .val (.ref a266), .unset, .unset, .unset] [(.int i269)])) _
        refine XS.istore X268.here hx rfl (hb hby at_37) rfl (l' := #[.val (.int p1), .val (.int p2), .val (.int p3), .val (.int i5), .val (.ref a266), .val (.int i269), .unset, .unset]) rfl ?_
        show Steps p.tables e below (T268.setTop (mkF m 39 #[.val (.int p1), .val (.int p2), .val (.int p3), .val (.int i5), .val (.ref a266), .val (.int i269), .unset, .unset] [])) _
        refine XS.iload X268.here hx rfl (hb hby at_39) rfl ?_
        exact kt
      by_cases hc271 : i269 = (0 : Int32)
      · skip
        subst hc271
        obtain ⟨_, _, ⟨T274, L274, k274, n274⟩, -, X274, ⟨Lc274, hQ274, l274, y274, z274⟩, st274⟩ := Jvm.LawKit.callS X268 hx (y := M_2) hown (mvT hZ (hw _ (gw 4 rfl))) (mvT hZ (hw _ (gw 5 rfl))) (mvT hZ (hw _ (gw 6 rfl))) (mvT hZ (hw _ (gw 7 rfl))) (by decide) (backOf (W := 0) (rm1_32 l Z a0 hw [] a266 a16 h0 n0  O0 E_272 F273 S_17) hZ (hw _ (gw 7 rfl)) (hw _ (gw 6 rfl)) (by decide) (by decide)) (g := (mkF m 129 #[.val (.int p1), .val (.int p2), .val (.int p3), .val (.int i5), .val (.ref a266), .val (.int (0 : Int32)), .val (.int (200 : Int32)), .unset] [(.int (200 : Int32)), (.ref a266)])) rfl (by rw [hml]; rfl) (argsL := [(.ref a266), (.int (200 : Int32))]) (rest := []) (lenOf pd_1 rfl) rfl (by show 2 * 0 + _ ≤ _; exact Nat.le_of_eq rfl) (hb hby at_129) (fun _ _ => ⟨rfl, e268, (by decide : 0 + 0 ≤ _), (by decide : 0 + 0 ≤ _)⟩)
        dsimp only [Pt.U, Pt.locs, Pt.cells, Pt.slots] at X274 l274 y274 z274 st274 hQ274
        subst l274 y274 z274
        obtain ⟨rfl, u276, u277⟩ := hQ274
        have N274 := Fr.app N0 u276
        obtain ⟨_, _, ⟨T278, L278, k278, n278⟩, -, X278, ⟨Lc278, hQ278, l278, y278, z278⟩, st278⟩ := Jvm.LawKit.callS X274 hx (y := M_3) hown (mvT hZ (hw _ (gw 19 rfl))) (mvT hZ (hw _ (gw 20 rfl))) (mvT hZ (hw _ (gw 21 rfl))) (mvT hZ (hw _ (gw 22 rfl))) (by decide) (backOf (W := 1) (rm3_34 l Z a0 hw [] i5 a16 h0 n0  O0 hc137 S_17) hZ (hw _ (gw 22 rfl)) (hw _ (gw 21 rfl)) (by decide) (by decide)) (g := (mkF m 139 #[.val (.int p1), .val (.int p2), .val (.int p3), .val (.int i5), .val (.ref a266), .val (.int (0 : Int32)), .val (.int (200 : Int32)), .val (.ref a16)] [(.int (200 : Int32)), (.int i5), (.ref a16)])) rfl (by rw [hml]; rfl) (argsL := [(.int i5), (.int (200 : Int32))]) (rest := [(.ref a16)]) (lenOf pd_2 rfl) rfl (by show 2 * 0 + _ ≤ _; exact Nat.le_of_eq rfl) (hb hby at_139) (fun _ _ => ⟨rfl, u277, (by decide : 0 + 0 ≤ _), (by decide : 0 + 0 ≤ _)⟩)
        dsimp only [Pt.U, Pt.locs, Pt.cells, Pt.slots] at X278 l278 y278 z278 st278 hQ278
        subst l278 y278 z278
        obtain ⟨rfl, u280, u281⟩ := hQ278
        have N278 := Fr.app N274 u280
        obtain ⟨fs, hr, hrun, hended, hW, hsame⟩ := X278.leave (v := some (.int (1 : Int32))) (fun h => by rw [Bd.returns] at h; cases h)
        refine ⟨_, _, pre270 _ ?_, hrun, hended, _, _, rfl, ?_, ⟨_, rfl⟩, hW, hsame.mono (by decide) (by decide)⟩
        · show Steps p.tables e below (T268.setTop (mkF m 41 #[.val (.int p1), .val (.int p2), .val (.int p3), .val (.int i5), .val (.ref a266), .val (.int (0 : Int32)), .unset, .unset] [(.int (0 : Int32))])) _
          refine XS.ifNo X268.here hx rfl (hb hby at_41) rfl ((if0 _ _).trans (teq (by decide +kernel : (0 : Int32) = (0 : Int32))).2) ?_
          show Steps p.tables e below (T268.setTop (mkF m 44 #[.val (.int p1), .val (.int p2), .val (.int p3), .val (.int i5), .val (.ref a266), .val (.int (0 : Int32)), .unset, .unset] [])) _
          refine XS.sipush X268.here hx rfl (hb hby at_44) ?_
          show Steps p.tables e below (T268.setTop (mkF m 47 #[.val (.int p1), .val (.int p2), .val (.int p3), .val (.int i5), .val (.ref a266), .val (.int (0 : Int32)), .unset, .unset] [(.int (200 : Int32))])) _
          refine XS.istore X268.here hx rfl (hb hby at_47) rfl (l' := #[.val (.int p1), .val (.int p2), .val (.int p3), .val (.int i5), .val (.ref a266), .val (.int (0 : Int32)), .val (.int (200 : Int32)), .unset]) rfl ?_
          show Steps p.tables e below (T268.setTop (mkF m 49 #[.val (.int p1), .val (.int p2), .val (.int p3), .val (.int i5), .val (.ref a266), .val (.int (0 : Int32)), .val (.int (200 : Int32)), .unset] [])) _
          refine XS.goto X268.here hx rfl (pc0 := 49) (pc' := 125) rfl (hb hby at_49) (by decide) (by decide) ?_
          show Steps p.tables e below (T268.setTop (mkF m 125 #[.val (.int p1), .val (.int p2), .val (.int p3), .val (.int i5), .val (.ref a266), .val (.int (0 : Int32)), .val (.int (200 : Int32)), .unset] [])) _
          refine XS.aload X268.here hx rfl (hb hby at_125) rfl rfl ?_
          show Steps p.tables e below (T268.setTop (mkF m 127 #[.val (.int p1), .val (.int p2), .val (.int p3), .val (.int i5), .val (.ref a266), .val (.int (0 : Int32)), .val (.int (200 : Int32)), .unset] [(.ref a266)])) _
          refine XS.iload X268.here hx rfl (hb hby at_127) rfl ?_
          show Steps p.tables e below (T268.setTop (mkF m 129 #[.val (.int p1), .val (.int p2), .val (.int p3), .val (.int i5), .val (.ref a266), .val (.int (0 : Int32)), .val (.int (200 : Int32)), .unset] [(.int (200 : Int32)), (.ref a266)])) _
          refine st274 _ ?_
          show Steps p.tables e below (T274.setTop (mkF m 132 #[.val (.int p1), .val (.int p2), .val (.int p3), .val (.int i5), .val (.ref a266), .val (.int (0 : Int32)), .val (.int (200 : Int32)), .unset] [(.ref a16)])) _
          refine XS.astore X274.here hx rfl (hb hby at_132) rfl rfl (l' := #[.val (.int p1), .val (.int p2), .val (.int p3), .val (.int i5), .val (.ref a266), .val (.int (0 : Int32)), .val (.int (200 : Int32)), .val (.ref a16)]) rfl ?_
          show Steps p.tables e below (T274.setTop (mkF m 134 #[.val (.int p1), .val (.int p2), .val (.int p3), .val (.int i5), .val (.ref a266), .val (.int (0 : Int32)), .val (.int (200 : Int32)), .val (.ref a16)] [])) _
          refine XS.aload X274.here hx rfl (hb hby at_134) rfl rfl ?_
          show Steps p.tables e below (T274.setTop (mkF m 136 #[.val (.int p1), .val (.int p2), .val (.int p3), .val (.int i5), .val (.ref a266), .val (.int (0 : Int32)), .val (.int (200 : Int32)), .val (.ref a16)] [(.ref a16)])) _
          refine XS.iloadN X274.here hx rfl (hb hby at_136) rfl ?_
          show Steps p.tables e below (T274.setTop (mkF m 137 #[.val (.int p1), .val (.int p2), .val (.int p3), .val (.int i5), .val (.ref a266), .val (.int (0 : Int32)), .val (.int (200 : Int32)), .val (.ref a16)] [(.int i5), (.ref a16)])) _
          refine XS.iload X274.here hx rfl (hb hby at_137) rfl ?_
          show Steps p.tables e below (T274.setTop (mkF m 139 #[.val (.int p1), .val (.int p2), .val (.int p3), .val (.int i5), .val (.ref a266), .val (.int (0 : Int32)), .val (.int (200 : Int32)), .val (.ref a16)] [(.int (200 : Int32)), (.int i5), (.ref a16)])) _
          refine st278 _ ?_
          show Steps p.tables e below (T278.setTop (mkF m 142 #[.val (.int p1), .val (.int p2), .val (.int p3), .val (.int i5), .val (.ref a266), .val (.int (0 : Int32)), .val (.int (200 : Int32)), .val (.ref a16)] [(.ref a16), (.ref a16)])) _
          refine Jvm.RoadKit.acmp (g := (mkF m 142 #[.val (.int p1), .val (.int p2), .val (.int p3), .val (.int i5), .val (.ref a266), .val (.int (0 : Int32)), .val (.int (200 : Int32)), .val (.ref a16)] [(.ref a16), (.ref a16)])) X278 hx rfl rfl rfl (pc0 := 142) (pc' := 145) (same := true) rfl (hb hby at_142) rfl (decide_eq_true rfl) (by decide) (by decide) ?_
          show Steps p.tables e below (T278.setTop (mkF m 145 #[.val (.int p1), .val (.int p2), .val (.int p3), .val (.int i5), .val (.ref a266), .val (.int (0 : Int32)), .val (.int (200 : Int32)), .val (.ref a16)] [])) _
          refine XS.iconst X278.here hx rfl (hb hby at_145) ?_
          show Steps p.tables e below (T278.setTop (mkF m 146 #[.val (.int p1), .val (.int p2), .val (.int p3), .val (.int i5), .val (.ref a266), .val (.int (0 : Int32)), .val (.int (200 : Int32)), .val (.ref a16)] [(.int (1 : Int32))])) _
          refine XS.goto X278.here hx rfl (pc0 := 146) (pc' := 150) rfl (hb hby at_146) (by decide) (by decide) ?_
          show Steps p.tables e below (T278.setTop (mkF m 150 #[.val (.int p1), .val (.int p2), .val (.int p3), .val (.int i5), .val (.ref a266), .val (.int (0 : Int32)), .val (.int (200 : Int32)), .val (.ref a16)] [(.int (1 : Int32))])) _
          exact retN X278 hx (t := .boolean) Bd.returns (by simp) (hb hby at_150) hr
        · show Q0 Z _ _ _ _ _ _ _ _ _ h0 n0 _ T278.heap _
          rw [u281]
          exact ⟨rfl, N278⟩
      · skip
        have pre282 : ∀ t, Steps p.tables e below (T268.setTop (mkF m 55 #[.val (.int p1), .val (.int p2), .val (.int p3), .val (.int i5), .val (.ref a266), .val (.int i269), .unset, .unset] [(.int (1 : Int32)), (.int i269)])) t → Steps p.tables e below (s₁.setTop (entryFrame m #[(.int p1), (.int p2), (.int p3)] maxLocals)) t := by
          intro t kt
          refine pre270 t ?_
          show Steps p.tables e below (T268.setTop (mkF m 41 #[.val (.int p1), .val (.int p2), .val (.int p3), .val (.int i5), .val (.ref a266), .val (.int i269), .unset, .unset] [(.int i269)])) _
          refine XS.ifYes X268.here hx rfl (pc0 := 41) (pc' := 52) rfl (hb hby at_41) rfl ((if0 _ _).trans (feq hc271).2) (by decide) (by decide) ?_
          show Steps p.tables e below (T268.setTop (mkF m 52 #[.val (.int p1), .val (.int p2), .val (.int p3), .val (.int i5), .val (.ref a266), .val (.int i269), .unset, .unset] [])) _
          refine XS.iload X268.here hx rfl (hb hby at_52) rfl ?_
          show Steps p.tables e below (T268.setTop (mkF m 54 #[.val (.int p1), .val (.int p2), .val (.int p3), .val (.int i5), .val (.ref a266), .val (.int i269), .unset, .unset] [(.int i269)])) _
          refine XS.iconst X268.here hx rfl (hb hby at_54) ?_
          exact kt
        by_cases hc283 : i269 = (1 : Int32)
        · skip
          subst hc283
          obtain ⟨_, _, ⟨T284, L284, k284, n284⟩, -, X284, ⟨Lc284, hQ284, l284, y284, z284⟩, st284⟩ := Jvm.LawKit.callS X268 hx (y := M_2) hown (mvT hZ (hw _ (gw 4 rfl))) (mvT hZ (hw _ (gw 5 rfl))) (mvT hZ (hw _ (gw 6 rfl))) (mvT hZ (hw _ (gw 7 rfl))) (by decide) (backOf (W := 0) (rm1_35 l Z a0 hw [] a266 a28 h0 n0  O0 E_272 F273 S_29) hZ (hw _ (gw 7 rfl)) (hw _ (gw 6 rfl)) (by decide) (by decide)) (g := (mkF m 129 #[.val (.int p1), .val (.int p2), .val (.int p3), .val (.int i5), .val (.ref a266), .val (.int (1 : Int32)), .val (.int (204 : Int32)), .unset] [(.int (204 : Int32)), (.ref a266)])) rfl (by rw [hml]; rfl) (argsL := [(.ref a266), (.int (204 : Int32))]) (rest := []) (lenOf pd_1 rfl) rfl (by show 2 * 0 + _ ≤ _; exact Nat.le_of_eq rfl) (hb hby at_129) (fun _ _ => ⟨rfl, e268, (by decide : 0 + 0 ≤ _), (by decide : 0 + 0 ≤ _)⟩)
          dsimp only [Pt.U, Pt.locs, Pt.cells, Pt.slots] at X284 l284 y284 z284 st284 hQ284
          subst l284 y284 z284
          obtain ⟨rfl, u286, u287⟩ := hQ284
          have N284 := Fr.app N0 u286
          obtain ⟨_, _, ⟨T288, L288, k288, n288⟩, -, X288, ⟨Lc288, hQ288, l288, y288, z288⟩, st288⟩ := Jvm.LawKit.callS X284 hx (y := M_3) hown (mvT hZ (hw _ (gw 19 rfl))) (mvT hZ (hw _ (gw 20 rfl))) (mvT hZ (hw _ (gw 21 rfl))) (mvT hZ (hw _ (gw 22 rfl))) (by decide) (backOf (W := 1) (rm3_36 l Z a0 hw [] i5 a28 h0 n0  O0 hc137 S_29) hZ (hw _ (gw 22 rfl)) (hw _ (gw 21 rfl)) (by decide) (by decide)) (g := (mkF m 139 #[.val (.int p1), .val (.int p2), .val (.int p3), .val (.int i5), .val (.ref a266), .val (.int (1 : Int32)), .val (.int (204 : Int32)), .val (.ref a28)] [(.int (204 : Int32)), (.int i5), (.ref a28)])) rfl (by rw [hml]; rfl) (argsL := [(.int i5), (.int (204 : Int32))]) (rest := [(.ref a28)]) (lenOf pd_2 rfl) rfl (by show 2 * 0 + _ ≤ _; exact Nat.le_of_eq rfl) (hb hby at_139) (fun _ _ => ⟨rfl, u287, (by decide : 0 + 0 ≤ _), (by decide : 0 + 0 ≤ _)⟩)
          dsimp only [Pt.U, Pt.locs, Pt.cells, Pt.slots] at X288 l288 y288 z288 st288 hQ288
          subst l288 y288 z288
          obtain ⟨rfl, u290, u291⟩ := hQ288
          have N288 := Fr.app N284 u290
          obtain ⟨fs, hr, hrun, hended, hW, hsame⟩ := X288.leave (v := some (.int (1 : Int32))) (fun h => by rw [Bd.returns] at h; cases h)
          refine ⟨_, _, pre282 _ ?_, hrun, hended, _, _, rfl, ?_, ⟨_, rfl⟩, hW, hsame.mono (by decide) (by decide)⟩
          · show Steps p.tables e below (T268.setTop (mkF m 55 #[.val (.int p1), .val (.int p2), .val (.int p3), .val (.int i5), .val (.ref a266), .val (.int (1 : Int32)), .unset, .unset] [(.int (1 : Int32)), (.int (1 : Int32))])) _
            refine XS.icmpNo X268.here hx rfl (hb hby at_55) rfl (teq (by decide +kernel : (1 : Int32) = (1 : Int32))).2 ?_
            show Steps p.tables e below (T268.setTop (mkF m 58 #[.val (.int p1), .val (.int p2), .val (.int p3), .val (.int i5), .val (.ref a266), .val (.int (1 : Int32)), .unset, .unset] [])) _
            refine XS.sipush X268.here hx rfl (hb hby at_58) ?_
            show Steps p.tables e below (T268.setTop (mkF m 61 #[.val (.int p1), .val (.int p2), .val (.int p3), .val (.int i5), .val (.ref a266), .val (.int (1 : Int32)), .unset, .unset] [(.int (204 : Int32))])) _
            refine XS.istore X268.here hx rfl (hb hby at_61) rfl (l' := #[.val (.int p1), .val (.int p2), .val (.int p3), .val (.int i5), .val (.ref a266), .val (.int (1 : Int32)), .val (.int (204 : Int32)), .unset]) rfl ?_
            show Steps p.tables e below (T268.setTop (mkF m 63 #[.val (.int p1), .val (.int p2), .val (.int p3), .val (.int i5), .val (.ref a266), .val (.int (1 : Int32)), .val (.int (204 : Int32)), .unset] [])) _
            refine XS.goto X268.here hx rfl (pc0 := 63) (pc' := 125) rfl (hb hby at_63) (by decide) (by decide) ?_
            show Steps p.tables e below (T268.setTop (mkF m 125 #[.val (.int p1), .val (.int p2), .val (.int p3), .val (.int i5), .val (.ref a266), .val (.int (1 : Int32)), .val (.int (204 : Int32)), .unset] [])) _
            refine XS.aload X268.here hx rfl (hb hby at_125) rfl rfl ?_
            show Steps p.tables e below (T268.setTop (mkF m 127 #[.val (.int p1), .val (.int p2), .val (.int p3), .val (.int i5), .val (.ref a266), .val (.int (1 : Int32)), .val (.int (204 : Int32)), .unset] [(.ref a266)])) _
            refine XS.iload X268.here hx rfl (hb hby at_127) rfl ?_
            show Steps p.tables e below (T268.setTop (mkF m 129 #[.val (.int p1), .val (.int p2), .val (.int p3), .val (.int i5), .val (.ref a266), .val (.int (1 : Int32)), .val (.int (204 : Int32)), .unset] [(.int (204 : Int32)), (.ref a266)])) _
            refine st284 _ ?_
            show Steps p.tables e below (T284.setTop (mkF m 132 #[.val (.int p1), .val (.int p2), .val (.int p3), .val (.int i5), .val (.ref a266), .val (.int (1 : Int32)), .val (.int (204 : Int32)), .unset] [(.ref a28)])) _
            refine XS.astore X284.here hx rfl (hb hby at_132) rfl rfl (l' := #[.val (.int p1), .val (.int p2), .val (.int p3), .val (.int i5), .val (.ref a266), .val (.int (1 : Int32)), .val (.int (204 : Int32)), .val (.ref a28)]) rfl ?_
            show Steps p.tables e below (T284.setTop (mkF m 134 #[.val (.int p1), .val (.int p2), .val (.int p3), .val (.int i5), .val (.ref a266), .val (.int (1 : Int32)), .val (.int (204 : Int32)), .val (.ref a28)] [])) _
            refine XS.aload X284.here hx rfl (hb hby at_134) rfl rfl ?_
            show Steps p.tables e below (T284.setTop (mkF m 136 #[.val (.int p1), .val (.int p2), .val (.int p3), .val (.int i5), .val (.ref a266), .val (.int (1 : Int32)), .val (.int (204 : Int32)), .val (.ref a28)] [(.ref a28)])) _
            refine XS.iloadN X284.here hx rfl (hb hby at_136) rfl ?_
            show Steps p.tables e below (T284.setTop (mkF m 137 #[.val (.int p1), .val (.int p2), .val (.int p3), .val (.int i5), .val (.ref a266), .val (.int (1 : Int32)), .val (.int (204 : Int32)), .val (.ref a28)] [(.int i5), (.ref a28)])) _
            refine XS.iload X284.here hx rfl (hb hby at_137) rfl ?_
            show Steps p.tables e below (T284.setTop (mkF m 139 #[.val (.int p1), .val (.int p2), .val (.int p3), .val (.int i5), .val (.ref a266), .val (.int (1 : Int32)), .val (.int (204 : Int32)), .val (.ref a28)] [(.int (204 : Int32)), (.int i5), (.ref a28)])) _
            refine st288 _ ?_
            show Steps p.tables e below (T288.setTop (mkF m 142 #[.val (.int p1), .val (.int p2), .val (.int p3), .val (.int i5), .val (.ref a266), .val (.int (1 : Int32)), .val (.int (204 : Int32)), .val (.ref a28)] [(.ref a28), (.ref a28)])) _
            refine Jvm.RoadKit.acmp (g := (mkF m 142 #[.val (.int p1), .val (.int p2), .val (.int p3), .val (.int i5), .val (.ref a266), .val (.int (1 : Int32)), .val (.int (204 : Int32)), .val (.ref a28)] [(.ref a28), (.ref a28)])) X288 hx rfl rfl rfl (pc0 := 142) (pc' := 145) (same := true) rfl (hb hby at_142) rfl (decide_eq_true rfl) (by decide) (by decide) ?_
            show Steps p.tables e below (T288.setTop (mkF m 145 #[.val (.int p1), .val (.int p2), .val (.int p3), .val (.int i5), .val (.ref a266), .val (.int (1 : Int32)), .val (.int (204 : Int32)), .val (.ref a28)] [])) _
            refine XS.iconst X288.here hx rfl (hb hby at_145) ?_
            show Steps p.tables e below (T288.setTop (mkF m 146 #[.val (.int p1), .val (.int p2), .val (.int p3), .val (.int i5), .val (.ref a266), .val (.int (1 : Int32)), .val (.int (204 : Int32)), .val (.ref a28)] [(.int (1 : Int32))])) _
            refine XS.goto X288.here hx rfl (pc0 := 146) (pc' := 150) rfl (hb hby at_146) (by decide) (by decide) ?_
            show Steps p.tables e below (T288.setTop (mkF m 150 #[.val (.int p1), .val (.int p2), .val (.int p3), .val (.int i5), .val (.ref a266), .val (.int (1 : Int32)), .val (.int (204 : Int32)), .val (.ref a28)] [(.int (1 : Int32))])) _
            exact retN X288 hx (t := .boolean) Bd.returns (by simp) (hb hby at_150) hr
          · show Q0 Z _ _ _ _ _ _ _ _ _ h0 n0 _ T288.heap _
            rw [u291]
            exact ⟨rfl, N288⟩
        · skip
          have pre292 : ∀ t, Steps p.tables e below (T268.setTop (mkF m 69 #[.val (.int p1), .val (.int p2), .val (.int p3), .val (.int i5), .val (.ref a266), .val (.int i269), .unset, .unset] [(.int (2 : Int32)), (.int i269)])) t → Steps p.tables e below (s₁.setTop (entryFrame m #[(.int p1), (.int p2), (.int p3)] maxLocals)) t := by
            intro t kt
            refine pre282 t ?_
            show Steps p.tables e below (T268.setTop (mkF m 55 #[.val (.int p1), .val (.int p2), .val (.int p3), .val (.int i5), .val (.ref a266), .val (.int i269), .unset, .unset] [(.int (1 : Int32)), (.int i269)])) _
            refine XS.icmpYes X268.here hx rfl (pc0 := 55) (pc' := 66) rfl (hb hby at_55) rfl (feq hc283).2 (by decide) (by decide) ?_
            show Steps p.tables e below (T268.setTop (mkF m 66 #[.val (.int p1), .val (.int p2), .val (.int p3), .val (.int i5), .val (.ref a266), .val (.int i269), .unset, .unset] [])) _
            refine XS.iload X268.here hx rfl (hb hby at_66) rfl ?_
            show Steps p.tables e below (T268.setTop (mkF m 68 #[.val (.int p1), .val (.int p2), .val (.int p3), .val (.int i5), .val (.ref a266), .val (.int i269), .unset, .unset] [(.int i269)])) _
            refine XS.iconst X268.here hx rfl (hb hby at_68) ?_
            exact kt
          by_cases hc293 : i269 = (2 : Int32)
          · skip
            subst hc293
            obtain ⟨_, _, ⟨T294, L294, k294, n294⟩, -, X294, ⟨Lc294, hQ294, l294, y294, z294⟩, st294⟩ := Jvm.LawKit.callS X268 hx (y := M_2) hown (mvT hZ (hw _ (gw 4 rfl))) (mvT hZ (hw _ (gw 5 rfl))) (mvT hZ (hw _ (gw 6 rfl))) (mvT hZ (hw _ (gw 7 rfl))) (by decide) (backOf (W := 0) (rm1_37 l Z a0 hw [] a266 a28 h0 n0  O0 E_272 F273 S_29) hZ (hw _ (gw 7 rfl)) (hw _ (gw 6 rfl)) (by decide) (by decide)) (g := (mkF m 129 #[.val (.int p1), .val (.int p2), .val (.int p3), .val (.int i5), .val (.ref a266), .val (.int (2 : Int32)), .val (.int (404 : Int32)), .unset] [(.int (404 : Int32)), (.ref a266)])) rfl (by rw [hml]; rfl) (argsL := [(.ref a266), (.int (404 : Int32))]) (rest := []) (lenOf pd_1 rfl) rfl (by show 2 * 0 + _ ≤ _; exact Nat.le_of_eq rfl) (hb hby at_129) (fun _ _ => ⟨rfl, e268, (by decide : 0 + 0 ≤ _), (by decide : 0 + 0 ≤ _)⟩)
            dsimp only [Pt.U, Pt.locs, Pt.cells, Pt.slots] at X294 l294 y294 z294 st294 hQ294
            subst l294 y294 z294
            obtain ⟨rfl, u296, u297⟩ := hQ294
            have N294 := Fr.app N0 u296
            obtain ⟨_, _, ⟨T298, L298, k298, n298⟩, -, X298, ⟨Lc298, hQ298, l298, y298, z298⟩, st298⟩ := Jvm.LawKit.callS X294 hx (y := M_3) hown (mvT hZ (hw _ (gw 19 rfl))) (mvT hZ (hw _ (gw 20 rfl))) (mvT hZ (hw _ (gw 21 rfl))) (mvT hZ (hw _ (gw 22 rfl))) (by decide) (backOf (W := 1) (rm3_38 l Z a0 hw [] i5 a28 h0 n0  O0 hc7 S_29) hZ (hw _ (gw 22 rfl)) (hw _ (gw 21 rfl)) (by decide) (by decide)) (g := (mkF m 139 #[.val (.int p1), .val (.int p2), .val (.int p3), .val (.int i5), .val (.ref a266), .val (.int (2 : Int32)), .val (.int (404 : Int32)), .val (.ref a28)] [(.int (404 : Int32)), (.int i5), (.ref a28)])) rfl (by rw [hml]; rfl) (argsL := [(.int i5), (.int (404 : Int32))]) (rest := [(.ref a28)]) (lenOf pd_2 rfl) rfl (by show 2 * 0 + _ ≤ _; exact Nat.le_of_eq rfl) (hb hby at_139) (fun _ _ => ⟨rfl, u297, (by decide : 0 + 0 ≤ _), (by decide : 0 + 0 ≤ _)⟩)
            dsimp only [Pt.U, Pt.locs, Pt.cells, Pt.slots] at X298 l298 y298 z298 st298 hQ298
            subst l298 y298 z298
            obtain ⟨rfl, u300, u301⟩ := hQ298
            have N298 := Fr.app N294 u300
            obtain ⟨fs, hr, hrun, hended, hW, hsame⟩ := X298.leave (v := some (.int (1 : Int32))) (fun h => by rw [Bd.returns] at h; cases h)
            refine ⟨_, _, pre292 _ ?_, hrun, hended, _, _, rfl, ?_, ⟨_, rfl⟩, hW, hsame.mono (by decide) (by decide)⟩
            · show Steps p.tables e below (T268.setTop (mkF m 69 #[.val (.int p1), .val (.int p2), .val (.int p3), .val (.int i5), .val (.ref a266), .val (.int (2 : Int32)), .unset, .unset] [(.int (2 : Int32)), (.int (2 : Int32))])) _
              refine XS.icmpNo X268.here hx rfl (hb hby at_69) rfl (teq (by decide +kernel : (2 : Int32) = (2 : Int32))).2 ?_
              show Steps p.tables e below (T268.setTop (mkF m 72 #[.val (.int p1), .val (.int p2), .val (.int p3), .val (.int i5), .val (.ref a266), .val (.int (2 : Int32)), .unset, .unset] [])) _
              refine XS.sipush X268.here hx rfl (hb hby at_72) ?_
              show Steps p.tables e below (T268.setTop (mkF m 75 #[.val (.int p1), .val (.int p2), .val (.int p3), .val (.int i5), .val (.ref a266), .val (.int (2 : Int32)), .unset, .unset] [(.int (404 : Int32))])) _
              refine XS.istore X268.here hx rfl (hb hby at_75) rfl (l' := #[.val (.int p1), .val (.int p2), .val (.int p3), .val (.int i5), .val (.ref a266), .val (.int (2 : Int32)), .val (.int (404 : Int32)), .unset]) rfl ?_
              show Steps p.tables e below (T268.setTop (mkF m 77 #[.val (.int p1), .val (.int p2), .val (.int p3), .val (.int i5), .val (.ref a266), .val (.int (2 : Int32)), .val (.int (404 : Int32)), .unset] [])) _
              refine XS.goto X268.here hx rfl (pc0 := 77) (pc' := 125) rfl (hb hby at_77) (by decide) (by decide) ?_
              show Steps p.tables e below (T268.setTop (mkF m 125 #[.val (.int p1), .val (.int p2), .val (.int p3), .val (.int i5), .val (.ref a266), .val (.int (2 : Int32)), .val (.int (404 : Int32)), .unset] [])) _
              refine XS.aload X268.here hx rfl (hb hby at_125) rfl rfl ?_
              show Steps p.tables e below (T268.setTop (mkF m 127 #[.val (.int p1), .val (.int p2), .val (.int p3), .val (.int i5), .val (.ref a266), .val (.int (2 : Int32)), .val (.int (404 : Int32)), .unset] [(.ref a266)])) _
              refine XS.iload X268.here hx rfl (hb hby at_127) rfl ?_
              show Steps p.tables e below (T268.setTop (mkF m 129 #[.val (.int p1), .val (.int p2), .val (.int p3), .val (.int i5), .val (.ref a266), .val (.int (2 : Int32)), .val (.int (404 : Int32)), .unset] [(.int (404 : Int32)), (.ref a266)])) _
              refine st294 _ ?_
              show Steps p.tables e below (T294.setTop (mkF m 132 #[.val (.int p1), .val (.int p2), .val (.int p3), .val (.int i5), .val (.ref a266), .val (.int (2 : Int32)), .val (.int (404 : Int32)), .unset] [(.ref a28)])) _
              refine XS.astore X294.here hx rfl (hb hby at_132) rfl rfl (l' := #[.val (.int p1), .val (.int p2), .val (.int p3), .val (.int i5), .val (.ref a266), .val (.int (2 : Int32)), .val (.int (404 : Int32)), .val (.ref a28)]) rfl ?_
              show Steps p.tables e below (T294.setTop (mkF m 134 #[.val (.int p1), .val (.int p2), .val (.int p3), .val (.int i5), .val (.ref a266), .val (.int (2 : Int32)), .val (.int (404 : Int32)), .val (.ref a28)] [])) _
              refine XS.aload X294.here hx rfl (hb hby at_134) rfl rfl ?_
              show Steps p.tables e below (T294.setTop (mkF m 136 #[.val (.int p1), .val (.int p2), .val (.int p3), .val (.int i5), .val (.ref a266), .val (.int (2 : Int32)), .val (.int (404 : Int32)), .val (.ref a28)] [(.ref a28)])) _
              refine XS.iloadN X294.here hx rfl (hb hby at_136) rfl ?_
              show Steps p.tables e below (T294.setTop (mkF m 137 #[.val (.int p1), .val (.int p2), .val (.int p3), .val (.int i5), .val (.ref a266), .val (.int (2 : Int32)), .val (.int (404 : Int32)), .val (.ref a28)] [(.int i5), (.ref a28)])) _
              refine XS.iload X294.here hx rfl (hb hby at_137) rfl ?_
              show Steps p.tables e below (T294.setTop (mkF m 139 #[.val (.int p1), .val (.int p2), .val (.int p3), .val (.int i5), .val (.ref a266), .val (.int (2 : Int32)), .val (.int (404 : Int32)), .val (.ref a28)] [(.int (404 : Int32)), (.int i5), (.ref a28)])) _
              refine st298 _ ?_
              show Steps p.tables e below (T298.setTop (mkF m 142 #[.val (.int p1), .val (.int p2), .val (.int p3), .val (.int i5), .val (.ref a266), .val (.int (2 : Int32)), .val (.int (404 : Int32)), .val (.ref a28)] [(.ref a28), (.ref a28)])) _
              refine Jvm.RoadKit.acmp (g := (mkF m 142 #[.val (.int p1), .val (.int p2), .val (.int p3), .val (.int i5), .val (.ref a266), .val (.int (2 : Int32)), .val (.int (404 : Int32)), .val (.ref a28)] [(.ref a28), (.ref a28)])) X298 hx rfl rfl rfl (pc0 := 142) (pc' := 145) (same := true) rfl (hb hby at_142) rfl (decide_eq_true rfl) (by decide) (by decide) ?_
              show Steps p.tables e below (T298.setTop (mkF m 145 #[.val (.int p1), .val (.int p2), .val (.int p3), .val (.int i5), .val (.ref a266), .val (.int (2 : Int32)), .val (.int (404 : Int32)), .val (.ref a28)] [])) _
              refine XS.iconst X298.here hx rfl (hb hby at_145) ?_
              show Steps p.tables e below (T298.setTop (mkF m 146 #[.val (.int p1), .val (.int p2), .val (.int p3), .val (.int i5), .val (.ref a266), .val (.int (2 : Int32)), .val (.int (404 : Int32)), .val (.ref a28)] [(.int (1 : Int32))])) _
              refine XS.goto X298.here hx rfl (pc0 := 146) (pc' := 150) rfl (hb hby at_146) (by decide) (by decide) ?_
              show Steps p.tables e below (T298.setTop (mkF m 150 #[.val (.int p1), .val (.int p2), .val (.int p3), .val (.int i5), .val (.ref a266), .val (.int (2 : Int32)), .val (.int (404 : Int32)), .val (.ref a28)] [(.int (1 : Int32))])) _
              exact retN X298 hx (t := .boolean) Bd.returns (by simp) (hb hby at_150) hr
            · show Q0 Z _ _ _ _ _ _ _ _ _ h0 n0 _ T298.heap _
              rw [u301]
              exact ⟨rfl, N298⟩
          · skip
            have pre302 : ∀ t, Steps p.tables e below (T268.setTop (mkF m 83 #[.val (.int p1), .val (.int p2), .val (.int p3), .val (.int i5), .val (.ref a266), .val (.int i269), .unset, .unset] [(.int (3 : Int32)), (.int i269)])) t → Steps p.tables e below (s₁.setTop (entryFrame m #[(.int p1), (.int p2), (.int p3)] maxLocals)) t := by
              intro t kt
              refine pre292 t ?_
              show Steps p.tables e below (T268.setTop (mkF m 69 #[.val (.int p1), .val (.int p2), .val (.int p3), .val (.int i5), .val (.ref a266), .val (.int i269), .unset, .unset] [(.int (2 : Int32)), (.int i269)])) _
              refine XS.icmpYes X268.here hx rfl (pc0 := 69) (pc' := 80) rfl (hb hby at_69) rfl (feq hc293).2 (by decide) (by decide) ?_
              show Steps p.tables e below (T268.setTop (mkF m 80 #[.val (.int p1), .val (.int p2), .val (.int p3), .val (.int i5), .val (.ref a266), .val (.int i269), .unset, .unset] [])) _
              refine XS.iload X268.here hx rfl (hb hby at_80) rfl ?_
              show Steps p.tables e below (T268.setTop (mkF m 82 #[.val (.int p1), .val (.int p2), .val (.int p3), .val (.int i5), .val (.ref a266), .val (.int i269), .unset, .unset] [(.int i269)])) _
              refine XS.iconst X268.here hx rfl (hb hby at_82) ?_
              exact kt
            by_cases hc303 : i269 = (3 : Int32)
            · skip
              subst hc303
              obtain ⟨_, _, ⟨T304, L304, k304, n304⟩, -, X304, ⟨Lc304, hQ304, l304, y304, z304⟩, st304⟩ := Jvm.LawKit.callS X268 hx (y := M_2) hown (mvT hZ (hw _ (gw 4 rfl))) (mvT hZ (hw _ (gw 5 rfl))) (mvT hZ (hw _ (gw 6 rfl))) (mvT hZ (hw _ (gw 7 rfl))) (by decide) (backOf (W := 0) (rm1_39 l Z a0 hw [] a266 a50 h0 n0  O0 E_272 F273 S_51) hZ (hw _ (gw 7 rfl)) (hw _ (gw 6 rfl)) (by decide) (by decide)) (g := (mkF m 129 #[.val (.int p1), .val (.int p2), .val (.int p3), .val (.int i5), .val (.ref a266), .val (.int (3 : Int32)), .val (.int (400 : Int32)), .unset] [(.int (400 : Int32)), (.ref a266)])) rfl (by rw [hml]; rfl) (argsL := [(.ref a266), (.int (400 : Int32))]) (rest := []) (lenOf pd_1 rfl) rfl (by show 2 * 0 + _ ≤ _; exact Nat.le_of_eq rfl) (hb hby at_129) (fun _ _ => ⟨rfl, e268, (by decide : 0 + 0 ≤ _), (by decide : 0 + 0 ≤ _)⟩)
              dsimp only [Pt.U, Pt.locs, Pt.cells, Pt.slots] at X304 l304 y304 z304 st304 hQ304
              subst l304 y304 z304
              obtain ⟨rfl, u306, u307⟩ := hQ304
              have N304 := Fr.app N0 u306
              obtain ⟨_, _, ⟨T308, L308, k308, n308⟩, -, X308, ⟨Lc308, hQ308, l308, y308, z308⟩, st308⟩ := Jvm.LawKit.callS X304 hx (y := M_3) hown (mvT hZ (hw _ (gw 19 rfl))) (mvT hZ (hw _ (gw 20 rfl))) (mvT hZ (hw _ (gw 21 rfl))) (mvT hZ (hw _ (gw 22 rfl))) (by decide) (backOf (W := 1) (rm3_40 l Z a0 hw [] i5 a50 h0 n0  O0 S_51) hZ (hw _ (gw 22 rfl)) (hw _ (gw 21 rfl)) (by decide) (by decide)) (g := (mkF m 139 #[.val (.int p1), .val (.int p2), .val (.int p3), .val (.int i5), .val (.ref a266), .val (.int (3 : Int32)), .val (.int (400 : Int32)), .val (.ref a50)] [(.int (400 : Int32)), (.int i5), (.ref a50)])) rfl (by rw [hml]; rfl) (argsL := [(.int i5), (.int (400 : Int32))]) (rest := [(.ref a50)]) (lenOf pd_2 rfl) rfl (by show 2 * 0 + _ ≤ _; exact Nat.le_of_eq rfl) (hb hby at_139) (fun _ _ => ⟨rfl, u307, (by decide : 0 + 0 ≤ _), (by decide : 0 + 0 ≤ _)⟩)
              dsimp only [Pt.U, Pt.locs, Pt.cells, Pt.slots] at X308 l308 y308 z308 st308 hQ308
              subst l308 y308 z308
              obtain ⟨rfl, u310, u311⟩ := hQ308
              have N308 := Fr.app N304 u310
              obtain ⟨fs, hr, hrun, hended, hW, hsame⟩ := X308.leave (v := some (.int (1 : Int32))) (fun h => by rw [Bd.returns] at h; cases h)
              refine ⟨_, _, pre302 _ ?_, hrun, hended, _, _, rfl, ?_, ⟨_, rfl⟩, hW, hsame.mono (by decide) (by decide)⟩
              · show Steps p.tables e below (T268.setTop (mkF m 83 #[.val (.int p1), .val (.int p2), .val (.int p3), .val (.int i5), .val (.ref a266), .val (.int (3 : Int32)), .unset, .unset] [(.int (3 : Int32)), (.int (3 : Int32))])) _
                refine XS.icmpNo X268.here hx rfl (hb hby at_83) rfl (teq (by decide +kernel : (3 : Int32) = (3 : Int32))).2 ?_
                show Steps p.tables e below (T268.setTop (mkF m 86 #[.val (.int p1), .val (.int p2), .val (.int p3), .val (.int i5), .val (.ref a266), .val (.int (3 : Int32)), .unset, .unset] [])) _
                refine XS.sipush X268.here hx rfl (hb hby at_86) ?_
                show Steps p.tables e below (T268.setTop (mkF m 89 #[.val (.int p1), .val (.int p2), .val (.int p3), .val (.int i5), .val (.ref a266), .val (.int (3 : Int32)), .unset, .unset] [(.int (400 : Int32))])) _
                refine XS.istore X268.here hx rfl (hb hby at_89) rfl (l' := #[.val (.int p1), .val (.int p2), .val (.int p3), .val (.int i5), .val (.ref a266), .val (.int (3 : Int32)), .val (.int (400 : Int32)), .unset]) rfl ?_
                show Steps p.tables e below (T268.setTop (mkF m 91 #[.val (.int p1), .val (.int p2), .val (.int p3), .val (.int i5), .val (.ref a266), .val (.int (3 : Int32)), .val (.int (400 : Int32)), .unset] [])) _
                refine XS.goto X268.here hx rfl (pc0 := 91) (pc' := 125) rfl (hb hby at_91) (by decide) (by decide) ?_
                show Steps p.tables e below (T268.setTop (mkF m 125 #[.val (.int p1), .val (.int p2), .val (.int p3), .val (.int i5), .val (.ref a266), .val (.int (3 : Int32)), .val (.int (400 : Int32)), .unset] [])) _
                refine XS.aload X268.here hx rfl (hb hby at_125) rfl rfl ?_
                show Steps p.tables e below (T268.setTop (mkF m 127 #[.val (.int p1), .val (.int p2), .val (.int p3), .val (.int i5), .val (.ref a266), .val (.int (3 : Int32)), .val (.int (400 : Int32)), .unset] [(.ref a266)])) _
                refine XS.iload X268.here hx rfl (hb hby at_127) rfl ?_
                show Steps p.tables e below (T268.setTop (mkF m 129 #[.val (.int p1), .val (.int p2), .val (.int p3), .val (.int i5), .val (.ref a266), .val (.int (3 : Int32)), .val (.int (400 : Int32)), .unset] [(.int (400 : Int32)), (.ref a266)])) _
                refine st304 _ ?_
                show Steps p.tables e below (T304.setTop (mkF m 132 #[.val (.int p1), .val (.int p2), .val (.int p3), .val (.int i5), .val (.ref a266), .val (.int (3 : Int32)), .val (.int (400 : Int32)), .unset] [(.ref a50)])) _
                refine XS.astore X304.here hx rfl (hb hby at_132) rfl rfl (l' := #[.val (.int p1), .val (.int p2), .val (.int p3), .val (.int i5), .val (.ref a266), .val (.int (3 : Int32)), .val (.int (400 : Int32)), .val (.ref a50)]) rfl ?_
                show Steps p.tables e below (T304.setTop (mkF m 134 #[.val (.int p1), .val (.int p2), .val (.int p3), .val (.int i5), .val (.ref a266), .val (.int (3 : Int32)), .val (.int (400 : Int32)), .val (.ref a50)] [])) _
                refine XS.aload X304.here hx rfl (hb hby at_134) rfl rfl ?_
                show Steps p.tables e below (T304.setTop (mkF m 136 #[.val (.int p1), .val (.int p2), .val (.int p3), .val (.int i5), .val (.ref a266), .val (.int (3 : Int32)), .val (.int (400 : Int32)), .val (.ref a50)] [(.ref a50)])) _
                refine XS.iloadN X304.here hx rfl (hb hby at_136) rfl ?_
                show Steps p.tables e below (T304.setTop (mkF m 137 #[.val (.int p1), .val (.int p2), .val (.int p3), .val (.int i5), .val (.ref a266), .val (.int (3 : Int32)), .val (.int (400 : Int32)), .val (.ref a50)] [(.int i5), (.ref a50)])) _
                refine XS.iload X304.here hx rfl (hb hby at_137) rfl ?_
                show Steps p.tables e below (T304.setTop (mkF m 139 #[.val (.int p1), .val (.int p2), .val (.int p3), .val (.int i5), .val (.ref a266), .val (.int (3 : Int32)), .val (.int (400 : Int32)), .val (.ref a50)] [(.int (400 : Int32)), (.int i5), (.ref a50)])) _
                refine st308 _ ?_
                show Steps p.tables e below (T308.setTop (mkF m 142 #[.val (.int p1), .val (.int p2), .val (.int p3), .val (.int i5), .val (.ref a266), .val (.int (3 : Int32)), .val (.int (400 : Int32)), .val (.ref a50)] [(.ref a50), (.ref a50)])) _
                refine Jvm.RoadKit.acmp (g := (mkF m 142 #[.val (.int p1), .val (.int p2), .val (.int p3), .val (.int i5), .val (.ref a266), .val (.int (3 : Int32)), .val (.int (400 : Int32)), .val (.ref a50)] [(.ref a50), (.ref a50)])) X308 hx rfl rfl rfl (pc0 := 142) (pc' := 145) (same := true) rfl (hb hby at_142) rfl (decide_eq_true rfl) (by decide) (by decide) ?_
                show Steps p.tables e below (T308.setTop (mkF m 145 #[.val (.int p1), .val (.int p2), .val (.int p3), .val (.int i5), .val (.ref a266), .val (.int (3 : Int32)), .val (.int (400 : Int32)), .val (.ref a50)] [])) _
                refine XS.iconst X308.here hx rfl (hb hby at_145) ?_
                show Steps p.tables e below (T308.setTop (mkF m 146 #[.val (.int p1), .val (.int p2), .val (.int p3), .val (.int i5), .val (.ref a266), .val (.int (3 : Int32)), .val (.int (400 : Int32)), .val (.ref a50)] [(.int (1 : Int32))])) _
                refine XS.goto X308.here hx rfl (pc0 := 146) (pc' := 150) rfl (hb hby at_146) (by decide) (by decide) ?_
                show Steps p.tables e below (T308.setTop (mkF m 150 #[.val (.int p1), .val (.int p2), .val (.int p3), .val (.int i5), .val (.ref a266), .val (.int (3 : Int32)), .val (.int (400 : Int32)), .val (.ref a50)] [(.int (1 : Int32))])) _
                exact retN X308 hx (t := .boolean) Bd.returns (by simp) (hb hby at_150) hr
              · show Q0 Z _ _ _ _ _ _ _ _ _ h0 n0 _ T308.heap _
                rw [u311]
                exact ⟨rfl, N308⟩
            · skip
              have pre312 : ∀ t, Steps p.tables e below (T268.setTop (mkF m 97 #[.val (.int p1), .val (.int p2), .val (.int p3), .val (.int i5), .val (.ref a266), .val (.int i269), .unset, .unset] [(.int (4 : Int32)), (.int i269)])) t → Steps p.tables e below (s₁.setTop (entryFrame m #[(.int p1), (.int p2), (.int p3)] maxLocals)) t := by
                intro t kt
                refine pre302 t ?_
                show Steps p.tables e below (T268.setTop (mkF m 83 #[.val (.int p1), .val (.int p2), .val (.int p3), .val (.int i5), .val (.ref a266), .val (.int i269), .unset, .unset] [(.int (3 : Int32)), (.int i269)])) _
                refine XS.icmpYes X268.here hx rfl (pc0 := 83) (pc' := 94) rfl (hb hby at_83) rfl (feq hc303).2 (by decide) (by decide) ?_
                show Steps p.tables e below (T268.setTop (mkF m 94 #[.val (.int p1), .val (.int p2), .val (.int p3), .val (.int i5), .val (.ref a266), .val (.int i269), .unset, .unset] [])) _
                refine XS.iload X268.here hx rfl (hb hby at_94) rfl ?_
                show Steps p.tables e below (T268.setTop (mkF m 96 #[.val (.int p1), .val (.int p2), .val (.int p3), .val (.int i5), .val (.ref a266), .val (.int i269), .unset, .unset] [(.int i269)])) _
                refine XS.iconst X268.here hx rfl (hb hby at_96) ?_
                exact kt
              by_cases hc313 : i269 = (4 : Int32)
              · skip
                subst hc313
                obtain ⟨_, _, ⟨T314, L314, k314, n314⟩, -, X314, ⟨Lc314, hQ314, l314, y314, z314⟩, st314⟩ := Jvm.LawKit.callS X268 hx (y := M_2) hown (mvT hZ (hw _ (gw 4 rfl))) (mvT hZ (hw _ (gw 5 rfl))) (mvT hZ (hw _ (gw 6 rfl))) (mvT hZ (hw _ (gw 7 rfl))) (by decide) (backOf (W := 0) (rm1_41 l Z a0 hw [] a266 a50 h0 n0  O0 E_272 F273 S_51) hZ (hw _ (gw 7 rfl)) (hw _ (gw 6 rfl)) (by decide) (by decide)) (g := (mkF m 129 #[.val (.int p1), .val (.int p2), .val (.int p3), .val (.int i5), .val (.ref a266), .val (.int (4 : Int32)), .val (.int (413 : Int32)), .unset] [(.int (413 : Int32)), (.ref a266)])) rfl (by rw [hml]; rfl) (argsL := [(.ref a266), (.int (413 : Int32))]) (rest := []) (lenOf pd_1 rfl) rfl (by show 2 * 0 + _ ≤ _; exact Nat.le_of_eq rfl) (hb hby at_129) (fun _ _ => ⟨rfl, e268, (by decide : 0 + 0 ≤ _), (by decide : 0 + 0 ≤ _)⟩)
                dsimp only [Pt.U, Pt.locs, Pt.cells, Pt.slots] at X314 l314 y314 z314 st314 hQ314
                subst l314 y314 z314
                obtain ⟨rfl, u316, u317⟩ := hQ314
                have N314 := Fr.app N0 u316
                obtain ⟨_, _, ⟨T318, L318, k318, n318⟩, -, X318, ⟨Lc318, hQ318, l318, y318, z318⟩, st318⟩ := Jvm.LawKit.callS X314 hx (y := M_3) hown (mvT hZ (hw _ (gw 19 rfl))) (mvT hZ (hw _ (gw 20 rfl))) (mvT hZ (hw _ (gw 21 rfl))) (mvT hZ (hw _ (gw 22 rfl))) (by decide) (backOf (W := 1) (rm3_42 l Z a0 hw [] i5 a50 h0 n0  O0 S_51) hZ (hw _ (gw 22 rfl)) (hw _ (gw 21 rfl)) (by decide) (by decide)) (g := (mkF m 139 #[.val (.int p1), .val (.int p2), .val (.int p3), .val (.int i5), .val (.ref a266), .val (.int (4 : Int32)), .val (.int (413 : Int32)), .val (.ref a50)] [(.int (413 : Int32)), (.int i5), (.ref a50)])) rfl (by rw [hml]; rfl) (argsL := [(.int i5), (.int (413 : Int32))]) (rest := [(.ref a50)]) (lenOf pd_2 rfl) rfl (by show 2 * 0 + _ ≤ _; exact Nat.le_of_eq rfl) (hb hby at_139) (fun _ _ => ⟨rfl, u317, (by decide : 0 + 0 ≤ _), (by decide : 0 + 0 ≤ _)⟩)
                dsimp only [Pt.U, Pt.locs, Pt.cells, Pt.slots] at X318 l318 y318 z318 st318 hQ318
                subst l318 y318 z318
                obtain ⟨rfl, u320, u321⟩ := hQ318
                have N318 := Fr.app N314 u320
                obtain ⟨fs, hr, hrun, hended, hW, hsame⟩ := X318.leave (v := some (.int (1 : Int32))) (fun h => by rw [Bd.returns] at h; cases h)
                refine ⟨_, _, pre312 _ ?_, hrun, hended, _, _, rfl, ?_, ⟨_, rfl⟩, hW, hsame.mono (by decide) (by decide)⟩
                · show Steps p.tables e below (T268.setTop (mkF m 97 #[.val (.int p1), .val (.int p2), .val (.int p3), .val (.int i5), .val (.ref a266), .val (.int (4 : Int32)), .unset, .unset] [(.int (4 : Int32)), (.int (4 : Int32))])) _
                  refine XS.icmpNo X268.here hx rfl (hb hby at_97) rfl (teq (by decide +kernel : (4 : Int32) = (4 : Int32))).2 ?_
                  show Steps p.tables e below (T268.setTop (mkF m 100 #[.val (.int p1), .val (.int p2), .val (.int p3), .val (.int i5), .val (.ref a266), .val (.int (4 : Int32)), .unset, .unset] [])) _
                  refine XS.sipush X268.here hx rfl (hb hby at_100) ?_
                  show Steps p.tables e below (T268.setTop (mkF m 103 #[.val (.int p1), .val (.int p2), .val (.int p3), .val (.int i5), .val (.ref a266), .val (.int (4 : Int32)), .unset, .unset] [(.int (413 : Int32))])) _
                  refine XS.istore X268.here hx rfl (hb hby at_103) rfl (l' := #[.val (.int p1), .val (.int p2), .val (.int p3), .val (.int i5), .val (.ref a266), .val (.int (4 : Int32)), .val (.int (413 : Int32)), .unset]) rfl ?_
                  show Steps p.tables e below (T268.setTop (mkF m 105 #[.val (.int p1), .val (.int p2), .val (.int p3), .val (.int i5), .val (.ref a266), .val (.int (4 : Int32)), .val (.int (413 : Int32)), .unset] [])) _
                  refine XS.goto X268.here hx rfl (pc0 := 105) (pc' := 125) rfl (hb hby at_105) (by decide) (by decide) ?_
                  show Steps p.tables e below (T268.setTop (mkF m 125 #[.val (.int p1), .val (.int p2), .val (.int p3), .val (.int i5), .val (.ref a266), .val (.int (4 : Int32)), .val (.int (413 : Int32)), .unset] [])) _
                  refine XS.aload X268.here hx rfl (hb hby at_125) rfl rfl ?_
                  show Steps p.tables e below (T268.setTop (mkF m 127 #[.val (.int p1), .val (.int p2), .val (.int p3), .val (.int i5), .val (.ref a266), .val (.int (4 : Int32)), .val (.int (413 : Int32)), .unset] [(.ref a266)])) _
                  refine XS.iload X268.here hx rfl (hb hby at_127) rfl ?_
                  show Steps p.tables e below (T268.setTop (mkF m 129 #[.val (.int p1), .val (.int p2), .val (.int p3), .val (.int i5), .val (.ref a266), .val (.int (4 : Int32)), .val (.int (413 : Int32)), .unset] [(.int (413 : Int32)), (.ref a266)])) _
                  refine st314 _ ?_
                  show Steps p.tables e below (T314.setTop (mkF m 132 #[.val (.int p1), .val (.int p2), .val (.int p3), .val (.int i5), .val (.ref a266), .val (.int (4 : Int32)), .val (.int (413 : Int32)), .unset] [(.ref a50)])) _
                  refine XS.astore X314.here hx rfl (hb hby at_132) rfl rfl (l' := #[.val (.int p1), .val (.int p2), .val (.int p3), .val (.int i5), .val (.ref a266), .val (.int (4 : Int32)), .val (.int (413 : Int32)), .val (.ref a50)]) rfl ?_
                  show Steps p.tables e below (T314.setTop (mkF m 134 #[.val (.int p1), .val (.int p2), .val (.int p3), .val (.int i5), .val (.ref a266), .val (.int (4 : Int32)), .val (.int (413 : Int32)), .val (.ref a50)] [])) _
                  refine XS.aload X314.here hx rfl (hb hby at_134) rfl rfl ?_
                  show Steps p.tables e below (T314.setTop (mkF m 136 #[.val (.int p1), .val (.int p2), .val (.int p3), .val (.int i5), .val (.ref a266), .val (.int (4 : Int32)), .val (.int (413 : Int32)), .val (.ref a50)] [(.ref a50)])) _
                  refine XS.iloadN X314.here hx rfl (hb hby at_136) rfl ?_
                  show Steps p.tables e below (T314.setTop (mkF m 137 #[.val (.int p1), .val (.int p2), .val (.int p3), .val (.int i5), .val (.ref a266), .val (.int (4 : Int32)), .val (.int (413 : Int32)), .val (.ref a50)] [(.int i5), (.ref a50)])) _
                  refine XS.iload X314.here hx rfl (hb hby at_137) rfl ?_
                  show Steps p.tables e below (T314.setTop (mkF m 139 #[.val (.int p1), .val (.int p2), .val (.int p3), .val (.int i5), .val (.ref a266), .val (.int (4 : Int32)), .val (.int (413 : Int32)), .val (.ref a50)] [(.int (413 : Int32)), (.int i5), (.ref a50)])) _
                  refine st318 _ ?_
                  show Steps p.tables e below (T318.setTop (mkF m 142 #[.val (.int p1), .val (.int p2), .val (.int p3), .val (.int i5), .val (.ref a266), .val (.int (4 : Int32)), .val (.int (413 : Int32)), .val (.ref a50)] [(.ref a50), (.ref a50)])) _
                  refine Jvm.RoadKit.acmp (g := (mkF m 142 #[.val (.int p1), .val (.int p2), .val (.int p3), .val (.int i5), .val (.ref a266), .val (.int (4 : Int32)), .val (.int (413 : Int32)), .val (.ref a50)] [(.ref a50), (.ref a50)])) X318 hx rfl rfl rfl (pc0 := 142) (pc' := 145) (same := true) rfl (hb hby at_142) rfl (decide_eq_true rfl) (by decide) (by decide) ?_
                  show Steps p.tables e below (T318.setTop (mkF m 145 #[.val (.int p1), .val (.int p2), .val (.int p3), .val (.int i5), .val (.ref a266), .val (.int (4 : Int32)), .val (.int (413 : Int32)), .val (.ref a50)] [])) _
                  refine XS.iconst X318.here hx rfl (hb hby at_145) ?_
                  show Steps p.tables e below (T318.setTop (mkF m 146 #[.val (.int p1), .val (.int p2), .val (.int p3), .val (.int i5), .val (.ref a266), .val (.int (4 : Int32)), .val (.int (413 : Int32)), .val (.ref a50)] [(.int (1 : Int32))])) _
                  refine XS.goto X318.here hx rfl (pc0 := 146) (pc' := 150) rfl (hb hby at_146) (by decide) (by decide) ?_
                  show Steps p.tables e below (T318.setTop (mkF m 150 #[.val (.int p1), .val (.int p2), .val (.int p3), .val (.int i5), .val (.ref a266), .val (.int (4 : Int32)), .val (.int (413 : Int32)), .val (.ref a50)] [(.int (1 : Int32))])) _
                  exact retN X318 hx (t := .boolean) Bd.returns (by simp) (hb hby at_150) hr
                · show Q0 Z _ _ _ _ _ _ _ _ _ h0 n0 _ T318.heap _
                  rw [u321]
                  exact ⟨rfl, N318⟩
              · skip
                have pre322 : ∀ t, Steps p.tables e below (T268.setTop (mkF m 111 #[.val (.int p1), .val (.int p2), .val (.int p3), .val (.int i5), .val (.ref a266), .val (.int i269), .unset, .unset] [(.int (5 : Int32)), (.int i269)])) t → Steps p.tables e below (s₁.setTop (entryFrame m #[(.int p1), (.int p2), (.int p3)] maxLocals)) t := by
                  intro t kt
                  refine pre312 t ?_
                  show Steps p.tables e below (T268.setTop (mkF m 97 #[.val (.int p1), .val (.int p2), .val (.int p3), .val (.int i5), .val (.ref a266), .val (.int i269), .unset, .unset] [(.int (4 : Int32)), (.int i269)])) _
                  refine XS.icmpYes X268.here hx rfl (pc0 := 97) (pc' := 108) rfl (hb hby at_97) rfl (feq hc313).2 (by decide) (by decide) ?_
                  show Steps p.tables e below (T268.setTop (mkF m 108 #[.val (.int p1), .val (.int p2), .val (.int p3), .val (.int i5), .val (.ref a266), .val (.int i269), .unset, .unset] [])) _
                  refine XS.iload X268.here hx rfl (hb hby at_108) rfl ?_
                  show Steps p.tables e below (T268.setTop (mkF m 110 #[.val (.int p1), .val (.int p2), .val (.int p3), .val (.int i5), .val (.ref a266), .val (.int i269), .unset, .unset] [(.int i269)])) _
                  refine XS.iconst X268.here hx rfl (hb hby at_110) ?_
                  exact kt
                by_cases hc323 : i269 = (5 : Int32)
                · skip
                  subst hc323
                  obtain ⟨_, _, ⟨T324, L324, k324, n324⟩, -, X324, ⟨Lc324, hQ324, l324, y324, z324⟩, st324⟩ := Jvm.LawKit.callS X268 hx (y := M_2) hown (mvT hZ (hw _ (gw 4 rfl))) (mvT hZ (hw _ (gw 5 rfl))) (mvT hZ (hw _ (gw 6 rfl))) (mvT hZ (hw _ (gw 7 rfl))) (by decide) (backOf (W := 0) (rm1_43 l Z a0 hw [] a266 a16 h0 n0  O0 E_272 F273 S_17) hZ (hw _ (gw 7 rfl)) (hw _ (gw 6 rfl)) (by decide) (by decide)) (g := (mkF m 129 #[.val (.int p1), .val (.int p2), .val (.int p3), .val (.int i5), .val (.ref a266), .val (.int (5 : Int32)), .val (.int (503 : Int32)), .unset] [(.int (503 : Int32)), (.ref a266)])) rfl (by rw [hml]; rfl) (argsL := [(.ref a266), (.int (503 : Int32))]) (rest := []) (lenOf pd_1 rfl) rfl (by show 2 * 0 + _ ≤ _; exact Nat.le_of_eq rfl) (hb hby at_129) (fun _ _ => ⟨rfl, e268, (by decide : 0 + 0 ≤ _), (by decide : 0 + 0 ≤ _)⟩)
                  dsimp only [Pt.U, Pt.locs, Pt.cells, Pt.slots] at X324 l324 y324 z324 st324 hQ324
                  subst l324 y324 z324
                  obtain ⟨rfl, u326, u327⟩ := hQ324
                  have N324 := Fr.app N0 u326
                  obtain ⟨_, _, ⟨T328, L328, k328, n328⟩, -, X328, ⟨Lc328, hQ328, l328, y328, z328⟩, st328⟩ := Jvm.LawKit.callS X324 hx (y := M_3) hown (mvT hZ (hw _ (gw 19 rfl))) (mvT hZ (hw _ (gw 20 rfl))) (mvT hZ (hw _ (gw 21 rfl))) (mvT hZ (hw _ (gw 22 rfl))) (by decide) (backOf (W := 1) (rm3_44 l Z a0 hw [] i5 a16 h0 n0  O0 S_17) hZ (hw _ (gw 22 rfl)) (hw _ (gw 21 rfl)) (by decide) (by decide)) (g := (mkF m 139 #[.val (.int p1), .val (.int p2), .val (.int p3), .val (.int i5), .val (.ref a266), .val (.int (5 : Int32)), .val (.int (503 : Int32)), .val (.ref a16)] [(.int (503 : Int32)), (.int i5), (.ref a16)])) rfl (by rw [hml]; rfl) (argsL := [(.int i5), (.int (503 : Int32))]) (rest := [(.ref a16)]) (lenOf pd_2 rfl) rfl (by show 2 * 0 + _ ≤ _; exact Nat.le_of_eq rfl) (hb hby at_139) (fun _ _ => ⟨rfl, u327, (by decide : 0 + 0 ≤ _), (by decide : 0 + 0 ≤ _)⟩)
                  dsimp only [Pt.U, Pt.locs, Pt.cells, Pt.slots] at X328 l328 y328 z328 st328 hQ328
                  subst l328 y328 z328
                  obtain ⟨rfl, u330, u331⟩ := hQ328
                  have N328 := Fr.app N324 u330
                  obtain ⟨fs, hr, hrun, hended, hW, hsame⟩ := X328.leave (v := some (.int (1 : Int32))) (fun h => by rw [Bd.returns] at h; cases h)
                  refine ⟨_, _, pre322 _ ?_, hrun, hended, _, _, rfl, ?_, ⟨_, rfl⟩, hW, hsame.mono (by decide) (by decide)⟩
                  · show Steps p.tables e below (T268.setTop (mkF m 111 #[.val (.int p1), .val (.int p2), .val (.int p3), .val (.int i5), .val (.ref a266), .val (.int (5 : Int32)), .unset, .unset] [(.int (5 : Int32)), (.int (5 : Int32))])) _
                    refine XS.icmpNo X268.here hx rfl (hb hby at_111) rfl (teq (by decide +kernel : (5 : Int32) = (5 : Int32))).2 ?_
                    show Steps p.tables e below (T268.setTop (mkF m 114 #[.val (.int p1), .val (.int p2), .val (.int p3), .val (.int i5), .val (.ref a266), .val (.int (5 : Int32)), .unset, .unset] [])) _
                    refine XS.sipush X268.here hx rfl (hb hby at_114) ?_
                    show Steps p.tables e below (T268.setTop (mkF m 117 #[.val (.int p1), .val (.int p2), .val (.int p3), .val (.int i5), .val (.ref a266), .val (.int (5 : Int32)), .unset, .unset] [(.int (503 : Int32))])) _
                    refine XS.istore X268.here hx rfl (hb hby at_117) rfl (l' := #[.val (.int p1), .val (.int p2), .val (.int p3), .val (.int i5), .val (.ref a266), .val (.int (5 : Int32)), .val (.int (503 : Int32)), .unset]) rfl ?_
                    show Steps p.tables e below (T268.setTop (mkF m 119 #[.val (.int p1), .val (.int p2), .val (.int p3), .val (.int i5), .val (.ref a266), .val (.int (5 : Int32)), .val (.int (503 : Int32)), .unset] [])) _
                    refine XS.goto X268.here hx rfl (pc0 := 119) (pc' := 125) rfl (hb hby at_119) (by decide) (by decide) ?_
                    show Steps p.tables e below (T268.setTop (mkF m 125 #[.val (.int p1), .val (.int p2), .val (.int p3), .val (.int i5), .val (.ref a266), .val (.int (5 : Int32)), .val (.int (503 : Int32)), .unset] [])) _
                    refine XS.aload X268.here hx rfl (hb hby at_125) rfl rfl ?_
                    show Steps p.tables e below (T268.setTop (mkF m 127 #[.val (.int p1), .val (.int p2), .val (.int p3), .val (.int i5), .val (.ref a266), .val (.int (5 : Int32)), .val (.int (503 : Int32)), .unset] [(.ref a266)])) _
                    refine XS.iload X268.here hx rfl (hb hby at_127) rfl ?_
                    show Steps p.tables e below (T268.setTop (mkF m 129 #[.val (.int p1), .val (.int p2), .val (.int p3), .val (.int i5), .val (.ref a266), .val (.int (5 : Int32)), .val (.int (503 : Int32)), .unset] [(.int (503 : Int32)), (.ref a266)])) _
                    refine st324 _ ?_
                    show Steps p.tables e below (T324.setTop (mkF m 132 #[.val (.int p1), .val (.int p2), .val (.int p3), .val (.int i5), .val (.ref a266), .val (.int (5 : Int32)), .val (.int (503 : Int32)), .unset] [(.ref a16)])) _
                    refine XS.astore X324.here hx rfl (hb hby at_132) rfl rfl (l' := #[.val (.int p1), .val (.int p2), .val (.int p3), .val (.int i5), .val (.ref a266), .val (.int (5 : Int32)), .val (.int (503 : Int32)), .val (.ref a16)]) rfl ?_
                    show Steps p.tables e below (T324.setTop (mkF m 134 #[.val (.int p1), .val (.int p2), .val (.int p3), .val (.int i5), .val (.ref a266), .val (.int (5 : Int32)), .val (.int (503 : Int32)), .val (.ref a16)] [])) _
                    refine XS.aload X324.here hx rfl (hb hby at_134) rfl rfl ?_
                    show Steps p.tables e below (T324.setTop (mkF m 136 #[.val (.int p1), .val (.int p2), .val (.int p3), .val (.int i5), .val (.ref a266), .val (.int (5 : Int32)), .val (.int (503 : Int32)), .val (.ref a16)] [(.ref a16)])) _
                    refine XS.iloadN X324.here hx rfl (hb hby at_136) rfl ?_
                    show Steps p.tables e below (T324.setTop (mkF m 137 #[.val (.int p1), .val (.int p2), .val (.int p3), .val (.int i5), .val (.ref a266), .val (.int (5 : Int32)), .val (.int (503 : Int32)), .val (.ref a16)] [(.int i5), (.ref a16)])) _
                    refine XS.iload X324.here hx rfl (hb hby at_137) rfl ?_
                    show Steps p.tables e below (T324.setTop (mkF m 139 #[.val (.int p1), .val (.int p2), .val (.int p3), .val (.int i5), .val (.ref a266), .val (.int (5 : Int32)), .val (.int (503 : Int32)), .val (.ref a16)] [(.int (503 : Int32)), (.int i5), (.ref a16)])) _
                    refine st328 _ ?_
                    show Steps p.tables e below (T328.setTop (mkF m 142 #[.val (.int p1), .val (.int p2), .val (.int p3), .val (.int i5), .val (.ref a266), .val (.int (5 : Int32)), .val (.int (503 : Int32)), .val (.ref a16)] [(.ref a16), (.ref a16)])) _
                    refine Jvm.RoadKit.acmp (g := (mkF m 142 #[.val (.int p1), .val (.int p2), .val (.int p3), .val (.int i5), .val (.ref a266), .val (.int (5 : Int32)), .val (.int (503 : Int32)), .val (.ref a16)] [(.ref a16), (.ref a16)])) X328 hx rfl rfl rfl (pc0 := 142) (pc' := 145) (same := true) rfl (hb hby at_142) rfl (decide_eq_true rfl) (by decide) (by decide) ?_
                    show Steps p.tables e below (T328.setTop (mkF m 145 #[.val (.int p1), .val (.int p2), .val (.int p3), .val (.int i5), .val (.ref a266), .val (.int (5 : Int32)), .val (.int (503 : Int32)), .val (.ref a16)] [])) _
                    refine XS.iconst X328.here hx rfl (hb hby at_145) ?_
                    show Steps p.tables e below (T328.setTop (mkF m 146 #[.val (.int p1), .val (.int p2), .val (.int p3), .val (.int i5), .val (.ref a266), .val (.int (5 : Int32)), .val (.int (503 : Int32)), .val (.ref a16)] [(.int (1 : Int32))])) _
                    refine XS.goto X328.here hx rfl (pc0 := 146) (pc' := 150) rfl (hb hby at_146) (by decide) (by decide) ?_
                    show Steps p.tables e below (T328.setTop (mkF m 150 #[.val (.int p1), .val (.int p2), .val (.int p3), .val (.int i5), .val (.ref a266), .val (.int (5 : Int32)), .val (.int (503 : Int32)), .val (.ref a16)] [(.int (1 : Int32))])) _
                    exact retN X328 hx (t := .boolean) Bd.returns (by simp) (hb hby at_150) hr
                  · show Q0 Z _ _ _ _ _ _ _ _ _ h0 n0 _ T328.heap _
                    rw [u331]
                    exact ⟨rfl, N328⟩
                · skip
                  have pre333 : ∀ t, Steps p.tables e below (T268.setTop (mkF m 129 #[.val (.int p1), .val (.int p2), .val (.int p3), .val (.int i5), .val (.ref a266), .val (.int i269), .val (.int p3), .unset] [(.int p3), (.ref a266)])) t → Steps p.tables e below (s₁.setTop (entryFrame m #[(.int p1), (.int p2), (.int p3)] maxLocals)) t := by
                    intro t kt
                    refine pre322 t ?_
                    show Steps p.tables e below (T268.setTop (mkF m 111 #[.val (.int p1), .val (.int p2), .val (.int p3), .val (.int i5), .val (.ref a266), .val (.int i269), .unset, .unset] [(.int (5 : Int32)), (.int i269)])) _
                    refine XS.icmpYes X268.here hx rfl (pc0 := 111) (pc' := 122) rfl (hb hby at_111) rfl (feq hc323).2 (by decide) (by decide) ?_
                    show Steps p.tables e below (T268.setTop (mkF m 122 #[.val (.int p1), .val (.int p2), .val (.int p3), .val (.int i5), .val (.ref a266), .val (.int i269), .unset, .unset] [])) _
                    refine XS.iloadN X268.here hx rfl (hb hby at_122) rfl ?_
                    show Steps p.tables e below (T268.setTop (mkF m 123 #[.val (.int p1), .val (.int p2), .val (.int p3), .val (.int i5), .val (.ref a266), .val (.int i269), .unset, .unset] [(.int p3)])) _
                    refine XS.istore X268.here hx rfl (hb hby at_123) rfl (l' := #[.val (.int p1), .val (.int p2), .val (.int p3), .val (.int i5), .val (.ref a266), .val (.int i269), .val (.int p3), .unset]) rfl ?_
                    show Steps p.tables e below (T268.setTop (mkF m 125 #[.val (.int p1), .val (.int p2), .val (.int p3), .val (.int i5), .val (.ref a266), .val (.int i269), .val (.int p3), .unset] [])) _
                    refine XS.aload X268.here hx rfl (hb hby at_125) rfl rfl ?_
                    show Steps p.tables e below (T268.setTop (mkF m 127 #[.val (.int p1), .val (.int p2), .val (.int p3), .val (.int i5), .val (.ref a266), .val (.int i269), .val (.int p3), .unset] [(.ref a266)])) _
                    refine XS.iload X268.here hx rfl (hb hby at_127) rfl ?_
                    show Steps p.tables e below (T268.setTop (mkF m 129 #[.val (.int p1), .val (.int p2), .val (.int p3), .val (.int i5), .val (.ref a266), .val (.int i269), .val (.int p3), .unset] [(.int p3), (.ref a266)])) _
                    exact kt
                  obtain ⟨_, _, ⟨T332, L332, k332, n332⟩, -, X332, ⟨Lc332, hQ332, l332, y332, z332⟩, st332⟩ := Jvm.LawKit.callS X268 hx (y := M_2) hown (mvT hZ (hw _ (gw 4 rfl))) (mvT hZ (hw _ (gw 5 rfl))) (mvT hZ (hw _ (gw 6 rfl))) (mvT hZ (hw _ (gw 7 rfl))) (by decide) (backOf (W := 0) (rm1_45 l Z a0 hw [] a266 p3 a28 a50 a16 h0 n0  O0 E_272 F273 S_29 S_51 S_17) hZ (hw _ (gw 7 rfl)) (hw _ (gw 6 rfl)) (by decide) (by decide)) (g := (mkF m 129 #[.val (.int p1), .val (.int p2), .val (.int p3), .val (.int i5), .val (.ref a266), .val (.int i269), .val (.int p3), .unset] [(.int p3), (.ref a266)])) rfl (by rw [hml]; rfl) (argsL := [(.ref a266), (.int p3)]) (rest := []) (lenOf pd_1 rfl) rfl (by show 2 * 0 + _ ≤ _; exact Nat.le_of_eq rfl) (hb hby at_129) (fun _ _ => ⟨rfl, e268, (by decide : 0 + 0 ≤ _), (by decide : 0 + 0 ≤ _)⟩)
                  dsimp only [Pt.U, Pt.locs, Pt.cells, Pt.slots] at X332 l332 y332 z332 st332 hQ332
                  subst l332 y332 z332
                  rcases hQ332 with ⟨u334, rfl, u336, u337⟩ | ⟨u338, u339, rfl, u341, u342⟩ | ⟨u343, u344, u345, rfl, u347, u348⟩ | ⟨u349, u350, u351, u352, rfl, u354, u355⟩ | ⟨u356, u357, u358, u359, rfl, u361, u362⟩
                  · skip
                    have N332 := Fr.app N0 u336
                    have pre363 : ∀ t, Steps p.tables e below (T332.setTop (mkF m 132 #[.val (.int p1), .val (.int p2), .val (.int p3), .val (.int i5), .val (.ref a266), .val (.int i269), .val (.int p3), .unset] [(.ref a28)])) t → Steps p.tables e below (s₁.setTop (entryFrame m #[(.int p1), (.int p2), (.int p3)] maxLocals)) t := by
                      intro t kt
                      refine pre333 t ?_
                      refine st332 _ ?_
                      exact kt
                    subst u334
                    obtain ⟨_, _, ⟨T364, L364, k364, n364⟩, -, X364, ⟨Lc364, hQ364, l364, y364, z364⟩, st364⟩ := Jvm.LawKit.callS X332 hx (y := M_3) hown (mvT hZ (hw _ (gw 19 rfl))) (mvT hZ (hw _ (gw 20 rfl))) (mvT hZ (hw _ (gw 21 rfl))) (mvT hZ (hw _ (gw 22 rfl))) (by decide) (backOf (W := 1) (rm3_36 l Z a0 hw [] i5 a28 h0 n0  O0 hc137 S_29) hZ (hw _ (gw 22 rfl)) (hw _ (gw 21 rfl)) (by decide) (by decide)) (g := (mkF m 139 #[.val (.int p1), .val (.int p2), .val (.int (204 : Int32)), .val (.int i5), .val (.ref a266), .val (.int i269), .val (.int (204 : Int32)), .val (.ref a28)] [(.int (204 : Int32)), (.int i5), (.ref a28)])) rfl (by rw [hml]; rfl) (argsL := [(.int i5), (.int (204 : Int32))]) (rest := [(.ref a28)]) (lenOf pd_2 rfl) rfl (by show 2 * 0 + _ ≤ _; exact Nat.le_of_eq rfl) (hb hby at_139) (fun _ _ => ⟨rfl, u337, (by decide : 0 + 0 ≤ _), (by decide : 0 + 0 ≤ _)⟩)
                    dsimp only [Pt.U, Pt.locs, Pt.cells, Pt.slots] at X364 l364 y364 z364 st364 hQ364
                    subst l364 y364 z364
                    obtain ⟨rfl, u366, u367⟩ := hQ364
                    have N364 := Fr.app N332 u366
                    obtain ⟨fs, hr, hrun, hended, hW, hsame⟩ := X364.leave (v := some (.int (1 : Int32))) (fun h => by rw [Bd.returns] at h; cases h)
                    refine ⟨_, _, pre363 _ ?_, hrun, hended, _, _, rfl, ?_, ⟨_, rfl⟩, hW, hsame.mono (by decide) (by decide)⟩
                    · show Steps p.tables e below (T332.setTop (mkF m 132 #[.val (.int p1), .val (.int p2), .val (.int (204 : Int32)), .val (.int i5), .val (.ref a266), .val (.int i269), .val (.int (204 : Int32)), .unset] [(.ref a28)])) _
                      refine XS.astore X332.here hx rfl (hb hby at_132) rfl rfl (l' := #[.val (.int p1), .val (.int p2), .val (.int (204 : Int32)), .val (.int i5), .val (.ref a266), .val (.int i269), .val (.int (204 : Int32)), .val (.ref a28)]) rfl ?_
                      show Steps p.tables e below (T332.setTop (mkF m 134 #[.val (.int p1), .val (.int p2), .val (.int (204 : Int32)), .val (.int i5), .val (.ref a266), .val (.int i269), .val (.int (204 : Int32)), .val (.ref a28)] [])) _
                      refine XS.aload X332.here hx rfl (hb hby at_134) rfl rfl ?_
                      show Steps p.tables e below (T332.setTop (mkF m 136 #[.val (.int p1), .val (.int p2), .val (.int (204 : Int32)), .val (.int i5), .val (.ref a266), .val (.int i269), .val (.int (204 : Int32)), .val (.ref a28)] [(.ref a28)])) _
                      refine XS.iloadN X332.here hx rfl (hb hby at_136) rfl ?_
                      show Steps p.tables e below (T332.setTop (mkF m 137 #[.val (.int p1), .val (.int p2), .val (.int (204 : Int32)), .val (.int i5), .val (.ref a266), .val (.int i269), .val (.int (204 : Int32)), .val (.ref a28)] [(.int i5), (.ref a28)])) _
                      refine XS.iload X332.here hx rfl (hb hby at_137) rfl ?_
                      show Steps p.tables e below (T332.setTop (mkF m 139 #[.val (.int p1), .val (.int p2), .val (.int (204 : Int32)), .val (.int i5), .val (.ref a266), .val (.int i269), .val (.int (204 : Int32)), .val (.ref a28)] [(.int (204 : Int32)), (.int i5), (.ref a28)])) _
                      refine st364 _ ?_
                      show Steps p.tables e below (T364.setTop (mkF m 142 #[.val (.int p1), .val (.int p2), .val (.int (204 : Int32)), .val (.int i5), .val (.ref a266), .val (.int i269), .val (.int (204 : Int32)), .val (.ref a28)] [(.ref a28), (.ref a28)])) _
                      refine Jvm.RoadKit.acmp (g := (mkF m 142 #[.val (.int p1), .val (.int p2), .val (.int (204 : Int32)), .val (.int i5), .val (.ref a266), .val (.int i269), .val (.int (204 : Int32)), .val (.ref a28)] [(.ref a28), (.ref a28)])) X364 hx rfl rfl rfl (pc0 := 142) (pc' := 145) (same := true) rfl (hb hby at_142) rfl (decide_eq_true rfl) (by decide) (by decide) ?_
                      show Steps p.tables e below (T364.setTop (mkF m 145 #[.val (.int p1), .val (.int p2), .val (.int (204 : Int32)), .val (.int i5), .val (.ref a266), .val (.int i269), .val (.int (204 : Int32)), .val (.ref a28)] [])) _
                      refine XS.iconst X364.here hx rfl (hb hby at_145) ?_
                      show Steps p.tables e below (T364.setTop (mkF m 146 #[.val (.int p1), .val (.int p2), .val (.int (204 : Int32)), .val (.int i5), .val (.ref a266), .val (.int i269), .val (.int (204 : Int32)), .val (.ref a28)] [(.int (1 : Int32))])) _
                      refine XS.goto X364.here hx rfl (pc0 := 146) (pc' := 150) rfl (hb hby at_146) (by decide) (by decide) ?_
                      show Steps p.tables e below (T364.setTop (mkF m 150 #[.val (.int p1), .val (.int p2), .val (.int (204 : Int32)), .val (.int i5), .val (.ref a266), .val (.int i269), .val (.int (204 : Int32)), .val (.ref a28)] [(.int (1 : Int32))])) _
                      exact retN X364 hx (t := .boolean) Bd.returns (by simp) (hb hby at_150) hr
                    · show Q0 Z _ _ _ _ _ _ _ _ _ h0 n0 _ T364.heap _
                      rw [u367]
                      exact ⟨rfl, N364⟩
                  · skip
                    have N332 := Fr.app N0 u341
                    have pre368 : ∀ t, Steps p.tables e below (T332.setTop (mkF m 132 #[.val (.int p1), .val (.int p2), .val (.int p3), .val (.int i5), .val (.ref a266), .val (.int i269), .val (.int p3), .unset] [(.ref a28)])) t → Steps p.tables e below (s₁.setTop (entryFrame m #[(.int p1), (.int p2), (.int p3)] maxLocals)) t := by
                      intro t kt
                      refine pre333 t ?_
                      refine st332 _ ?_
                      exact kt
                    subst u338
                    obtain ⟨_, _, ⟨T369, L369, k369, n369⟩, -, X369, ⟨Lc369, hQ369, l369, y369, z369⟩, st369⟩ := Jvm.LawKit.callS X332 hx (y := M_3) hown (mvT hZ (hw _ (gw 19 rfl))) (mvT hZ (hw _ (gw 20 rfl))) (mvT hZ (hw _ (gw 21 rfl))) (mvT hZ (hw _ (gw 22 rfl))) (by decide) (backOf (W := 1) (rm3_38 l Z a0 hw [] i5 a28 h0 n0  O0 hc7 S_29) hZ (hw _ (gw 22 rfl)) (hw _ (gw 21 rfl)) (by decide) (by decide)) (g := (mkF m 139 #[.val (.int p1), .val (.int p2), .val (.int (404 : Int32)), .val (.int i5), .val (.ref a266), .val (.int i269), .val (.int (404 : Int32)), .val (.ref a28)] [(.int (404 : Int32)), (.int i5), (.ref a28)])) rfl (by rw [hml]; rfl) (argsL := [(.int i5), (.int (404 : Int32))]) (rest := [(.ref a28)]) (lenOf pd_2 rfl) rfl (by show 2 * 0 + _ ≤ _; exact Nat.le_of_eq rfl) (hb hby at_139) (fun _ _ => ⟨rfl, u342, (by decide : 0 + 0 ≤ _), (by decide : 0 + 0 ≤ _)⟩)
                    dsimp only [Pt.U, Pt.locs, Pt.cells, Pt.slots] at X369 l369 y369 z369 st369 hQ369
                    subst l369 y369 z369
                    obtain ⟨rfl, u371, u372⟩ := hQ369
                    have N369 := Fr.app N332 u371
                    obtain ⟨fs, hr, hrun, hended, hW, hsame⟩ := X369.leave (v := some (.int (1 : Int32))) (fun h => by rw [Bd.returns] at h; cases h)
                    refine ⟨_, _, pre368 _ ?_, hrun, hended, _, _, rfl, ?_, ⟨_, rfl⟩, hW, hsame.mono (by decide) (by decide)⟩
                    · show Steps p.tables e below (T332.setTop (mkF m 132 #[.val (.int p1), .val (.int p2), .val (.int (404 : Int32)), .val (.int i5), .val (.ref a266), .val (.int i269), .val (.int (404 : Int32)), .unset] [(.ref a28)])) _
                      refine XS.astore X332.here hx rfl (hb hby at_132) rfl rfl (l' := #[.val (.int p1), .val (.int p2), .val (.int (404 : Int32)), .val (.int i5), .val (.ref a266), .val (.int i269), .val (.int (404 : Int32)), .val (.ref a28)]) rfl ?_
                      show Steps p.tables e below (T332.setTop (mkF m 134 #[.val (.int p1), .val (.int p2), .val (.int (404 : Int32)), .val (.int i5), .val (.ref a266), .val (.int i269), .val (.int (404 : Int32)), .val (.ref a28)] [])) _
                      refine XS.aload X332.here hx rfl (hb hby at_134) rfl rfl ?_
                      show Steps p.tables e below (T332.setTop (mkF m 136 #[.val (.int p1), .val (.int p2), .val (.int (404 : Int32)), .val (.int i5), .val (.ref a266), .val (.int i269), .val (.int (404 : Int32)), .val (.ref a28)] [(.ref a28)])) _
                      refine XS.iloadN X332.here hx rfl (hb hby at_136) rfl ?_
                      show Steps p.tables e below (T332.setTop (mkF m 137 #[.val (.int p1), .val (.int p2), .val (.int (404 : Int32)), .val (.int i5), .val (.ref a266), .val (.int i269), .val (.int (404 : Int32)), .val (.ref a28)] [(.int i5), (.ref a28)])) _
                      refine XS.iload X332.here hx rfl (hb hby at_137) rfl ?_
                      show Steps p.tables e below (T332.setTop (mkF m 139 #[.val (.int p1), .val (.int p2), .val (.int (404 : Int32)), .val (.int i5), .val (.ref a266), .val (.int i269), .val (.int (404 : Int32)), .val (.ref a28)] [(.int (404 : Int32)), (.int i5), (.ref a28)])) _
                      refine st369 _ ?_
                      show Steps p.tables e below (T369.setTop (mkF m 142 #[.val (.int p1), .val (.int p2), .val (.int (404 : Int32)), .val (.int i5), .val (.ref a266), .val (.int i269), .val (.int (404 : Int32)), .val (.ref a28)] [(.ref a28), (.ref a28)])) _
                      refine Jvm.RoadKit.acmp (g := (mkF m 142 #[.val (.int p1), .val (.int p2), .val (.int (404 : Int32)), .val (.int i5), .val (.ref a266), .val (.int i269), .val (.int (404 : Int32)), .val (.ref a28)] [(.ref a28), (.ref a28)])) X369 hx rfl rfl rfl (pc0 := 142) (pc' := 145) (same := true) rfl (hb hby at_142) rfl (decide_eq_true rfl) (by decide) (by decide) ?_
                      show Steps p.tables e below (T369.setTop (mkF m 145 #[.val (.int p1), .val (.int p2), .val (.int (404 : Int32)), .val (.int i5), .val (.ref a266), .val (.int i269), .val (.int (404 : Int32)), .val (.ref a28)] [])) _
                      refine XS.iconst X369.here hx rfl (hb hby at_145) ?_
                      show Steps p.tables e below (T369.setTop (mkF m 146 #[.val (.int p1), .val (.int p2), .val (.int (404 : Int32)), .val (.int i5), .val (.ref a266), .val (.int i269), .val (.int (404 : Int32)), .val (.ref a28)] [(.int (1 : Int32))])) _
                      refine XS.goto X369.here hx rfl (pc0 := 146) (pc' := 150) rfl (hb hby at_146) (by decide) (by decide) ?_
                      show Steps p.tables e below (T369.setTop (mkF m 150 #[.val (.int p1), .val (.int p2), .val (.int (404 : Int32)), .val (.int i5), .val (.ref a266), .val (.int i269), .val (.int (404 : Int32)), .val (.ref a28)] [(.int (1 : Int32))])) _
                      exact retN X369 hx (t := .boolean) Bd.returns (by simp) (hb hby at_150) hr
                    · show Q0 Z _ _ _ _ _ _ _ _ _ h0 n0 _ T369.heap _
                      rw [u372]
                      exact ⟨rfl, N369⟩
                  · skip
                    have N332 := Fr.app N0 u347
                    have pre373 : ∀ t, Steps p.tables e below (T332.setTop (mkF m 132 #[.val (.int p1), .val (.int p2), .val (.int p3), .val (.int i5), .val (.ref a266), .val (.int i269), .val (.int p3), .unset] [(.ref a50)])) t → Steps p.tables e below (s₁.setTop (entryFrame m #[(.int p1), (.int p2), (.int p3)] maxLocals)) t := by
                      intro t kt
                      refine pre333 t ?_
                      refine st332 _ ?_
                      exact kt
                    subst u343
                    obtain ⟨_, _, ⟨T374, L374, k374, n374⟩, -, X374, ⟨Lc374, hQ374, l374, y374, z374⟩, st374⟩ := Jvm.LawKit.callS X332 hx (y := M_3) hown (mvT hZ (hw _ (gw 19 rfl))) (mvT hZ (hw _ (gw 20 rfl))) (mvT hZ (hw _ (gw 21 rfl))) (mvT hZ (hw _ (gw 22 rfl))) (by decide) (backOf (W := 1) (rm3_40 l Z a0 hw [] i5 a50 h0 n0  O0 S_51) hZ (hw _ (gw 22 rfl)) (hw _ (gw 21 rfl)) (by decide) (by decide)) (g := (mkF m 139 #[.val (.int p1), .val (.int p2), .val (.int (400 : Int32)), .val (.int i5), .val (.ref a266), .val (.int i269), .val (.int (400 : Int32)), .val (.ref a50)] [(.int (400 : Int32)), (.int i5), (.ref a50)])) rfl (by rw [hml]; rfl) (argsL := [(.int i5), (.int (400 : Int32))]) (rest := [(.ref a50)]) (lenOf pd_2 rfl) rfl (by show 2 * 0 + _ ≤ _; exact Nat.le_of_eq rfl) (hb hby at_139) (fun _ _ => ⟨rfl, u348, (by decide : 0 + 0 ≤ _), (by decide : 0 + 0 ≤ _)⟩)
                    dsimp only [Pt.U, Pt.locs, Pt.cells, Pt.slots] at X374 l374 y374 z374 st374 hQ374
                    subst l374 y374 z374
                    obtain ⟨rfl, u376, u377⟩ := hQ374
                    have N374 := Fr.app N332 u376
                    obtain ⟨fs, hr, hrun, hended, hW, hsame⟩ := X374.leave (v := some (.int (1 : Int32))) (fun h => by rw [Bd.returns] at h; cases h)
                    refine ⟨_, _, pre373 _ ?_, hrun, hended, _, _, rfl, ?_, ⟨_, rfl⟩, hW, hsame.mono (by decide) (by decide)⟩
                    · show Steps p.tables e below (T332.setTop (mkF m 132 #[.val (.int p1), .val (.int p2), .val (.int (400 : Int32)), .val (.int i5), .val (.ref a266), .val (.int i269), .val (.int (400 : Int32)), .unset] [(.ref a50)])) _
                      refine XS.astore X332.here hx rfl (hb hby at_132) rfl rfl (l' := #[.val (.int p1), .val (.int p2), .val (.int (400 : Int32)), .val (.int i5), .val (.ref a266), .val (.int i269), .val (.int (400 : Int32)), .val (.ref a50)]) rfl ?_
                      show Steps p.tables e below (T332.setTop (mkF m 134 #[.val (.int p1), .val (.int p2), .val (.int (400 : Int32)), .val (.int i5), .val (.ref a266), .val (.int i269), .val (.int (400 : Int32)), .val (.ref a50)] [])) _
                      refine XS.aload X332.here hx rfl (hb hby at_134) rfl rfl ?_
                      show Steps p.tables e below (T332.setTop (mkF m 136 #[.val (.int p1), .val (.int p2), .val (.int (400 : Int32)), .val (.int i5), .val (.ref a266), .val (.int i269), .val (.int (400 : Int32)), .val (.ref a50)] [(.ref a50)])) _
                      refine XS.iloadN X332.here hx rfl (hb hby at_136) rfl ?_
                      show Steps p.tables e below (T332.setTop (mkF m 137 #[.val (.int p1), .val (.int p2), .val (.int (400 : Int32)), .val (.int i5), .val (.ref a266), .val (.int i269), .val (.int (400 : Int32)), .val (.ref a50)] [(.int i5), (.ref a50)])) _
                      refine XS.iload X332.here hx rfl (hb hby at_137) rfl ?_
                      show Steps p.tables e below (T332.setTop (mkF m 139 #[.val (.int p1), .val (.int p2), .val (.int (400 : Int32)), .val (.int i5), .val (.ref a266), .val (.int i269), .val (.int (400 : Int32)), .val (.ref a50)] [(.int (400 : Int32)), (.int i5), (.ref a50)])) _
                      refine st374 _ ?_
                      show Steps p.tables e below (T374.setTop (mkF m 142 #[.val (.int p1), .val (.int p2), .val (.int (400 : Int32)), .val (.int i5), .val (.ref a266), .val (.int i269), .val (.int (400 : Int32)), .val (.ref a50)] [(.ref a50), (.ref a50)])) _
                      refine Jvm.RoadKit.acmp (g := (mkF m 142 #[.val (.int p1), .val (.int p2), .val (.int (400 : Int32)), .val (.int i5), .val (.ref a266), .val (.int i269), .val (.int (400 : Int32)), .val (.ref a50)] [(.ref a50), (.ref a50)])) X374 hx rfl rfl rfl (pc0 := 142) (pc' := 145) (same := true) rfl (hb hby at_142) rfl (decide_eq_true rfl) (by decide) (by decide) ?_
                      show Steps p.tables e below (T374.setTop (mkF m 145 #[.val (.int p1), .val (.int p2), .val (.int (400 : Int32)), .val (.int i5), .val (.ref a266), .val (.int i269), .val (.int (400 : Int32)), .val (.ref a50)] [])) _
                      refine XS.iconst X374.here hx rfl (hb hby at_145) ?_
                      show Steps p.tables e below (T374.setTop (mkF m 146 #[.val (.int p1), .val (.int p2), .val (.int (400 : Int32)), .val (.int i5), .val (.ref a266), .val (.int i269), .val (.int (400 : Int32)), .val (.ref a50)] [(.int (1 : Int32))])) _
                      refine XS.goto X374.here hx rfl (pc0 := 146) (pc' := 150) rfl (hb hby at_146) (by decide) (by decide) ?_
                      show Steps p.tables e below (T374.setTop (mkF m 150 #[.val (.int p1), .val (.int p2), .val (.int (400 : Int32)), .val (.int i5), .val (.ref a266), .val (.int i269), .val (.int (400 : Int32)), .val (.ref a50)] [(.int (1 : Int32))])) _
                      exact retN X374 hx (t := .boolean) Bd.returns (by simp) (hb hby at_150) hr
                    · show Q0 Z _ _ _ _ _ _ _ _ _ h0 n0 _ T374.heap _
                      rw [u377]
                      exact ⟨rfl, N374⟩
                  · skip
                    have N332 := Fr.app N0 u354
                    have pre378 : ∀ t, Steps p.tables e below (T332.setTop (mkF m 132 #[.val (.int p1), .val (.int p2), .val (.int p3), .val (.int i5), .val (.ref a266), .val (.int i269), .val (.int p3), .unset] [(.ref a50)])) t → Steps p.tables e below (s₁.setTop (entryFrame m #[(.int p1), (.int p2), (.int p3)] maxLocals)) t := by
                      intro t kt
                      refine pre333 t ?_
                      refine st332 _ ?_
                      exact kt
                    subst u349
                    obtain ⟨_, _, ⟨T379, L379, k379, n379⟩, -, X379, ⟨Lc379, hQ379, l379, y379, z379⟩, st379⟩ := Jvm.LawKit.callS X332 hx (y := M_3) hown (mvT hZ (hw _ (gw 19 rfl))) (mvT hZ (hw _ (gw 20 rfl))) (mvT hZ (hw _ (gw 21 rfl))) (mvT hZ (hw _ (gw 22 rfl))) (by decide) (backOf (W := 1) (rm3_42 l Z a0 hw [] i5 a50 h0 n0  O0 S_51) hZ (hw _ (gw 22 rfl)) (hw _ (gw 21 rfl)) (by decide) (by decide)) (g := (mkF m 139 #[.val (.int p1), .val (.int p2), .val (.int (413 : Int32)), .val (.int i5), .val (.ref a266), .val (.int i269), .val (.int (413 : Int32)), .val (.ref a50)] [(.int (413 : Int32)), (.int i5), (.ref a50)])) rfl (by rw [hml]; rfl) (argsL := [(.int i5), (.int (413 : Int32))]) (rest := [(.ref a50)]) (lenOf pd_2 rfl) rfl (by show 2 * 0 + _ ≤ _; exact Nat.le_of_eq rfl) (hb hby at_139) (fun _ _ => ⟨rfl, u355, (by decide : 0 + 0 ≤ _), (by decide : 0 + 0 ≤ _)⟩)
                    dsimp only [Pt.U, Pt.locs, Pt.cells, Pt.slots] at X379 l379 y379 z379 st379 hQ379
                    subst l379 y379 z379
                    obtain ⟨rfl, u381, u382⟩ := hQ379
                    have N379 := Fr.app N332 u381
                    obtain ⟨fs, hr, hrun, hended, hW, hsame⟩ := X379.leave (v := some (.int (1 : Int32))) (fun h => by rw [Bd.returns] at h; cases h)
                    refine ⟨_, _, pre378 _ ?_, hrun, hended, _, _, rfl, ?_, ⟨_, rfl⟩, hW, hsame.mono (by decide) (by decide)⟩
                    · show Steps p.tables e below (T332.setTop (mkF m 132 #[.val (.int p1), .val (.int p2), .val (.int (413 : Int32)), .val (.int i5), .val (.ref a266), .val (.int i269), .val (.int (413 : Int32)), .unset] [(.ref a50)])) _
                      refine XS.astore X332.here hx rfl (hb hby at_132) rfl rfl (l' := #[.val (.int p1), .val (.int p2), .val (.int (413 : Int32)), .val (.int i5), .val (.ref a266), .val (.int i269), .val (.int (413 : Int32)), .val (.ref a50)]) rfl ?_
                      show Steps p.tables e below (T332.setTop (mkF m 134 #[.val (.int p1), .val (.int p2), .val (.int (413 : Int32)), .val (.int i5), .val (.ref a266), .val (.int i269), .val (.int (413 : Int32)), .val (.ref a50)] [])) _
                      refine XS.aload X332.here hx rfl (hb hby at_134) rfl rfl ?_
                      show Steps p.tables e below (T332.setTop (mkF m 136 #[.val (.int p1), .val (.int p2), .val (.int (413 : Int32)), .val (.int i5), .val (.ref a266), .val (.int i269), .val (.int (413 : Int32)), .val (.ref a50)] [(.ref a50)])) _
                      refine XS.iloadN X332.here hx rfl (hb hby at_136) rfl ?_
                      show Steps p.tables e below (T332.setTop (mkF m 137 #[.val (.int p1), .val (.int p2), .val (.int (413 : Int32)), .val (.int i5), .val (.ref a266), .val (.int i269), .val (.int (413 : Int32)), .val (.ref a50)] [(.int i5), (.ref a50)])) _
                      refine XS.iload X332.here hx rfl (hb hby at_137) rfl ?_
                      show Steps p.tables e below (T332.setTop (mkF m 139 #[.val (.int p1), .val (.int p2), .val (.int (413 : Int32)), .val (.int i5), .val (.ref a266), .val (.int i269), .val (.int (413 : Int32)), .val (.ref a50)] [(.int (413 : Int32)), (.int i5), (.ref a50)])) _
                      refine st379 _ ?_
                      show Steps p.tables e below (T379.setTop (mkF m 142 #[.val (.int p1), .val (.int p2), .val (.int (413 : Int32)), .val (.int i5), .val (.ref a266), .val (.int i269), .val (.int (413 : Int32)), .val (.ref a50)] [(.ref a50), (.ref a50)])) _
                      refine Jvm.RoadKit.acmp (g := (mkF m 142 #[.val (.int p1), .val (.int p2), .val (.int (413 : Int32)), .val (.int i5), .val (.ref a266), .val (.int i269), .val (.int (413 : Int32)), .val (.ref a50)] [(.ref a50), (.ref a50)])) X379 hx rfl rfl rfl (pc0 := 142) (pc' := 145) (same := true) rfl (hb hby at_142) rfl (decide_eq_true rfl) (by decide) (by decide) ?_
                      show Steps p.tables e below (T379.setTop (mkF m 145 #[.val (.int p1), .val (.int p2), .val (.int (413 : Int32)), .val (.int i5), .val (.ref a266), .val (.int i269), .val (.int (413 : Int32)), .val (.ref a50)] [])) _
                      refine XS.iconst X379.here hx rfl (hb hby at_145) ?_
                      show Steps p.tables e below (T379.setTop (mkF m 146 #[.val (.int p1), .val (.int p2), .val (.int (413 : Int32)), .val (.int i5), .val (.ref a266), .val (.int i269), .val (.int (413 : Int32)), .val (.ref a50)] [(.int (1 : Int32))])) _
                      refine XS.goto X379.here hx rfl (pc0 := 146) (pc' := 150) rfl (hb hby at_146) (by decide) (by decide) ?_
                      show Steps p.tables e below (T379.setTop (mkF m 150 #[.val (.int p1), .val (.int p2), .val (.int (413 : Int32)), .val (.int i5), .val (.ref a266), .val (.int i269), .val (.int (413 : Int32)), .val (.ref a50)] [(.int (1 : Int32))])) _
                      exact retN X379 hx (t := .boolean) Bd.returns (by simp) (hb hby at_150) hr
                    · show Q0 Z _ _ _ _ _ _ _ _ _ h0 n0 _ T379.heap _
                      rw [u382]
                      exact ⟨rfl, N379⟩
                  · skip
                    have N332 := Fr.app N0 u361
                    have pre384 : ∀ t, Steps p.tables e below (T332.setTop (mkF m 139 #[.val (.int p1), .val (.int p2), .val (.int p3), .val (.int i5), .val (.ref a266), .val (.int i269), .val (.int p3), .val (.ref a16)] [(.int p3), (.int i5), (.ref a16)])) t → Steps p.tables e below (s₁.setTop (entryFrame m #[(.int p1), (.int p2), (.int p3)] maxLocals)) t := by
                      intro t kt
                      refine pre333 t ?_
                      refine st332 _ ?_
                      show Steps p.tables e below (T332.setTop (mkF m 132 #[.val (.int p1), .val (.int p2), .val (.int p3), .val (.int i5), .val (.ref a266), .val (.int i269), .val (.int p3), .unset] [(.ref a16)])) _
                      refine XS.astore X332.here hx rfl (hb hby at_132) rfl rfl (l' := #[.val (.int p1), .val (.int p2), .val (.int p3), .val (.int i5), .val (.ref a266), .val (.int i269), .val (.int p3), .val (.ref a16)]) rfl ?_
                      show Steps p.tables e below (T332.setTop (mkF m 134 #[.val (.int p1), .val (.int p2), .val (.int p3), .val (.int i5), .val (.ref a266), .val (.int i269), .val (.int p3), .val (.ref a16)] [])) _
                      refine XS.aload X332.here hx rfl (hb hby at_134) rfl rfl ?_
                      show Steps p.tables e below (T332.setTop (mkF m 136 #[.val (.int p1), .val (.int p2), .val (.int p3), .val (.int i5), .val (.ref a266), .val (.int i269), .val (.int p3), .val (.ref a16)] [(.ref a16)])) _
                      refine XS.iloadN X332.here hx rfl (hb hby at_136) rfl ?_
                      show Steps p.tables e below (T332.setTop (mkF m 137 #[.val (.int p1), .val (.int p2), .val (.int p3), .val (.int i5), .val (.ref a266), .val (.int i269), .val (.int p3), .val (.ref a16)] [(.int i5), (.ref a16)])) _
                      refine XS.iload X332.here hx rfl (hb hby at_137) rfl ?_
                      show Steps p.tables e below (T332.setTop (mkF m 139 #[.val (.int p1), .val (.int p2), .val (.int p3), .val (.int i5), .val (.ref a266), .val (.int i269), .val (.int p3), .val (.ref a16)] [(.int p3), (.int i5), (.ref a16)])) _
                      exact kt
                    obtain ⟨_, _, ⟨T383, L383, k383, n383⟩, -, X383, ⟨Lc383, hQ383, l383, y383, z383⟩, st383⟩ := Jvm.LawKit.callS X332 hx (y := M_3) hown (mvT hZ (hw _ (gw 19 rfl))) (mvT hZ (hw _ (gw 20 rfl))) (mvT hZ (hw _ (gw 21 rfl))) (mvT hZ (hw _ (gw 22 rfl))) (by decide) (backOf (W := 1) (rm3_46 l Z a0 hw [] i5 p3 a16 h0 n0  O0 u356 hc137 S_17 u357 u358 u359) hZ (hw _ (gw 22 rfl)) (hw _ (gw 21 rfl)) (by decide) (by decide)) (g := (mkF m 139 #[.val (.int p1), .val (.int p2), .val (.int p3), .val (.int i5), .val (.ref a266), .val (.int i269), .val (.int p3), .val (.ref a16)] [(.int p3), (.int i5), (.ref a16)])) rfl (by rw [hml]; rfl) (argsL := [(.int i5), (.int p3)]) (rest := [(.ref a16)]) (lenOf pd_2 rfl) rfl (by show 2 * 0 + _ ≤ _; exact Nat.le_of_eq rfl) (hb hby at_139) (fun _ _ => ⟨rfl, u362, (by decide : 0 + 0 ≤ _), (by decide : 0 + 0 ≤ _)⟩)
                    dsimp only [Pt.U, Pt.locs, Pt.cells, Pt.slots] at X383 l383 y383 z383 st383 hQ383
                    subst l383 y383 z383
                    rcases hQ383 with ⟨u385, rfl, u387, u388⟩ | ⟨u389, rfl, u391, u392⟩
                    · skip
                      have N383 := Fr.app N332 u387
                      have pre393 : ∀ t, Steps p.tables e below (T383.setTop (mkF m 142 #[.val (.int p1), .val (.int p2), .val (.int p3), .val (.int i5), .val (.ref a266), .val (.int i269), .val (.int p3), .val (.ref a16)] [(.ref a16), (.ref a16)])) t → Steps p.tables e below (s₁.setTop (entryFrame m #[(.int p1), (.int p2), (.int p3)] maxLocals)) t := by
                        intro t kt
                        refine pre384 t ?_
                        refine st383 _ ?_
                        exact kt
                      subst u385
                      obtain ⟨fs, hr, hrun, hended, hW, hsame⟩ := X383.leave (v := some (.int (1 : Int32))) (fun h => by rw [Bd.returns] at h; cases h)
                      refine ⟨_, _, pre393 _ ?_, hrun, hended, _, _, rfl, ?_, ⟨_, rfl⟩, hW, hsame.mono (by decide) (by decide)⟩
                      · show Steps p.tables e below (T383.setTop (mkF m 142 #[.val (.int p1), .val (.int p2), .val (.int (200 : Int32)), .val (.int i5), .val (.ref a266), .val (.int i269), .val (.int (200 : Int32)), .val (.ref a16)] [(.ref a16), (.ref a16)])) _
                        refine Jvm.RoadKit.acmp (g := (mkF m 142 #[.val (.int p1), .val (.int p2), .val (.int (200 : Int32)), .val (.int i5), .val (.ref a266), .val (.int i269), .val (.int (200 : Int32)), .val (.ref a16)] [(.ref a16), (.ref a16)])) X383 hx rfl rfl rfl (pc0 := 142) (pc' := 145) (same := true) rfl (hb hby at_142) rfl (decide_eq_true rfl) (by decide) (by decide) ?_
                        show Steps p.tables e below (T383.setTop (mkF m 145 #[.val (.int p1), .val (.int p2), .val (.int (200 : Int32)), .val (.int i5), .val (.ref a266), .val (.int i269), .val (.int (200 : Int32)), .val (.ref a16)] [])) _
                        refine XS.iconst X383.here hx rfl (hb hby at_145) ?_
                        show Steps p.tables e below (T383.setTop (mkF m 146 #[.val (.int p1), .val (.int p2), .val (.int (200 : Int32)), .val (.int i5), .val (.ref a266), .val (.int i269), .val (.int (200 : Int32)), .val (.ref a16)] [(.int (1 : Int32))])) _
                        refine XS.goto X383.here hx rfl (pc0 := 146) (pc' := 150) rfl (hb hby at_146) (by decide) (by decide) ?_
                        show Steps p.tables e below (T383.setTop (mkF m 150 #[.val (.int p1), .val (.int p2), .val (.int (200 : Int32)), .val (.int i5), .val (.ref a266), .val (.int i269), .val (.int (200 : Int32)), .val (.ref a16)] [(.int (1 : Int32))])) _
                        exact retN X383 hx (t := .boolean) Bd.returns (by simp) (hb hby at_150) hr
                      · show Q0 Z _ _ _ _ _ _ _ _ _ h0 n0 _ T383.heap _
                        rw [u388]
                        exact ⟨rfl, N383⟩
                    · skip
                      have N383 := Fr.app N332 u391
                      obtain ⟨fs, hr, hrun, hended, hW, hsame⟩ := X383.leave (v := some (.int (1 : Int32))) (fun h => by rw [Bd.returns] at h; cases h)
                      refine ⟨_, _, pre384 _ ?_, hrun, hended, _, _, rfl, ?_, ⟨_, rfl⟩, hW, hsame.mono (by decide) (by decide)⟩
                      · refine st383 _ ?_
                        show Steps p.tables e below (T383.setTop (mkF m 142 #[.val (.int p1), .val (.int p2), .val (.int p3), .val (.int i5), .val (.ref a266), .val (.int i269), .val (.int p3), .val (.ref a16)] [(.ref a16), (.ref a16)])) _
                        refine Jvm.RoadKit.acmp (g := (mkF m 142 #[.val (.int p1), .val (.int p2), .val (.int p3), .val (.int i5), .val (.ref a266), .val (.int i269), .val (.int p3), .val (.ref a16)] [(.ref a16), (.ref a16)])) X383 hx rfl rfl rfl (pc0 := 142) (pc' := 145) (same := true) rfl (hb hby at_142) rfl (decide_eq_true rfl) (by decide) (by decide) ?_
                        show Steps p.tables e below (T383.setTop (mkF m 145 #[.val (.int p1), .val (.int p2), .val (.int p3), .val (.int i5), .val (.ref a266), .val (.int i269), .val (.int p3), .val (.ref a16)] [])) _
                        refine XS.iconst X383.here hx rfl (hb hby at_145) ?_
                        show Steps p.tables e below (T383.setTop (mkF m 146 #[.val (.int p1), .val (.int p2), .val (.int p3), .val (.int i5), .val (.ref a266), .val (.int i269), .val (.int p3), .val (.ref a16)] [(.int (1 : Int32))])) _
                        refine XS.goto X383.here hx rfl (pc0 := 146) (pc' := 150) rfl (hb hby at_146) (by decide) (by decide) ?_
                        show Steps p.tables e below (T383.setTop (mkF m 150 #[.val (.int p1), .val (.int p2), .val (.int p3), .val (.int i5), .val (.ref a266), .val (.int i269), .val (.int p3), .val (.ref a16)] [(.int (1 : Int32))])) _
                        exact retN X383 hx (t := .boolean) Bd.returns (by simp) (hb hby at_150) hr
                      · show Q0 Z _ _ _ _ _ _ _ _ _ h0 n0 _ T383.heap _
                        rw [u392]
                        exact ⟨rfl, N383⟩
set_option maxRecDepth 65536 in
set_option maxHeartbeats 40000000 in
theorem comes_1 {Post : Tables → Env → Array Value → State → Outcome → State → Prop} (hpost : ∀ tb e args s v u, (limb_1_1.after args s (.returned v) u = true ∧ limb_1_2.after args s (.returned v) u = true ∧ True) → FrameEnd s (.returned v) u (Jvm.fieldLocs frame_1_writes args s ++ Jvm.arrayLocs frame_1_arrays args s ++ Jvm.staticLocs frame_1_statics s) 0 0 → Post tb e args s (.returned v) u) :
    ArmFor flags0 classFile x code maxLocals ret World_1 tables_1 room_1 Calls_1 rest_1 Pre_1 Post := by
  intro l hfl _ _ p e ha hc hk s m args below hf hA hF happ hP
  obtain ⟨hcalls, hrest, hpre⟩ := hP
  obtain ⟨-, -, -, hnamed, -, -, -, hat⟩ := (Spec.applies_iff hf).mp happ
  obtain ⟨hg, hn⟩ := and_e (Cond.before_iff.mp (show (Jvm.Cond.and given_1 narrow_1).before args s = true from hpre))
  obtain ⟨h1, hr0⟩ := and_e hg
  obtain ⟨ha0, hr1⟩ := and_e hr0
  obtain ⟨ha1, hr2⟩ := and_e hr1
  obtain ⟨w0, w1, w2, rfl⟩ : ∃ w0 w1 w2 : Value, args = #[w0, w1, w2] := by
    have hs : args.size = 3 := by simpa [Cond.value, given_1] using h1
    obtain ⟨L⟩ := args
    match L, hs with
    | [w0, w1, w2], _ => exact ⟨w0, w1, w2, rfl⟩
  have hwt := fun d (hd : d ∈ tables_1) => atoms_spec (ws := Jvm.Cond.code x code maxLocals ret :: tables_1) hat d (List.mem_cons_of_mem _ hd)
  have hw : ∀ d ∈ own_ws, d.before _ s = true := hwt
  have hfit : Fit s := fun {y c} hc i hi => by
    obtain ⟨ha, rfl⟩ := Array.getElem?_eq_some_iff.mp hc
    have q := List.all_eq_true.mp ((Array.all_eq_true_iff_forall_mem.mp hF) _ (Array.getElem_mem ha)) i (List.mem_range.mpr hi)
    simpa [Array.getElem?_eq_getElem hi] using q
  obtain ⟨i0, ei0⟩ := is_v ha0
  obtain rfl : w0 = (.int i0) := Option.some.inj ei0
  obtain ⟨i1, ei1⟩ := is_v ha1
  obtain rfl : w1 = (.int i1) := Option.some.inj ei1
  obtain ⟨i2, ei2⟩ := is_v hr2
  obtain rfl : w2 = (.int i2) := Option.some.inj ei2
  obtain ⟨c1, c2⟩ := and_e hn
  obtain ⟨c3, c4⟩ := and_e c2
  obtain ⟨c5, c6⟩ := and_e c4
  obtain ⟨c7, c8⟩ := and_e c6
  obtain ⟨c9, c10⟩ := and_e c8
  obtain ⟨c11, c12⟩ := and_e c10
  obtain ⟨c13, c14⟩ := and_e c12
  obtain ⟨c15, c16⟩ := and_e c14
  obtain ⟨o1, ev_o1⟩ := exa_v c1
  have S_o1 : Sta s s.heap "com/example/ringstead/ringstead/node/History$Operation" "PUT" "Lcom/example/ringstead/ringstead/node/History$Operation;" (.ref o1) := Sta.start ev_o1 (Or.inr ⟨(hw _ (gw 2 rfl)), (hw _ (gw 3 rfl))⟩)
  have E_o1 : Exa s s.heap o1 "com/example/ringstead/ringstead/node/History$Operation" := Exa.start ev_o1 c1
  have F17 : Fld s s.heap o1 "java/lang/Enum" "ordinal" "I" (.int (0 : Int32)) := Fld.start ((fld_at ev_o1).symm.trans (own_eqI c3))
  obtain ⟨o2, ev_o2⟩ := exa_v c5
  have S_o2 : Sta s s.heap "com/example/ringstead/ringstead/node/History$Type" "FAIL" "Lcom/example/ringstead/ringstead/node/History$Type;" (.ref o2) := Sta.start ev_o2 (Or.inr ⟨(hw _ (gw 6 rfl)), (hw _ (gw 18 rfl))⟩)
  have E_o2 : Exa s s.heap o2 "com/example/ringstead/ringstead/node/History$Type" := Exa.start ev_o2 c5
  obtain ⟨o3, ev_o3⟩ := exa_v c7
  have S_o3 : Sta s s.heap "com/example/ringstead/ringstead/node/History$Operation" "GET" "Lcom/example/ringstead/ringstead/node/History$Operation;" (.ref o3) := Sta.start ev_o3 (Or.inr ⟨(hw _ (gw 2 rfl)), (hw _ (gw 25 rfl))⟩)
  have E_o3 : Exa s s.heap o3 "com/example/ringstead/ringstead/node/History$Operation" := Exa.start ev_o3 c7
  have F18 : Fld s s.heap o3 "java/lang/Enum" "ordinal" "I" (.int (1 : Int32)) := Fld.start ((fld_at ev_o3).symm.trans (own_eqI c9))
  obtain ⟨o4, ev_o4⟩ := exa_v c11
  have S_o4 : Sta s s.heap "com/example/ringstead/ringstead/node/History$Operation" "DELETE" "Lcom/example/ringstead/ringstead/node/History$Operation;" (.ref o4) := Sta.start ev_o4 (Or.inr ⟨(hw _ (gw 2 rfl)), (hw _ (gw 27 rfl))⟩)
  have E_o4 : Exa s s.heap o4 "com/example/ringstead/ringstead/node/History$Operation" := Exa.start ev_o4 c11
  have F19 : Fld s s.heap o4 "java/lang/Enum" "ordinal" "I" (.int (2 : Int32)) := Fld.start ((fld_at ev_o4).symm.trans (own_eqI c13))
  obtain ⟨o5, ev_o5⟩ := exa_v c15
  have S_o5 : Sta s s.heap "com/example/ringstead/ringstead/node/History$Type" "OK" "Lcom/example/ringstead/ringstead/node/History$Type;" (.ref o5) := Sta.start ev_o5 (Or.inr ⟨(hw _ (gw 6 rfl)), (hw _ (gw 29 rfl))⟩)
  have E_o5 : Exa s s.heap o5 "com/example/ringstead/ringstead/node/History$Type" := Exa.start ev_o5 c15
  obtain ⟨o6, ev_o6⟩ := exa_v c16
  have S_o6 : Sta s s.heap "com/example/ringstead/ringstead/node/History$Type" "INFO" "Lcom/example/ringstead/ringstead/node/History$Type;" (.ref o6) := Sta.start ev_o6 (Or.inr ⟨(hw _ (gw 6 rfl)), (hw _ (gw 32 rfl))⟩)
  have E_o6 : Exa s s.heap o6 "com/example/ringstead/ringstead/node/History$Type" := Exa.start ev_o6 c16
  obtain ⟨n, o, h1, h2, h3, _, L, rfl, ⟨rfl, N⟩, hq⟩ := rm0 l s _ hw tables_1 i0 i1 i2 o1 o6 o5 o2 o3 o4 s.heap s.heap.size (Old.start s) S_o1 E_o1 F17 S_o6 S_o5 S_o2 S_o3 E_o3 F18 S_o4 E_o4 F19 p e ha hc hk s m _ below hf ((Spec.applies_iff_loose hf).mp happ).1 ⟨rfl, State.Warmed39.refl s, rfl⟩ trivial
  refine ⟨n, _, h1, h2, h3, hpost _ _ _ _ _ _ ⟨Cond.after_iff.mpr rfl, Cond.after_iff.mpr (eq_i res_at (Term.int_eval (1)) rfl), trivial⟩ ⟨hq.1, hq.2.1, (hq.2.2.sift fun y hy => Or.inr (N y hy)).mono (by decide) (by decide)⟩⟩
theorem main_1_1 : Claimed_1_1 := comes_1 fun _ _ _ _ _ _ h hF => ⟨h.1, hF⟩
theorem main_1_2 : Claimed_1_2 := comes_1 fun _ _ _ _ _ _ h hF => ⟨h.2.1, hF⟩
end Jvm.Pilot.@@N@@
namespace Jvm.Pilot.@@N@@
open Jvm Jvm.ClassFile Sem Op Lib Jvm.Free Jvm.Stand Jvm.Pilot.@@N@@.Jvm.D
/-! MADE BY PROGRAM (witnessworld.py) out of the Statement's table words and the real class files: 13 classes; the members and pool entries that the words name. The judged class is class 1, her method 2. -/
namespace start1
open Jvm.ClassFile
def u (s : String) : CpInfo := .utf8 (stringToUtf16 s)
/-- a pool by its gaps: so many unusable entries, then the entry; so many at the end -/
def gap : Nat → List CpInfo → List CpInfo
  | 0, r => r
  | n + 1, r => .unusable :: gap n r
def poolList (es : List (Nat × CpInfo)) (last : Nat) : List CpInfo := es.foldr (fun e r => gap e.1 (e.2 :: r)) (gap last [])
def pool (es : List (Nat × CpInfo)) (last : Nat) : Array CpInfo := ⟨poolList es last⟩
def fileOf (pool : Array CpInfo) (this : Nat) (attrs : Array Attribute := #[]) (ms : Array MethodInfo := #[]) (fl : Nat := 33) (sup : Nat := 0) (ifs : Array Nat := #[]) (fds : Array FieldInfo := #[]) : ClassFile where
  minorVersion := 0
  majorVersion := 65
  constantPool := pool
  accessFlags := fl
  thisClass := this
  superClass := sup
  interfaces := ifs
  fields := fds
  methods := ms
  attributes := attrs
def plain (name : String) (sup : Option ClassId) : Class where
  name := name
  kind := .ordinary
  loader := none
  accessFlags := 33
  super := sup
  interfaces := #[]
  cf := none
  fields := #[]
  methods := #[]
  instanceTypes := #[]
  staticTypes := #[]
  resolved := #[]
  callSites := []
  init := .initialized
  statics := none
  mirror := none

def pool0 : Array CpInfo := pool [(5, u "<init>"), (0, u "()V"), (1, .class_ 10), (1, u "java/lang/Object")] 113

def k0m0 : Method := { name := "<init>", desc := "()V", sig := { parameters := [], returnType := none }, accessFlags := 1, code := none }
/-- java/lang/Object -/
def k0 : Class := { plain "java/lang/Object" none with
  accessFlags := 33
  interfaces := #[]
  cf := some (fileOf pool0 8 #[] #[{ accessFlags := 1, nameIndex := 5, descriptorIndex := 6, attributes := #[] }] 33 0 #[] #[])
  fields := #[]
  methods := #[k0m0]
  instanceTypes := #[]
  staticTypes := #[]
  resolved := Array.replicate 124 none
  statics := none }

def pool1 : Array CpInfo := pool [(2, .class_ 4), (1, u "java/lang/Object"), (0, u "<init>"), (0, u "()V"), (0, .fieldref 8 9), (0, .class_ 10), (0, .nameAndType 11 12), (0, u "com/example/ringstead/ringstead/node/History$Type"), (0, u "INFO"), (0, u "Lcom/example/ringstead/ringstead/node/History$Type;"), (0, .fieldref 8 14), (0, .nameAndType 15 12), (0, u "OK"), (0, .fieldref 8 17), (0, .nameAndType 18 12), (0, u "FAIL"), (0, .integer 2147483647), (0, .fieldref 21 22), (0, .class_ 23), (0, .nameAndType 24 25), (0, u "com/example/ringstead/ringstead/node/History$Operation"), (0, u "PUT"), (0, u "Lcom/example/ringstead/ringstead/node/History$Operation;"), (0, .fieldref 21 27), (0, .nameAndType 28 25), (0, u "GET"), (0, .fieldref 21 30), (0, .nameAndType 31 25), (0, u "DELETE"), (0, .methodref 8 33), (0, .nameAndType 34 35), (0, u "of"), (0, u "(Lcom/example/ringstead/ringstead/node/History$Operation;I)Lcom/example/ringstead/ringstead/node/History$Type;"), (0, .methodref 37 38), (0, .class_ 39), (0, .nameAndType 40 41), (0, u "com/example/ringstead/ringstead/node/TypeOfPinLaw"), (0, u "expected"), (0, u "(II)Lcom/example/ringstead/ringstead/node/History$Type;"), (3, u "law"), (0, u "(III)Z")] 7

def k1m0 : Method := { name := "<init>", desc := "()V", sig := { parameters := [], returnType := none }, accessFlags := 2, code := none }
def k1c1 : Code := { maxStack := 2, maxLocals := 2, code := method_2_code, exceptionTable := #[], attributes := #[] }
def k1m1 : Method := { name := "expected", desc := "(II)Lcom/example/ringstead/ringstead/node/History$Type;", sig := { parameters := [.int, .int], returnType := some (.object "com/example/ringstead/ringstead/node/History$Type") }, accessFlags := 10, code := some k1c1 }
def k1c2 : Code := { maxStack := 3, maxLocals := 8, code := code, exceptionTable := #[], attributes := #[] }
def k1m2 : Method := { name := "law", desc := "(III)Z", sig := { parameters := [.int, .int, .int], returnType := some .boolean }, accessFlags := 9, code := some k1c2 }
/-- com/example/ringstead/ringstead/node/TypeOfPinLaw -/
def k1 : Class := { plain "com/example/ringstead/ringstead/node/TypeOfPinLaw" (some 0) with
  accessFlags := 49
  interfaces := #[]
  cf := some (fileOf pool1 37 #[] #[{ accessFlags := 2, nameIndex := 5, descriptorIndex := 6, attributes := #[] }, { accessFlags := 10, nameIndex := 40, descriptorIndex := 41, attributes := #[] }, { accessFlags := 9, nameIndex := 45, descriptorIndex := 46, attributes := #[] }] 49 2 #[] #[])
  fields := #[]
  methods := #[k1m0, k1m1, k1m2]
  instanceTypes := #[]
  staticTypes := #[]
  resolved := Array.replicate 54 none
  statics := none }

def pool2 : Array CpInfo := pool [(1, .class_ 2), (0, u "java/lang/constant/Constable"), (0, .class_ 4), (0, u "java/lang/Object")] 6

/-- java/lang/constant/Constable -/
def k2 : Class := { plain "java/lang/constant/Constable" (some 0) with
  accessFlags := 1537
  interfaces := #[]
  cf := some (fileOf pool2 1 #[] #[] 1537 3 #[] #[])
  fields := #[]
  methods := #[]
  instanceTypes := #[]
  staticTypes := #[]
  resolved := Array.replicate 11 none
  statics := none }

def pool3 : Array CpInfo := pool [(1, .class_ 2), (0, u "java/lang/Comparable"), (0, .class_ 4), (0, u "java/lang/Object")] 7

/-- java/lang/Comparable -/
def k3 : Class := { plain "java/lang/Comparable" (some 0) with
  accessFlags := 1537
  interfaces := #[]
  cf := some (fileOf pool3 1 #[] #[] 1537 3 #[] #[])
  fields := #[]
  methods := #[]
  instanceTypes := #[]
  staticTypes := #[]
  resolved := Array.replicate 12 none
  statics := none }

def pool4 : Array CpInfo := pool [(1, .class_ 2), (0, u "java/io/Serializable"), (0, .class_ 4), (0, u "java/lang/Object")] 2

/-- java/io/Serializable -/
def k4 : Class := { plain "java/io/Serializable" (some 0) with
  accessFlags := 1537
  interfaces := #[]
  cf := some (fileOf pool4 1 #[] #[] 1537 3 #[] #[])
  fields := #[]
  methods := #[]
  instanceTypes := #[]
  staticTypes := #[]
  resolved := Array.replicate 7 none
  statics := none }

def pool5 : Array CpInfo := pool [(2, .class_ 4), (1, u "java/lang/Enum"), (0, u "name"), (0, u "Ljava/lang/String;"), (0, .fieldref 2 8), (0, .nameAndType 9 10), (0, u "ordinal"), (0, u "I"), (1, .class_ 14), (1, u "java/lang/Object"), (4, u "hash"), (86, .class_ 108), (1, u "java/lang/Enum$EnumDesc"), (2, .class_ 112), (0, u "java/lang/constant/Constable"), (0, .class_ 114), (0, u "java/lang/Comparable"), (0, .class_ 116), (0, u "java/io/Serializable"), (9, u "()I")] 77

def k5c0 : Code := { maxStack := 1, maxLocals := 1, code := jdk_37_method_2_code, exceptionTable := #[], attributes := #[] }
def k5m0 : Method := { name := "ordinal", desc := "()I", sig := { parameters := [], returnType := some .int }, accessFlags := 17, code := some k5c0 }
/-- java/lang/Enum -/
def k5 : Class := { plain "java/lang/Enum" (some 0) with
  accessFlags := 1057
  interfaces := #[2, 3, 4]
  cf := some (fileOf pool5 2 #[.nestMembers #[106]] #[{ accessFlags := 17, nameIndex := 9, descriptorIndex := 126, attributes := #[] }] 1057 12 #[111, 113, 115] #[{ accessFlags := 18, nameIndex := 5, descriptorIndex := 6, attributes := #[] }, { accessFlags := 18, nameIndex := 9, descriptorIndex := 10, attributes := #[] }, { accessFlags := 2, nameIndex := 19, descriptorIndex := 10, attributes := #[] }])
  fields := #[{ name := "name", type := (.object "java/lang/String"), accessFlags := 18, slot := 0, constantValue := 0 }, { name := "ordinal", type := .int, accessFlags := 18, slot := 1, constantValue := 0 }, { name := "hash", type := .int, accessFlags := 2, slot := 2, constantValue := 0 }]
  methods := #[k5m0]
  instanceTypes := #[(.object "java/lang/String"), .int, .int]
  staticTypes := #[]
  resolved := Array.replicate 204 none
  statics := none }

def pool6 : Array CpInfo := pool [(1, .class_ 2), (0, u "com/example/ringstead/ringstead/node/History$Operation"), (2, u "PUT"), (0, u "Lcom/example/ringstead/ringstead/node/History$Operation;"), (2, u "GET"), (2, u "DELETE"), (2, u "$VALUES"), (0, u "[Lcom/example/ringstead/ringstead/node/History$Operation;"), (6, .class_ 25), (1, u "java/lang/Enum"), (43, .class_ 70), (0, u "com/example/ringstead/ringstead/node/History")] 2

/-- com/example/ringstead/ringstead/node/History$Operation -/
def k6 : Class := { plain "com/example/ringstead/ringstead/node/History$Operation" (some 5) with
  accessFlags := 16432
  interfaces := #[]
  cf := some (fileOf pool6 1 #[.nestHost 69] #[] 16432 23 #[] #[{ accessFlags := 16409, nameIndex := 5, descriptorIndex := 6, attributes := #[] }, { accessFlags := 16409, nameIndex := 9, descriptorIndex := 6, attributes := #[] }, { accessFlags := 16409, nameIndex := 12, descriptorIndex := 6, attributes := #[] }, { accessFlags := 4122, nameIndex := 15, descriptorIndex := 16, attributes := #[] }])
  fields := #[{ name := "PUT", type := (.object "com/example/ringstead/ringstead/node/History$Operation"), accessFlags := 16409, slot := 0, constantValue := 0 }, { name := "GET", type := (.object "com/example/ringstead/ringstead/node/History$Operation"), accessFlags := 16409, slot := 1, constantValue := 0 }, { name := "DELETE", type := (.object "com/example/ringstead/ringstead/node/History$Operation"), accessFlags := 16409, slot := 2, constantValue := 0 }, { name := "$VALUES", type := (.array (.object "com/example/ringstead/ringstead/node/History$Operation")), accessFlags := 4122, slot := 3, constantValue := 0 }]
  methods := #[]
  instanceTypes := #[(.object "java/lang/String"), .int, .int]
  staticTypes := #[(.object "com/example/ringstead/ringstead/node/History$Operation"), (.object "com/example/ringstead/ringstead/node/History$Operation"), (.object "com/example/ringstead/ringstead/node/History$Operation"), (.array (.object "com/example/ringstead/ringstead/node/History$Operation"))]
  resolved := Array.replicate 73 none
  statics := some 0 }

def pool7 : Array CpInfo := pool [(1, .class_ 2), (0, u "com/example/ringstead/ringstead/node/History$Type"), (0, .fieldref 1 4), (0, .nameAndType 5 6), (0, u "OK"), (0, u "Lcom/example/ringstead/ringstead/node/History$Type;"), (0, .fieldref 1 8), (0, .nameAndType 9 6), (0, u "FAIL"), (0, .fieldref 1 11), (0, .nameAndType 12 6), (0, u "INFO"), (2, u "$VALUES"), (0, u "[Lcom/example/ringstead/ringstead/node/History$Type;"), (6, .class_ 25), (1, u "java/lang/Enum"), (22, .methodref 49 50), (0, .class_ 51), (0, .nameAndType 52 53), (0, u "com/example/ringstead/ringstead/node/History$Operation"), (0, u "ordinal"), (0, u "()I"), (21, u "of"), (0, u "(Lcom/example/ringstead/ringstead/node/History$Operation;I)Lcom/example/ringstead/ringstead/node/History$Type;"), (6, .class_ 84), (0, u "com/example/ringstead/ringstead/node/History")] 3

def k7c0 : Code := { maxStack := 4, maxLocals := 4, code := prog_19_method_5_code, exceptionTable := #[], attributes := #[] }
def k7m0 : Method := { name := "of", desc := "(Lcom/example/ringstead/ringstead/node/History$Operation;I)Lcom/example/ringstead/ringstead/node/History$Type;", sig := { parameters := [(.object "com/example/ringstead/ringstead/node/History$Operation"), .int], returnType := some (.object "com/example/ringstead/ringstead/node/History$Type") }, accessFlags := 8, code := some k7c0 }
/-- com/example/ringstead/ringstead/node/History$Type -/
def k7 : Class := { plain "com/example/ringstead/ringstead/node/History$Type" (some 5) with
  accessFlags := 16432
  interfaces := #[]
  cf := some (fileOf pool7 1 #[.nestHost 83] #[{ accessFlags := 8, nameIndex := 75, descriptorIndex := 76, attributes := #[] }] 16432 23 #[] #[{ accessFlags := 16409, nameIndex := 5, descriptorIndex := 6, attributes := #[] }, { accessFlags := 16409, nameIndex := 9, descriptorIndex := 6, attributes := #[] }, { accessFlags := 16409, nameIndex := 12, descriptorIndex := 6, attributes := #[] }, { accessFlags := 4122, nameIndex := 15, descriptorIndex := 16, attributes := #[] }])
  fields := #[{ name := "OK", type := (.object "com/example/ringstead/ringstead/node/History$Type"), accessFlags := 16409, slot := 0, constantValue := 0 }, { name := "FAIL", type := (.object "com/example/ringstead/ringstead/node/History$Type"), accessFlags := 16409, slot := 1, constantValue := 0 }, { name := "INFO", type := (.object "com/example/ringstead/ringstead/node/History$Type"), accessFlags := 16409, slot := 2, constantValue := 0 }, { name := "$VALUES", type := (.array (.object "com/example/ringstead/ringstead/node/History$Type")), accessFlags := 4122, slot := 3, constantValue := 0 }]
  methods := #[k7m0]
  instanceTypes := #[(.object "java/lang/String"), .int, .int]
  staticTypes := #[(.object "com/example/ringstead/ringstead/node/History$Type"), (.object "com/example/ringstead/ringstead/node/History$Type"), (.object "com/example/ringstead/ringstead/node/History$Type"), (.array (.object "com/example/ringstead/ringstead/node/History$Type"))]
  resolved := Array.replicate 88 none
  statics := some 1 }

def pool8 : Array CpInfo := pool [(1, u "java/lang/Cloneable"), (0, .class_ 1), (0, u "java/lang/Object"), (0, .class_ 3)] 3

/-- java/lang/Cloneable -/
def k8 : Class := { plain "java/lang/Cloneable" (some 0) with
  accessFlags := 1537
  interfaces := #[]
  cf := some (fileOf pool8 2 #[] #[] 1537 4 #[] #[])
  fields := #[]
  methods := #[]
  instanceTypes := #[]
  staticTypes := #[]
  resolved := Array.replicate 8 none
  statics := none }

/-- the primitive byte -/
def k9 : Class := { plain "byte" none with kind := .primitive 'B', accessFlags := 0x411 }
/-- [B -/
def k10 : Class := { plain "[B" (some 0) with kind := .array 9 .byte, interfaces := #[8, 4], accessFlags := 1041 }

/-- the primitive int -/
def k11 : Class := { plain "int" none with kind := .primitive 'I', accessFlags := 0x411 }
/-- [I -/
def k12 : Class := { plain "[I" (some 0) with kind := .array 11 .int, interfaces := #[8, 4], accessFlags := 1041 }

def heap : Heap := #[{ cls := 6, slots := #[.ref 2, .ref 4, .ref 5, .null], vm := .statics 6 },
  { cls := 7, slots := #[.ref 6, .ref 3, .ref 7, .null], vm := .statics 7 },
  { cls := 6, slots := #[.null, .int 0, .int 0], vm := .none },
  { cls := 7, slots := #[.null, .int 0, .int 0], vm := .none },
  { cls := 6, slots := #[.null, .int 1, .int 0], vm := .none },
  { cls := 6, slots := #[.null, .int 2, .int 0], vm := .none },
  { cls := 7, slots := #[.null, .int 0, .int 0], vm := .none },
  { cls := 7, slots := #[.null, .int 0, .int 0], vm := .none }]
def classes : Array Class := #[k0, k1, k2, k3, k4, k5, k6, k7, k8, k9, k10, k11, k12]
def interned : List (Array UInt16 × Addr) := []
def slotsUsed : Nat := 26
def theMethod : MethodId := ⟨1, 2⟩
def args0 : Array Value := #[.int 1, .int 2, .int 3]
def aboutOver (below : List Frame) : State where
  vm := { classes := classes, interned := interned.toArray }
  heap := heap
  slotsUsed := slotsUsed
  threads := #[{ frames := .invoking theMethod args0 :: below }]
def below0 : List Frame := [.native { method := ⟨0, 0⟩, args := #[] }]
def about1 : State := aboutOver below0
def p0 : Program := .bare "" "" ""
def e0 : Env := launch0.env 0 0 0
theorem w_frames : about1.frames = Frame.invoking theMethod args0 :: below0 := rfl
set_option maxRecDepth 65536 in
theorem w_args : argsFit about1.vm theMethod args0 = true := by decide +kernel
set_option maxRecDepth 65536 in
theorem w_heap : heapFits about1 = true := by decide +kernel
set_option maxRecDepth 65536 in
theorem w_runnable : about1.curStatus? = some .runnable := by decide +kernel
set_option maxRecDepth 65536 in
theorem w_alone : about1.alone = true := by decide +kernel
set_option maxRecDepth 65536 in
theorem w_named : about1.methodNamed? x = some theMethod := by decide +kernel
set_option maxRecDepth 65536 in
theorem w_hears : about1.hears theMethod below0 = true := by decide +kernel
set_option maxRecDepth 65536 in
theorem w_ripe : about1.ripe theMethod args0 below0 = true := by decide +kernel
theorem w_running : about1.status = .running := rfl
set_option maxRecDepth 65536 in
theorem w_room : about1.hasRoom e0.platform room_1 = true :=
  launch0.hasRoom_least _ room_1 (by decide +kernel) (by decide +kernel) (by decide +kernel) (by decide +kernel) (by decide +kernel) (by decide +kernel)
theorem allAtoms_all (ts : List Jvm.Cond) (a : Array Jvm.Value) (st : Jvm.State) : (allAtoms ts).before a st = ts.all (fun c => c.before a st) := by
  induction ts with
  | nil => rfl
  | cons c t ih =>
    show (Jvm.Cond.and c (allAtoms t)).before a st = _
    rw [Jvm.Cond.before_and, ih, List.all_cons]
def words1 : List Jvm.Cond := Jvm.Cond.code x code maxLocals ret :: tables_1
/-- a 'code' word, met by the world's own term for the bytes: nothing is compared byte by byte -/
theorem code_word {y : MethodName} {bytes : ByteArray} {mx : Nat} {rt : Option FieldType} {a : Array Value} {s : State} {m : MethodId} {meth : Method} {c : Code} (h1 : s.methodNamed? y = some m) (h2 : s.vm.method? m = some meth) (h3 : meth.code = some c) (h4 : c.code = bytes)
    (h5 : (c.maxLocals == mx && c.exceptionTable.isEmpty && decide (c.maxStack ≤ mostOperands) && decide (meth.sig.returnType = rt) && !meth.locks && decide (parseMethodDescriptor y.desc = some meth.sig)) = true) : (Jvm.Cond.code y bytes mx rt).before a s = true := by
  simp only [Bool.and_eq_true, beq_iff_eq, Bool.not_eq_true', decide_eq_true_eq] at h5
  obtain ⟨⟨⟨⟨⟨g1, g2⟩, g3⟩, g4⟩, g5⟩, g6⟩ := h5
  simp [Cond.before, Cond.holds, Cond.value, h1, h2, h3, h4, g1, g2, g3, g4, g5, g6]
def isCode : Jvm.Cond → Bool
  | .code _ _ _ _ => true
  | _ => false
theorem all_split {L : List Jvm.Cond} {P : Jvm.Cond → Bool} (h1 : L.all (fun c => isCode c || P c) = true) (h2 : ∀ c ∈ L.filter isCode, P c = true) : L.all P = true := by
  refine List.all_eq_true.mpr fun c hc => ?_
  have h := List.all_eq_true.mp h1 c hc
  rcases Bool.eq_false_or_eq_true (isCode c) with hi | hi
  · exact h2 c (List.mem_filter.mpr ⟨hc, hi⟩)
  · simpa [hi] using h
set_option maxRecDepth 65536 in
theorem w_c0 : (Jvm.Cond.code x code maxLocals ret).before args0 about1 = true := code_word (m := ⟨1, 2⟩) (meth := k1m2) (c := k1c2) (by decide +kernel) rfl rfl rfl (by decide +kernel)
set_option maxRecDepth 65536 in
theorem w_c1 : (Jvm.Cond.code ({ cls := "com/example/ringstead/ringstead/node/History$Type", name := "of", desc := "(Lcom/example/ringstead/ringstead/node/History$Operation;I)Lcom/example/ringstead/ringstead/node/History$Type;" } : Jvm.MethodName) prog_19_method_5_code (4 : Nat) (Option.some (Jvm.ClassFile.FieldType.object "com/example/ringstead/ringstead/node/History$Type"))).before args0 about1 = true := code_word (m := ⟨7, 0⟩) (meth := k7m0) (c := k7c0) (by decide +kernel) rfl rfl rfl (by decide +kernel)
set_option maxRecDepth 65536 in
theorem w_c2 : (Jvm.Cond.code ({ cls := "java/lang/Enum", name := "ordinal", desc := "()I" } : Jvm.MethodName) jdk_37_method_2_code (1 : Nat) (Option.some Jvm.ClassFile.FieldType.int)).before args0 about1 = true := code_word (m := ⟨5, 0⟩) (meth := k5m0) (c := k5c0) (by decide +kernel) rfl rfl rfl (by decide +kernel)
set_option maxRecDepth 65536 in
theorem w_c3 : (Jvm.Cond.code ({ cls := "com/example/ringstead/ringstead/node/TypeOfPinLaw", name := "expected", desc := "(II)Lcom/example/ringstead/ringstead/node/History$Type;" } : Jvm.MethodName) method_2_code (2 : Nat) (Option.some (Jvm.ClassFile.FieldType.object "com/example/ringstead/ringstead/node/History$Type"))).before args0 about1 = true := code_word (m := ⟨1, 1⟩) (meth := k1m1) (c := k1c1) (by decide +kernel) rfl rfl rfl (by decide +kernel)
def codes1 : List Jvm.Cond := [Jvm.Cond.code x code maxLocals ret, Jvm.Cond.code ({ cls := "com/example/ringstead/ringstead/node/History$Type", name := "of", desc := "(Lcom/example/ringstead/ringstead/node/History$Operation;I)Lcom/example/ringstead/ringstead/node/History$Type;" } : Jvm.MethodName) prog_19_method_5_code (4 : Nat) (Option.some (Jvm.ClassFile.FieldType.object "com/example/ringstead/ringstead/node/History$Type")), Jvm.Cond.code ({ cls := "java/lang/Enum", name := "ordinal", desc := "()I" } : Jvm.MethodName) jdk_37_method_2_code (1 : Nat) (Option.some Jvm.ClassFile.FieldType.int), Jvm.Cond.code ({ cls := "com/example/ringstead/ringstead/node/TypeOfPinLaw", name := "expected", desc := "(II)Lcom/example/ringstead/ringstead/node/History$Type;" } : Jvm.MethodName) method_2_code (2 : Nat) (Option.some (Jvm.ClassFile.FieldType.object "com/example/ringstead/ringstead/node/History$Type"))]
set_option maxRecDepth 65536 in
theorem codes_eq : words1.filter isCode = codes1 := rfl
theorem w_codes : ∀ c ∈ words1.filter isCode, c.before args0 about1 = true := by
  rw [codes_eq]
  intro c hc
  simp only [codes1, List.mem_cons, List.not_mem_nil, or_false] at hc
  rcases hc with rfl | rfl | rfl | rfl
  · exact w_c0
  · exact w_c1
  · exact w_c2
  · exact w_c3
set_option maxRecDepth 65536 in
theorem w_t1 : (words1.take 24).all (fun c => isCode c || c.before args0 about1) = true := by decide +kernel
set_option maxRecDepth 65536 in
theorem w_t2 : (words1.drop 24).all (fun c => isCode c || c.before args0 about1) = true := by decide +kernel
theorem w_tables : (allAtoms (Jvm.Cond.code x code maxLocals ret :: tables_1)).before args0 about1 = true := by
  rw [allAtoms_all]
  show words1.all (fun c => c.before args0 about1) = true
  refine all_split ?_ w_codes
  rw [← List.take_append_drop 24 words1, List.all_append, w_t1, w_t2]
  rfl
set_option maxRecDepth 65536 in
theorem w_case : (Jvm.Cond.and given_1 narrow_1).before args0 about1 = true := by decide +kernel
theorem w_applies : (headSpec (Jvm.Cond.code x code maxLocals ret :: tables_1) room_1).applies x e0.platform about1 = true :=
  (Spec.applies_iff w_frames).mpr ⟨w_running, w_runnable, w_alone, w_named, w_hears, w_ripe, w_room, w_tables⟩
theorem atStart : AtStart classFile x code maxLocals ret World_1 tables_1 room_1 Calls_1 rest_1 Pre_1 launch0 p0 e0 about1 theMethod args0 below0 :=
  ⟨lists_1, trivial, launch0.admits_env _ _ _, launch0.least_env, fairChoices_fair.cas, fairChoices_fair.clock, w_frames, w_args, w_heap, w_applies, trivial, trivial, w_case⟩
end start1
theorem witness_1 : WitnessClaimed_1 := ⟨start1.p0, start1.e0, start1.about1, start1.theMethod, start1.args0, start1.below0, start1.atStart⟩
end Jvm.Pilot.@@N@@
