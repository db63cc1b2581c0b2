import JvmDerived
import JvmDerived.Pilot.@@N@@Statement
import JvmDerived.Pilot.@@N@@Code
set_option linter.unusedVariables false
set_option linter.unusedSimpArgs false
@@BLOCK:NumsL.lean.txt@@
namespace Jvm.RoadKit
open Sem ClassFile Op Lib Jvm.Stand Jvm.Free Jvm.LawKit
section New
variable {p : Program} {l : Launch} {e : Env} {R : Room} {s : State} {m : MethodId} {args : Array Value} {below : List Frame} {meth : Method} {c : Code} {T : State} {locs : List Loc} {cells slots : Nat}
theorem retI (X : Stand p l e R s m args below meth c T locs cells slots) (hx : p.tables.exec = Jvm.exec) {pc : Nat} {Ls : Array Slot} {z : Int32} {rest : List Value} (hret : meth.sig.returnType = some .int) (hd : decode c.code pc = .ok (.ireturn, 1)) {fs : List Frame}
    (hl : ∀ (f : JFrame) (acts : List Action), f.method = m → f.locked = none → f.entered = [] → (doReturn e (T.setTop f) acts (some (.int z))).1 = T.setFrames fs) : Steps p.tables e below (T.setTop (mkF m pc Ls (.int z :: rest))) (T.setFrames fs) := by
  have hm' : T.vm.method? m = some meth := X.method'
  have hn : narrow .int (.int z) = .int z := rfl
  show Steps p.tables e below (T.setTop { method := m, pc := pc, locals := Ls, stack := _ :: rest, locked := none }) _
  jvm_step X.here [X.here.top, hx, hd, hm', hret, hn]
  first | (intro acts; rw [hl _ acts rfl rfl rfl]) | rw [hl _ _ rfl rfl rfl]
  exact Steps.refl _
end New
end Jvm.RoadKit
namespace Jvm.Pilot.@@N@@
open Jvm Jvm.ClassFile Sem Op Lib Jvm.Free Jvm.Stand Jvm.LawKit Jvm.RoadKit Bundle Jvm.Pilot.@@N@@.Jvm.D
theorem own_eqI {args : Array Value} {s : State} {a : Term} {k : Int32} (h : (Cond.eq a (.int k)).value args s none s [] = some true) : a.eval args s none [] s = some (.int k) := by
  obtain ⟨x, y, hx, hy, k1, k2⟩ := cmp_v (Or.inl h)
  obtain rfl : Value.int k = y := Option.some.inj ((Term.int_eval k).symm.trans hy)
  obtain ⟨z, rfl⟩ : ∃ z, x = .int z := k2
  have hz : z = k := gotT (Cond.eq_ints hx hy) h
  rw [hz] at hx; exact hx
theorem own_eqR {args : Array Value} {s : State} {a b : Term} {y : Addr} (hb : b.eval args s none [] s = some (.ref y)) (h : (Cond.eq a b).value args s none s [] = some true) : a.eval args s none [] s = some (.ref y) := by
  obtain ⟨x, y', hx, hy, k1, k2⟩ := cmp_v (Or.inl h)
  obtain rfl : Value.ref y = y' := Option.some.inj (hb.symm.trans hy)
  have hr : x.isRef = true := k2.2
  have hz : x = .ref y := gotT (eq_R hx hy hr rfl) h
  rw [hz] at hx; exact hx
theorem own_z {Z : State} {n0 : Nat} {h : Heap} (O : Old Z n0 h) : n0 ≤ h.size := O.1 ▸ O.2.1
theorem own_len {args : Array Value} {s : State} {t : Term} {x : Addr} {cl : Cell} {ty : FieldType} {n : Int32} (ev : t.eval args s none [] s = some (.ref x)) (A : Arr s s.heap x cl ty) (h : (Term.length t).eval args s none [] s = some (.int n)) : cl.slots.size < 2 ^ 31 ∧ cl.slots.size.toInt32 = n := by
  have ha : s.arrayAt? x = some cl := IntBox.arrayAt_of A.1 A.2.1 A.2.2
  simpa [Term.eval, ev, ha] using h
theorem own_elem {args : Array Value} {s : State} {t : Term} {x : Addr} {cl : Cell} {ty : FieldType} {j : Int32} {v : Value} {i : Nat} (ev : t.eval args s none [] s = some (.ref x)) (A : Arr s s.heap x cl ty) (h : (Term.elem t (.int j)).eval args s none [] s = some v) (hi : j.toNatClampNeg = i) : cl.slots[i]? = some v := by
  have q := (elem_in h ev (Term.int_eval j) A.1).2
  rw [hi] at q; exact q
def own_ws : List Jvm.Cond := tables_1 ++ jdkStatics_1
theorem gw (i : Nat) {d : Jvm.Cond} (h : own_ws[i]? = some d) : d ∈ own_ws := List.mem_of_getElem? h
theorem own_wS {Z : State} {a0 : Array Value} (hw : ∀ d ∈ own_ws, d.before a0 Z = true) : ∀ a ∈ Bundle.stringAtoms, a.before a0 Z = true := fun a ha => by
  simp only [Bundle.stringAtoms, List.mem_cons, List.not_mem_nil, or_false] at ha
  rcases ha with rfl | rfl | rfl | rfl | rfl | rfl | rfl
  · exact hw _ (gw 44 rfl)
  · exact hw _ (gw 105 rfl)
  · exact hw _ (gw 60 rfl)
  · exact hw _ (gw 47 rfl)
  · exact hw _ (gw 55 rfl)
  · exact hw _ (gw 106 rfl)
  · exact hw _ (gw 107 rfl)
def own_EL : List (String × Nat) := consts_1
theorem own_EW {Z : State} {a0 : Array Value} (hw : ∀ d ∈ own_ws, d.before a0 Z = true) : EW Z a0 own_EL := (EW.cons (hw _ (gw 109 rfl)) (by decide +kernel) (EW.cons (hw _ (gw 104 rfl)) (by decide +kernel) (EW.cons (hw _ (gw 174 rfl)) (by decide +kernel) EW.nil)))
theorem own_compact {Z : State} {a0 : Array Value} (hw : ∀ d ∈ own_ws, d.before a0 Z = true) : Jvm.Lit.compactW.before a0 Z = true := hw _ (gw 187 rfl)
theorem own_held {tb : Tables} {e : Env} {args : Array Value} {s : State} (h : Calls_1 tb e args s) : ∀ p ∈ own_EL, Jvm.Lit.constHeld s p.1 p.2 := fun p hp => h.1 p hp
theorem own_safeNull {Z : State} {EL : List (String × Nat)} {vm : Vm} {h : Heap} {x : Addr} (hal : Z.vm.Alike vm) (E : Exa Z h x "java/lang/String") (F : Fld Z h x "java/lang/String" "value" "[B" .null) : Safe Z EL vm h x := fun B => by
  obtain ⟨cell, k, e1, e2, e3, -, -⟩ := E
  obtain ⟨cell', cf, kf, i, f, f1, f2, f3, f4, f5, f6, f7⟩ := F
  cases e1.symm.trans f1
  obtain ⟨p, -, u, a, -, q, -, F, rfl | rfl⟩ := B
  · cases (show h[q.sa]? = some q.sC from F.ha).symm.trans e1
    obtain ⟨cS, ⟨⟨s1, s2, s3, ⟨cv, kv, iv, s4, s4'⟩, s5, s6, s7, s8, s9, s10⟩, hfS, hcS⟩, -⟩ := F
    obtain ⟨kv', z4⟩ := ff_back (U := Wst Z vm h) hal s4
    cases f2.symm.trans z4
    cases f7.symm.trans s8
  · cases (show h[q.sd]? = some q.SA from F.hd).symm.trans e1
    obtain ⟨cS, -, -, g, -⟩ := F
    have g' : vm.findClass "[B" = some q.SA.cls := g
    rw [hal.findClass] at g'
    exact ids_ne e2 g' (by decide) rfl
theorem own_selSelf {s : State} {args args' : Array Value} {D : String} {y : MethodName} (w : (Cond.selects D y y).before args s = true) (hp : s.PrivateAt y) (hi : (Cond.instanceMethod y).before args s = true) (hy : y.cls ≠ "java/lang/invoke/MethodHandle" ∧ y.cls ≠ "java/lang/invoke/VarHandle") : (Cond.selects y.cls y y).before args' s = true := by
  obtain ⟨c2, r2, m2, q1, q2, q3, q4, kP, hkP, hkPi⟩ := Cond.selects_spec w
  have h := selects_self_of_private (args := args) (findClass_of_methodNamed q3) hkP hkPi hp hi hy
  exact h
theorem own_notFace {s : State} {args : Array Value} {D : String} {y y' : MethodName} (h : y'.cls = y.cls) (w : (Cond.selects D y' y').before args s = true) : NotFace s y := fun r0 h0 => by
  obtain ⟨c2, r2, m2, q1, q2, q3, q4, kP, hkP, hkPi⟩ := Cond.selects_spec w
  have hc := findClass_of_methodNamed h0
  have hc2 := findClass_of_methodNamed q3
  rw [h] at hc2
  have hcls : m2.cls = r0.cls := Option.some.inj (hc2.symm.trans hc)
  rw [hcls] at hkP
  exact ⟨kP, hkP, hkPi⟩
theorem own_sameSelf {s : State} {args : Array Value} {D : String} {y y' : MethodName} (h : y'.cls = y.cls) (w : (Cond.selects D y' y').before args s = true) (hi : (Cond.instanceMethod y).before args s = true) (hy : y.cls ≠ "java/lang/invoke/MethodHandle" ∧ y.cls ≠ "java/lang/invoke/VarHandle") : (Cond.sameMethod y.cls y.cls y.name y.desc).before args s = true := by
  obtain ⟨c2, r2, m2, q1, q2, q3, q4, kP, hkP, hkPi⟩ := Cond.selects_spec w
  obtain ⟨mk, methM, hnamed, -, -, -⟩ := Cond.instanceMethod_spec hi
  have hf : s.methodFound? y.cls y.name y.desc = some mk := State.methodFound?_of_named hnamed hy
  have hc := findClass_of_methodNamed hnamed
  have hc2 := findClass_of_methodNamed q3
  rw [h] at hc2
  have hcls : m2.cls = mk.cls := Option.some.inj (hc2.symm.trans hc)
  rw [hcls] at hkP
  have hn : s.methodNamed? ⟨y.cls, y.name, y.desc⟩ = some mk := hnamed
  simp only [Cond.before, Cond.holds, Cond.value, hc, hf, hn]
  simp [hkP, hkPi]
theorem d1_0 : decode prog_2_method_7_code 0 = .ok (.invokestatic 46, 3) := by decide +kernel
theorem d2_0 : decode prog_2_method_1_code 0 = .ok (.getstatic 16, 3) := by decide +kernel
abbrev C_0 : String := "com/example/stern_warden/sternwarden/model/AccessMode"
abbrev C_1 : String := "[Lcom/example/stern_warden/sternwarden/model/AccessMode;"
theorem d2_3 : decode prog_2_method_1_code 3 = .ok (.invokevirtual 20, 3) := by decide +kernel
theorem d2_6 : decode prog_2_method_1_code 6 = .ok (.checkcast 21, 3) := by decide +kernel
theorem d2_9 : decode prog_2_method_1_code 9 = .ok (.areturn, 1) := by decide +kernel
abbrev M_0 : MethodName := ⟨"com/example/stern_warden/sternwarden/model/AccessMode", "values", "()[Lcom/example/stern_warden/sternwarden/model/AccessMode;"⟩
theorem pn_0 : plainName "com/example/stern_warden/sternwarden/model/AccessMode" = true := by first | (simp [plainName, overriddenIn]; done) | decide +kernel
theorem pd_0 : parseMethodDescriptor "()[Lcom/example/stern_warden/sternwarden/model/AccessMode;" = some ⟨[], some (.array (.object "com/example/stern_warden/sternwarden/model/AccessMode"))⟩ := by decide +kernel
theorem d1_3 : decode prog_2_method_7_code 3 = .ok (.astore_n 0, 1) := by decide +kernel
theorem d1_4 : decode prog_2_method_7_code 4 = .ok (.new 50, 3) := by decide +kernel
abbrev C_2 : String := "java/lang/AbstractStringBuilder"
theorem d1_7 : decode prog_2_method_7_code 7 = .ok (.dup, 1) := by decide +kernel
theorem d1_8 : decode prog_2_method_7_code 8 = .ok (.aload_n 0, 1) := by decide +kernel
theorem d1_9 : decode prog_2_method_7_code 9 = .ok (.iconst 0, 1) := by decide +kernel
theorem d1_10 : decode prog_2_method_7_code 10 = .ok (.aaload, 1) := by decide +kernel
theorem d1_11 : decode prog_2_method_7_code 11 = .ok (.getfield 35, 3) := by decide +kernel
abbrev C_3 : String := "Ljava/lang/String;"
theorem d1_14 : decode prog_2_method_7_code 14 = .ok (.invokespecial 52, 3) := by decide +kernel
theorem d3_0 : decode jdk_67_method_3_code 0 = .ok (.aload_n 0, 1) := by decide +kernel
theorem d3_1 : decode jdk_67_method_3_code 1 = .ok (.aload_n 1, 1) := by decide +kernel
theorem d3_2 : decode jdk_67_method_3_code 2 = .ok (.invokespecial 7, 3) := by decide +kernel
theorem d4_0 : decode jdk_68_method_3_code 0 = .ok (.aload_n 0, 1) := by decide +kernel
theorem d4_1 : decode jdk_68_method_3_code 1 = .ok (.invokespecial 3, 3) := by decide +kernel
theorem d4_4 : decode jdk_68_method_3_code 4 = .ok (.aload_n 1, 1) := by decide +kernel
theorem d4_5 : decode jdk_68_method_3_code 5 = .ok (.invokevirtual 32, 3) := by decide +kernel
abbrev C_4 : String := "java/lang/String"
theorem d6_0 : decode jdk_42_method_54_code 0 = .ok (.aload_n 0, 1) := by decide +kernel
theorem d6_1 : decode jdk_42_method_54_code 1 = .ok (.getfield 9, 3) := by decide +kernel
theorem d6_4 : decode jdk_42_method_54_code 4 = .ok (.arraylength, 1) := by decide +kernel
theorem d6_5 : decode jdk_42_method_54_code 5 = .ok (.aload_n 0, 1) := by decide +kernel
theorem d6_6 : decode jdk_42_method_54_code 6 = .ok (.invokevirtual 335, 3) := by decide +kernel
theorem d7_0 : decode jdk_42_method_152_code 0 = .ok (.getstatic 38, 3) := by decide +kernel
theorem d7_3 : decode jdk_42_method_152_code 3 = .ok (.ifCond .eq 10, 3) := by decide +kernel
theorem d7_6 : decode jdk_42_method_152_code 6 = .ok (.aload_n 0, 1) := by decide +kernel
theorem d7_7 : decode jdk_42_method_152_code 7 = .ok (.getfield 15, 3) := by decide +kernel
theorem d7_10 : decode jdk_42_method_152_code 10 = .ok (.goto 4, 3) := by decide +kernel
theorem d7_14 : decode jdk_42_method_152_code 14 = .ok (.ireturn, 1) := by decide +kernel
abbrev M_1 : MethodName := ⟨"java/lang/String", "coder", "()B"⟩
theorem pn_1 : plainName "java/lang/String" = true := by first | (simp [plainName, overriddenIn]; done) | decide +kernel
theorem pd_1 : parseMethodDescriptor "()B" = some ⟨[], some .byte⟩ := by decide +kernel
theorem d6_9 : decode jdk_42_method_54_code 9 = .ok (.ishr, 1) := by decide +kernel
theorem d6_10 : decode jdk_42_method_54_code 10 = .ok (.ireturn, 1) := by decide +kernel
abbrev M_2 : MethodName := ⟨"java/lang/String", "length", "()I"⟩
theorem pd_2 : parseMethodDescriptor "()I" = some ⟨[], some .int⟩ := by decide +kernel
theorem d4_8 : decode jdk_68_method_3_code 8 = .ok (.istore_n 2, 1) := by decide +kernel
theorem d4_9 : decode jdk_68_method_3_code 9 = .ok (.iload_n 2, 1) := by decide +kernel
theorem d4_10 : decode jdk_68_method_3_code 10 = .ok (.ldc 38, 2) := by decide +kernel
theorem d4_12 : decode jdk_68_method_3_code 12 = .ok (.if_icmp .ge 10, 3) := by decide +kernel
theorem d4_15 : decode jdk_68_method_3_code 15 = .ok (.iload_n 2, 1) := by decide +kernel
theorem d4_16 : decode jdk_68_method_3_code 16 = .ok (.bipush 16, 2) := by decide +kernel
theorem d4_18 : decode jdk_68_method_3_code 18 = .ok (.iadd, 1) := by decide +kernel
theorem d4_19 : decode jdk_68_method_3_code 19 = .ok (.goto 5, 3) := by decide +kernel
theorem d4_24 : decode jdk_68_method_3_code 24 = .ok (.istore_n 3, 1) := by decide +kernel
theorem d4_25 : decode jdk_68_method_3_code 25 = .ok (.aload_n 1, 1) := by decide +kernel
theorem d4_26 : decode jdk_68_method_3_code 26 = .ok (.invokevirtual 40, 3) := by decide +kernel
theorem d4_29 : decode jdk_68_method_3_code 29 = .ok (.istore 4, 2) := by decide +kernel
theorem d4_31 : decode jdk_68_method_3_code 31 = .ok (.aload_n 0, 1) := by decide +kernel
theorem d4_32 : decode jdk_68_method_3_code 32 = .ok (.iload 4, 2) := by decide +kernel
theorem d4_34 : decode jdk_68_method_3_code 34 = .ok (.putfield 22, 3) := by decide +kernel
abbrev C_5 : String := "java/lang/StringBuilder"
theorem d4_37 : decode jdk_68_method_3_code 37 = .ok (.aload_n 0, 1) := by decide +kernel
theorem d4_38 : decode jdk_68_method_3_code 38 = .ok (.iload 4, 2) := by decide +kernel
theorem d4_40 : decode jdk_68_method_3_code 40 = .ok (.ifCond .ne 9, 3) := by decide +kernel
theorem d4_43 : decode jdk_68_method_3_code 43 = .ok (.iload_n 3, 1) := by decide +kernel
theorem d4_44 : decode jdk_68_method_3_code 44 = .ok (.newarray .byte, 2) := by decide +kernel
theorem d4_46 : decode jdk_68_method_3_code 46 = .ok (.goto 7, 3) := by decide +kernel
theorem d4_53 : decode jdk_68_method_3_code 53 = .ok (.putfield 15, 3) := by decide +kernel
theorem d4_56 : decode jdk_68_method_3_code 56 = .ok (.aload_n 0, 1) := by decide +kernel
theorem d4_57 : decode jdk_68_method_3_code 57 = .ok (.aload_n 1, 1) := by decide +kernel
theorem d4_58 : decode jdk_68_method_3_code 58 = .ok (.invokevirtual 43, 3) := by decide +kernel
theorem d8_0 : decode jdk_67_method_80_code 0 = .ok (.aload_n 0, 1) := by decide +kernel
theorem d8_1 : decode jdk_67_method_80_code 1 = .ok (.aload_n 1, 1) := by decide +kernel
theorem d8_2 : decode jdk_67_method_80_code 2 = .ok (.invokevirtual 23, 3) := by decide +kernel
theorem d9_0 : decode jdk_67_method_7_code 0 = .ok (.aload_n 0, 1) := by decide +kernel
theorem d9_1 : decode jdk_67_method_7_code 1 = .ok (.aload_n 1, 1) := by decide +kernel
theorem d9_2 : decode jdk_67_method_7_code 2 = .ok (.invokespecial 29, 3) := by decide +kernel
theorem d10_0 : decode jdk_68_method_22_code 0 = .ok (.aload_n 1, 1) := by decide +kernel
theorem d10_1 : decode jdk_68_method_22_code 1 = .ok (.ifnonnull 8, 3) := by decide +kernel
theorem d10_9 : decode jdk_68_method_22_code 9 = .ok (.aload_n 1, 1) := by decide +kernel
theorem d10_10 : decode jdk_68_method_22_code 10 = .ok (.invokevirtual 32, 3) := by decide +kernel
theorem d10_13 : decode jdk_68_method_22_code 13 = .ok (.istore_n 2, 1) := by decide +kernel
theorem d10_14 : decode jdk_68_method_22_code 14 = .ok (.aload_n 0, 1) := by decide +kernel
theorem d10_15 : decode jdk_68_method_22_code 15 = .ok (.aload_n 0, 1) := by decide +kernel
theorem d10_16 : decode jdk_68_method_22_code 16 = .ok (.getfield 79, 3) := by decide +kernel
theorem d10_19 : decode jdk_68_method_22_code 19 = .ok (.iload_n 2, 1) := by decide +kernel
theorem d10_20 : decode jdk_68_method_22_code 20 = .ok (.iadd, 1) := by decide +kernel
theorem d10_21 : decode jdk_68_method_22_code 21 = .ok (.invokevirtual 100, 3) := by decide +kernel
theorem d11_0 : decode jdk_68_method_9_code 0 = .ok (.aload_n 0, 1) := by decide +kernel
theorem d11_1 : decode jdk_68_method_9_code 1 = .ok (.getfield 15, 3) := by decide +kernel
theorem d11_4 : decode jdk_68_method_9_code 4 = .ok (.arraylength, 1) := by decide +kernel
theorem d11_5 : decode jdk_68_method_9_code 5 = .ok (.aload_n 0, 1) := by decide +kernel
theorem d11_6 : decode jdk_68_method_9_code 6 = .ok (.getfield 22, 3) := by decide +kernel
theorem d11_9 : decode jdk_68_method_9_code 9 = .ok (.ishr, 1) := by decide +kernel
theorem d11_10 : decode jdk_68_method_9_code 10 = .ok (.istore_n 2, 1) := by decide +kernel
theorem d11_11 : decode jdk_68_method_9_code 11 = .ok (.iload_n 1, 1) := by decide +kernel
theorem d11_12 : decode jdk_68_method_9_code 12 = .ok (.iload_n 2, 1) := by decide +kernel
theorem d11_13 : decode jdk_68_method_9_code 13 = .ok (.isub, 1) := by decide +kernel
theorem d11_14 : decode jdk_68_method_9_code 14 = .ok (.ifCond .le 24, 3) := by decide +kernel
theorem d11_38 : decode jdk_68_method_9_code 38 = .ok (.return_, 1) := by decide +kernel
abbrev M_3 : MethodName := ⟨"java/lang/AbstractStringBuilder", "ensureCapacityInternal", "(I)V"⟩
theorem pn_2 : plainName "java/lang/AbstractStringBuilder" = true := by first | (simp [plainName, overriddenIn]; done) | decide +kernel
theorem pd_3 : parseMethodDescriptor "(I)V" = some ⟨[.int], none⟩ := by decide +kernel
theorem d10_24 : decode jdk_68_method_22_code 24 = .ok (.aload_n 0, 1) := by decide +kernel
theorem d10_25 : decode jdk_68_method_22_code 25 = .ok (.aload_n 0, 1) := by decide +kernel
theorem d10_26 : decode jdk_68_method_22_code 26 = .ok (.getfield 79, 3) := by decide +kernel
theorem d10_29 : decode jdk_68_method_22_code 29 = .ok (.aload_n 1, 1) := by decide +kernel
theorem d10_30 : decode jdk_68_method_22_code 30 = .ok (.invokevirtual 208, 3) := by decide +kernel
theorem d12_0 : decode jdk_68_method_73_code 0 = .ok (.aload_n 0, 1) := by decide +kernel
theorem d12_1 : decode jdk_68_method_73_code 1 = .ok (.aload_n 2, 1) := by decide +kernel
theorem d12_2 : decode jdk_68_method_73_code 2 = .ok (.invokevirtual 397, 3) := by decide +kernel
theorem d13_0 : decode jdk_68_method_71_code 0 = .ok (.getstatic 18, 3) := by decide +kernel
theorem d13_3 : decode jdk_68_method_71_code 3 = .ok (.ifCond .eq 18, 3) := by decide +kernel
theorem d13_6 : decode jdk_68_method_71_code 6 = .ok (.aload_n 0, 1) := by decide +kernel
theorem d13_7 : decode jdk_68_method_71_code 7 = .ok (.getfield 22, 3) := by decide +kernel
theorem d13_10 : decode jdk_68_method_71_code 10 = .ok (.aload_n 1, 1) := by decide +kernel
theorem d13_11 : decode jdk_68_method_71_code 11 = .ok (.invokevirtual 40, 3) := by decide +kernel
theorem d13_14 : decode jdk_68_method_71_code 14 = .ok (.if_icmp .eq 7, 3) := by decide +kernel
theorem d13_21 : decode jdk_68_method_71_code 21 = .ok (.return_, 1) := by decide +kernel
abbrev M_4 : MethodName := ⟨"java/lang/AbstractStringBuilder", "inflateIfNeededFor", "(Ljava/lang/String;)V"⟩
theorem pd_4 : parseMethodDescriptor "(Ljava/lang/String;)V" = some ⟨[(.object "java/lang/String")], none⟩ := by decide +kernel
theorem d12_5 : decode jdk_68_method_73_code 5 = .ok (.aload_n 2, 1) := by decide +kernel
theorem d12_6 : decode jdk_68_method_73_code 6 = .ok (.aload_n 0, 1) := by decide +kernel
theorem d12_7 : decode jdk_68_method_73_code 7 = .ok (.getfield 15, 3) := by decide +kernel
theorem d12_10 : decode jdk_68_method_73_code 10 = .ok (.iload_n 1, 1) := by decide +kernel
theorem d12_11 : decode jdk_68_method_73_code 11 = .ok (.aload_n 0, 1) := by decide +kernel
theorem d12_12 : decode jdk_68_method_73_code 12 = .ok (.getfield 22, 3) := by decide +kernel
theorem d12_15 : decode jdk_68_method_73_code 15 = .ok (.invokevirtual 399, 3) := by decide +kernel
theorem d14_0 : decode jdk_42_method_147_code 0 = .ok (.aload_n 0, 1) := by decide +kernel
theorem d14_1 : decode jdk_42_method_147_code 1 = .ok (.invokevirtual 335, 3) := by decide +kernel
theorem d14_4 : decode jdk_42_method_147_code 4 = .ok (.iload_n 3, 1) := by decide +kernel
theorem d14_5 : decode jdk_42_method_147_code 5 = .ok (.if_icmp .ne 23, 3) := by decide +kernel
theorem d14_8 : decode jdk_42_method_147_code 8 = .ok (.aload_n 0, 1) := by decide +kernel
theorem d14_9 : decode jdk_42_method_147_code 9 = .ok (.getfield 9, 3) := by decide +kernel
theorem d14_12 : decode jdk_42_method_147_code 12 = .ok (.iconst 0, 1) := by decide +kernel
theorem d14_13 : decode jdk_42_method_147_code 13 = .ok (.aload_n 1, 1) := by decide +kernel
theorem d14_14 : decode jdk_42_method_147_code 14 = .ok (.iload_n 2, 1) := by decide +kernel
theorem d14_15 : decode jdk_42_method_147_code 15 = .ok (.iload_n 3, 1) := by decide +kernel
theorem d14_16 : decode jdk_42_method_147_code 16 = .ok (.ishl, 1) := by decide +kernel
theorem d14_17 : decode jdk_42_method_147_code 17 = .ok (.aload_n 0, 1) := by decide +kernel
theorem d14_18 : decode jdk_42_method_147_code 18 = .ok (.getfield 9, 3) := by decide +kernel
theorem d14_21 : decode jdk_42_method_147_code 21 = .ok (.arraylength, 1) := by decide +kernel
theorem d14_22 : decode jdk_42_method_147_code 22 = .ok (.invokestatic 212, 3) := by decide +kernel
theorem d14_25 : decode jdk_42_method_147_code 25 = .ok (.goto 18, 3) := by decide +kernel
theorem d14_43 : decode jdk_42_method_147_code 43 = .ok (.return_, 1) := by decide +kernel
abbrev M_5 : MethodName := ⟨"java/lang/String", "getBytes", "([BIB)V"⟩
theorem pd_5 : parseMethodDescriptor "([BIB)V" = some ⟨[(.array .byte), .int, .byte], none⟩ := by decide +kernel
theorem d12_18 : decode jdk_68_method_73_code 18 = .ok (.return_, 1) := by decide +kernel
abbrev M_6 : MethodName := ⟨"java/lang/AbstractStringBuilder", "putStringAt", "(ILjava/lang/String;)V"⟩
theorem pd_6 : parseMethodDescriptor "(ILjava/lang/String;)V" = some ⟨[.int, (.object "java/lang/String")], none⟩ := by decide +kernel
theorem d10_33 : decode jdk_68_method_22_code 33 = .ok (.aload_n 0, 1) := by decide +kernel
theorem d10_34 : decode jdk_68_method_22_code 34 = .ok (.dup, 1) := by decide +kernel
theorem d10_35 : decode jdk_68_method_22_code 35 = .ok (.getfield 79, 3) := by decide +kernel
theorem d10_38 : decode jdk_68_method_22_code 38 = .ok (.iload_n 2, 1) := by decide +kernel
theorem d10_39 : decode jdk_68_method_22_code 39 = .ok (.iadd, 1) := by decide +kernel
theorem d10_40 : decode jdk_68_method_22_code 40 = .ok (.putfield 79, 3) := by decide +kernel
theorem d10_43 : decode jdk_68_method_22_code 43 = .ok (.aload_n 0, 1) := by decide +kernel
theorem d10_44 : decode jdk_68_method_22_code 44 = .ok (.areturn, 1) := by decide +kernel
abbrev M_7 : MethodName := ⟨"java/lang/AbstractStringBuilder", "append", "(Ljava/lang/String;)Ljava/lang/AbstractStringBuilder;"⟩
theorem pd_7 : parseMethodDescriptor "(Ljava/lang/String;)Ljava/lang/AbstractStringBuilder;" = some ⟨[(.object "java/lang/String")], some (.object "java/lang/AbstractStringBuilder")⟩ := by decide +kernel
theorem d9_5 : decode jdk_67_method_7_code 5 = .ok (.pop, 1) := by decide +kernel
theorem d9_6 : decode jdk_67_method_7_code 6 = .ok (.aload_n 0, 1) := by decide +kernel
theorem d9_7 : decode jdk_67_method_7_code 7 = .ok (.areturn, 1) := by decide +kernel
abbrev M_8 : MethodName := ⟨"java/lang/StringBuilder", "append", "(Ljava/lang/String;)Ljava/lang/StringBuilder;"⟩
theorem pn_3 : plainName "java/lang/StringBuilder" = true := by first | (simp [plainName, overriddenIn]; done) | decide +kernel
theorem pd_8 : parseMethodDescriptor "(Ljava/lang/String;)Ljava/lang/StringBuilder;" = some ⟨[(.object "java/lang/String")], some (.object "java/lang/StringBuilder")⟩ := by decide +kernel
theorem d8_5 : decode jdk_67_method_80_code 5 = .ok (.areturn, 1) := by decide +kernel
abbrev M_9 : MethodName := ⟨"java/lang/StringBuilder", "append", "(Ljava/lang/String;)Ljava/lang/AbstractStringBuilder;"⟩
theorem d4_61 : decode jdk_68_method_3_code 61 = .ok (.pop, 1) := by decide +kernel
theorem d4_62 : decode jdk_68_method_3_code 62 = .ok (.return_, 1) := by decide +kernel
abbrev M_10 : MethodName := ⟨"java/lang/AbstractStringBuilder", "<init>", "(Ljava/lang/String;)V"⟩
theorem d3_5 : decode jdk_67_method_3_code 5 = .ok (.return_, 1) := by decide +kernel
abbrev M_11 : MethodName := ⟨"java/lang/StringBuilder", "<init>", "(Ljava/lang/String;)V"⟩
theorem d1_17 : decode prog_2_method_7_code 17 = .ok (.astore_n 1, 1) := by decide +kernel
theorem d1_18 : decode prog_2_method_7_code 18 = .ok (.iconst 1, 1) := by decide +kernel
theorem d1_19 : decode prog_2_method_7_code 19 = .ok (.istore_n 2, 1) := by decide +kernel
theorem d1_20 : decode prog_2_method_7_code 20 = .ok (.iload_n 2, 1) := by decide +kernel
theorem d1_21 : decode prog_2_method_7_code 21 = .ok (.aload_n 0, 1) := by decide +kernel
theorem d1_22 : decode prog_2_method_7_code 22 = .ok (.arraylength, 1) := by decide +kernel
theorem d1_23 : decode prog_2_method_7_code 23 = .ok (.if_icmp .ge 38, 3) := by decide +kernel
theorem d1_26 : decode prog_2_method_7_code 26 = .ok (.aload_n 1, 1) := by decide +kernel
theorem d1_27 : decode prog_2_method_7_code 27 = .ok (.iload_n 2, 1) := by decide +kernel
theorem d1_28 : decode prog_2_method_7_code 28 = .ok (.aload_n 0, 1) := by decide +kernel
theorem d1_29 : decode prog_2_method_7_code 29 = .ok (.arraylength, 1) := by decide +kernel
theorem d1_30 : decode prog_2_method_7_code 30 = .ok (.iconst 1, 1) := by decide +kernel
theorem d1_31 : decode prog_2_method_7_code 31 = .ok (.isub, 1) := by decide +kernel
theorem d1_32 : decode prog_2_method_7_code 32 = .ok (.if_icmp .ne 8, 3) := by decide +kernel
theorem d1_40 : decode prog_2_method_7_code 40 = .ok (.ldc 57, 2) := by decide +kernel
theorem d1_42 : decode prog_2_method_7_code 42 = .ok (.invokevirtual 59, 3) := by decide +kernel
theorem d1_45 : decode prog_2_method_7_code 45 = .ok (.aload_n 0, 1) := by decide +kernel
theorem d1_46 : decode prog_2_method_7_code 46 = .ok (.iload_n 2, 1) := by decide +kernel
theorem d1_47 : decode prog_2_method_7_code 47 = .ok (.aaload, 1) := by decide +kernel
theorem d1_48 : decode prog_2_method_7_code 48 = .ok (.getfield 35, 3) := by decide +kernel
theorem d1_51 : decode prog_2_method_7_code 51 = .ok (.invokevirtual 59, 3) := by decide +kernel
theorem d1_54 : decode prog_2_method_7_code 54 = .ok (.pop, 1) := by decide +kernel
theorem d1_55 : decode prog_2_method_7_code 55 = .ok (.iinc 2 1, 3) := by decide +kernel
theorem d1_58 : decode prog_2_method_7_code 58 = .ok (.goto (-38), 3) := by decide +kernel
theorem d1_35 : decode prog_2_method_7_code 35 = .ok (.ldc 55, 2) := by decide +kernel
theorem d1_37 : decode prog_2_method_7_code 37 = .ok (.goto 5, 3) := by decide +kernel
theorem d11_17 : decode jdk_68_method_9_code 17 = .ok (.aload_n 0, 1) := by decide +kernel
theorem d11_18 : decode jdk_68_method_9_code 18 = .ok (.aload_n 0, 1) := by decide +kernel
theorem d11_19 : decode jdk_68_method_9_code 19 = .ok (.getfield 15, 3) := by decide +kernel
theorem d11_22 : decode jdk_68_method_9_code 22 = .ok (.aload_n 0, 1) := by decide +kernel
theorem d11_23 : decode jdk_68_method_9_code 23 = .ok (.iload_n 1, 1) := by decide +kernel
theorem d11_24 : decode jdk_68_method_9_code 24 = .ok (.invokevirtual 104, 3) := by decide +kernel
theorem d15_0 : decode jdk_68_method_10_code 0 = .ok (.aload_n 0, 1) := by decide +kernel
theorem d15_1 : decode jdk_68_method_10_code 1 = .ok (.getfield 15, 3) := by decide +kernel
theorem d15_4 : decode jdk_68_method_10_code 4 = .ok (.arraylength, 1) := by decide +kernel
theorem d15_5 : decode jdk_68_method_10_code 5 = .ok (.istore_n 2, 1) := by decide +kernel
theorem d15_6 : decode jdk_68_method_10_code 6 = .ok (.iload_n 1, 1) := by decide +kernel
theorem d15_7 : decode jdk_68_method_10_code 7 = .ok (.aload_n 0, 1) := by decide +kernel
theorem d15_8 : decode jdk_68_method_10_code 8 = .ok (.getfield 22, 3) := by decide +kernel
theorem d15_11 : decode jdk_68_method_10_code 11 = .ok (.ishl, 1) := by decide +kernel
theorem d15_12 : decode jdk_68_method_10_code 12 = .ok (.istore_n 3, 1) := by decide +kernel
theorem d15_13 : decode jdk_68_method_10_code 13 = .ok (.iload_n 3, 1) := by decide +kernel
theorem d15_14 : decode jdk_68_method_10_code 14 = .ok (.iload_n 2, 1) := by decide +kernel
theorem d15_15 : decode jdk_68_method_10_code 15 = .ok (.isub, 1) := by decide +kernel
theorem d15_16 : decode jdk_68_method_10_code 16 = .ok (.istore 4, 2) := by decide +kernel
theorem d15_18 : decode jdk_68_method_10_code 18 = .ok (.iload_n 2, 1) := by decide +kernel
theorem d15_19 : decode jdk_68_method_10_code 19 = .ok (.iload 4, 2) := by decide +kernel
theorem d15_21 : decode jdk_68_method_10_code 21 = .ok (.iload_n 2, 1) := by decide +kernel
theorem d15_22 : decode jdk_68_method_10_code 22 = .ok (.iconst 2, 1) := by decide +kernel
theorem d15_23 : decode jdk_68_method_10_code 23 = .ok (.aload_n 0, 1) := by decide +kernel
theorem d15_24 : decode jdk_68_method_10_code 24 = .ok (.getfield 22, 3) := by decide +kernel
theorem d15_27 : decode jdk_68_method_10_code 27 = .ok (.ishl, 1) := by decide +kernel
theorem d15_28 : decode jdk_68_method_10_code 28 = .ok (.iadd, 1) := by decide +kernel
theorem d15_29 : decode jdk_68_method_10_code 29 = .ok (.invokestatic 114, 3) := by decide +kernel
theorem d16_0 : decode jdk_48_method_27_code 0 = .ok (.iload_n 0, 1) := by decide +kernel
theorem d16_1 : decode jdk_48_method_27_code 1 = .ok (.iload_n 1, 1) := by decide +kernel
theorem d16_2 : decode jdk_48_method_27_code 2 = .ok (.iload_n 2, 1) := by decide +kernel
theorem d16_3 : decode jdk_48_method_27_code 3 = .ok (.invokestatic 194, 3) := by decide +kernel
theorem d17_0 : decode jdk_29_method_65_code 0 = .ok (.iload_n 0, 1) := by decide +kernel
theorem d17_1 : decode jdk_29_method_65_code 1 = .ok (.iload_n 1, 1) := by decide +kernel
theorem d17_2 : decode jdk_29_method_65_code 2 = .ok (.if_icmp .lt 7, 3) := by decide +kernel
theorem d17_9 : decode jdk_29_method_65_code 9 = .ok (.iload_n 1, 1) := by decide +kernel
theorem d17_10 : decode jdk_29_method_65_code 10 = .ok (.ireturn, 1) := by decide +kernel
abbrev M_12 : MethodName := ⟨"java/lang/Math", "max", "(II)I"⟩
theorem pd_9 : parseMethodDescriptor "(II)I" = some ⟨[.int, .int], some .int⟩ := by decide +kernel
theorem d16_6 : decode jdk_48_method_27_code 6 = .ok (.iadd, 1) := by decide +kernel
theorem d16_7 : decode jdk_48_method_27_code 7 = .ok (.istore_n 3, 1) := by decide +kernel
theorem d16_8 : decode jdk_48_method_27_code 8 = .ok (.iconst 0, 1) := by decide +kernel
theorem d16_9 : decode jdk_48_method_27_code 9 = .ok (.iload_n 3, 1) := by decide +kernel
theorem d16_10 : decode jdk_48_method_27_code 10 = .ok (.if_icmp .ge 11, 3) := by decide +kernel
theorem d16_13 : decode jdk_48_method_27_code 13 = .ok (.iload_n 3, 1) := by decide +kernel
theorem d16_14 : decode jdk_48_method_27_code 14 = .ok (.ldc 200, 2) := by decide +kernel
theorem d16_16 : decode jdk_48_method_27_code 16 = .ok (.if_icmp .gt 5, 3) := by decide +kernel
theorem d16_19 : decode jdk_48_method_27_code 19 = .ok (.iload_n 3, 1) := by decide +kernel
theorem d16_20 : decode jdk_48_method_27_code 20 = .ok (.ireturn, 1) := by decide +kernel
abbrev M_13 : MethodName := ⟨"jdk/internal/util/ArraysSupport", "newLength", "(III)I"⟩
theorem pn_4 : plainName "jdk/internal/util/ArraysSupport" = true := by first | (simp [plainName, overriddenIn]; done) | decide +kernel
theorem pd_10 : parseMethodDescriptor "(III)I" = some ⟨[.int, .int, .int], some .int⟩ := by decide +kernel
theorem d15_32 : decode jdk_68_method_10_code 32 = .ok (.istore 5, 2) := by decide +kernel
theorem d15_34 : decode jdk_68_method_10_code 34 = .ok (.iload 5, 2) := by decide +kernel
theorem d15_36 : decode jdk_68_method_10_code 36 = .ok (.ldc 39, 2) := by decide +kernel
theorem d15_38 : decode jdk_68_method_10_code 38 = .ok (.if_icmp .ne 13, 3) := by decide +kernel
theorem d15_51 : decode jdk_68_method_10_code 51 = .ok (.iload 5, 2) := by decide +kernel
theorem d15_53 : decode jdk_68_method_10_code 53 = .ok (.aload_n 0, 1) := by decide +kernel
theorem d15_54 : decode jdk_68_method_10_code 54 = .ok (.getfield 22, 3) := by decide +kernel
theorem d15_57 : decode jdk_68_method_10_code 57 = .ok (.ishr, 1) := by decide +kernel
theorem d15_58 : decode jdk_68_method_10_code 58 = .ok (.ireturn, 1) := by decide +kernel
abbrev M_14 : MethodName := ⟨"java/lang/AbstractStringBuilder", "newCapacity", "(I)I"⟩
theorem pd_11 : parseMethodDescriptor "(I)I" = some ⟨[.int], some .int⟩ := by decide +kernel
theorem d11_27 : decode jdk_68_method_9_code 27 = .ok (.aload_n 0, 1) := by decide +kernel
theorem d11_28 : decode jdk_68_method_9_code 28 = .ok (.getfield 22, 3) := by decide +kernel
theorem d11_31 : decode jdk_68_method_9_code 31 = .ok (.ishl, 1) := by decide +kernel
theorem d11_32 : decode jdk_68_method_9_code 32 = .ok (.invokestatic 108, 3) := by decide +kernel
theorem d18_0 : decode jdk_65_method_121_code 0 = .ok (.iload_n 1, 1) := by decide +kernel
theorem d18_1 : decode jdk_65_method_121_code 1 = .ok (.aload_n 0, 1) := by decide +kernel
theorem d18_2 : decode jdk_65_method_121_code 2 = .ok (.arraylength, 1) := by decide +kernel
theorem d18_3 : decode jdk_65_method_121_code 3 = .ok (.if_icmp .ne 11, 3) := by decide +kernel
theorem d18_14 : decode jdk_65_method_121_code 14 = .ok (.iload_n 1, 1) := by decide +kernel
theorem d18_15 : decode jdk_65_method_121_code 15 = .ok (.newarray .byte, 2) := by decide +kernel
theorem d18_17 : decode jdk_65_method_121_code 17 = .ok (.astore_n 2, 1) := by decide +kernel
theorem d18_18 : decode jdk_65_method_121_code 18 = .ok (.aload_n 0, 1) := by decide +kernel
theorem d18_19 : decode jdk_65_method_121_code 19 = .ok (.iconst 0, 1) := by decide +kernel
theorem d18_20 : decode jdk_65_method_121_code 20 = .ok (.aload_n 2, 1) := by decide +kernel
theorem d18_21 : decode jdk_65_method_121_code 21 = .ok (.iconst 0, 1) := by decide +kernel
theorem d18_22 : decode jdk_65_method_121_code 22 = .ok (.aload_n 0, 1) := by decide +kernel
theorem d18_23 : decode jdk_65_method_121_code 23 = .ok (.arraylength, 1) := by decide +kernel
theorem d18_24 : decode jdk_65_method_121_code 24 = .ok (.iload_n 1, 1) := by decide +kernel
theorem d18_25 : decode jdk_65_method_121_code 25 = .ok (.invokestatic 304, 3) := by decide +kernel
theorem d19_0 : decode jdk_29_method_69_code 0 = .ok (.iload_n 0, 1) := by decide +kernel
theorem d19_1 : decode jdk_29_method_69_code 1 = .ok (.iload_n 1, 1) := by decide +kernel
theorem d19_2 : decode jdk_29_method_69_code 2 = .ok (.if_icmp .gt 7, 3) := by decide +kernel
theorem d19_5 : decode jdk_29_method_69_code 5 = .ok (.iload_n 0, 1) := by decide +kernel
theorem d19_6 : decode jdk_29_method_69_code 6 = .ok (.goto 4, 3) := by decide +kernel
theorem d19_10 : decode jdk_29_method_69_code 10 = .ok (.ireturn, 1) := by decide +kernel
abbrev M_15 : MethodName := ⟨"java/lang/Math", "min", "(II)I"⟩
theorem d18_28 : decode jdk_65_method_121_code 28 = .ok (.invokestatic 150, 3) := by decide +kernel
theorem d18_31 : decode jdk_65_method_121_code 31 = .ok (.aload_n 2, 1) := by decide +kernel
theorem d18_32 : decode jdk_65_method_121_code 32 = .ok (.areturn, 1) := by decide +kernel
abbrev M_16 : MethodName := ⟨"java/util/Arrays", "copyOf", "([BI)[B"⟩
theorem pn_5 : plainName "java/util/Arrays" = true := by first | (simp [plainName, overriddenIn]; done) | decide +kernel
theorem pd_12 : parseMethodDescriptor "([BI)[B" = some ⟨[(.array .byte), .int], some (.array .byte)⟩ := by decide +kernel
theorem d11_35 : decode jdk_68_method_9_code 35 = .ok (.putfield 15, 3) := by decide +kernel
theorem d1_61 : decode prog_2_method_7_code 61 = .ok (.aload_n 1, 1) := by decide +kernel
theorem d1_62 : decode prog_2_method_7_code 62 = .ok (.invokevirtual 63, 3) := by decide +kernel
theorem d20_0 : decode jdk_67_method_42_code 0 = .ok (.new 18, 3) := by decide +kernel
theorem d20_3 : decode jdk_67_method_42_code 3 = .ok (.dup, 1) := by decide +kernel
theorem d20_4 : decode jdk_67_method_42_code 4 = .ok (.aload_n 0, 1) := by decide +kernel
theorem d20_5 : decode jdk_67_method_42_code 5 = .ok (.invokespecial 137, 3) := by decide +kernel
theorem d21_0 : decode jdk_42_method_53_code 0 = .ok (.aload_n 0, 1) := by decide +kernel
theorem d21_1 : decode jdk_42_method_53_code 1 = .ok (.aload_n 1, 1) := by decide +kernel
theorem d21_2 : decode jdk_42_method_53_code 2 = .ok (.aconst_null, 1) := by decide +kernel
theorem d21_3 : decode jdk_42_method_53_code 3 = .ok (.invokespecial 489, 3) := by decide +kernel
theorem d22_0 : decode jdk_42_method_150_code 0 = .ok (.aload_n 0, 1) := by decide +kernel
theorem d22_1 : decode jdk_42_method_150_code 1 = .ok (.invokespecial 1, 3) := by decide +kernel
theorem d22_4 : decode jdk_42_method_150_code 4 = .ok (.aload_n 1, 1) := by decide +kernel
theorem d22_5 : decode jdk_42_method_150_code 5 = .ok (.invokevirtual 552, 3) := by decide +kernel
theorem d23_0 : decode jdk_68_method_64_code 0 = .ok (.aload_n 0, 1) := by decide +kernel
theorem d23_1 : decode jdk_68_method_64_code 1 = .ok (.getfield 15, 3) := by decide +kernel
theorem d23_4 : decode jdk_68_method_64_code 4 = .ok (.areturn, 1) := by decide +kernel
abbrev M_17 : MethodName := ⟨"java/lang/AbstractStringBuilder", "getValue", "()[B"⟩
theorem pd_13 : parseMethodDescriptor "()[B" = some ⟨[], some (.array .byte)⟩ := by decide +kernel
theorem d22_8 : decode jdk_42_method_150_code 8 = .ok (.astore_n 3, 1) := by decide +kernel
theorem d22_9 : decode jdk_42_method_150_code 9 = .ok (.aload_n 1, 1) := by decide +kernel
theorem d22_10 : decode jdk_42_method_150_code 10 = .ok (.invokevirtual 549, 3) := by decide +kernel
theorem d24_0 : decode jdk_67_method_93_code 0 = .ok (.aload_n 0, 1) := by decide +kernel
theorem d24_1 : decode jdk_67_method_93_code 1 = .ok (.invokespecial 343, 3) := by decide +kernel
theorem d25_0 : decode jdk_68_method_6_code 0 = .ok (.aload_n 0, 1) := by decide +kernel
theorem d25_1 : decode jdk_68_method_6_code 1 = .ok (.getfield 79, 3) := by decide +kernel
theorem d25_4 : decode jdk_68_method_6_code 4 = .ok (.ireturn, 1) := by decide +kernel
abbrev M_18 : MethodName := ⟨"java/lang/AbstractStringBuilder", "length", "()I"⟩
theorem d24_4 : decode jdk_67_method_93_code 4 = .ok (.ireturn, 1) := by decide +kernel
abbrev M_19 : MethodName := ⟨"java/lang/StringBuilder", "length", "()I"⟩
theorem d22_13 : decode jdk_42_method_150_code 13 = .ok (.istore 4, 2) := by decide +kernel
theorem d22_15 : decode jdk_42_method_150_code 15 = .ok (.aload_n 1, 1) := by decide +kernel
theorem d22_16 : decode jdk_42_method_150_code 16 = .ok (.invokevirtual 1047, 3) := by decide +kernel
theorem d26_0 : decode jdk_68_method_68_code 0 = .ok (.getstatic 18, 3) := by decide +kernel
theorem d26_3 : decode jdk_68_method_68_code 3 = .ok (.ifCond .eq 14, 3) := by decide +kernel
theorem d26_6 : decode jdk_68_method_68_code 6 = .ok (.aload_n 0, 1) := by decide +kernel
theorem d26_7 : decode jdk_68_method_68_code 7 = .ok (.getfield 22, 3) := by decide +kernel
theorem d26_10 : decode jdk_68_method_68_code 10 = .ok (.ifCond .ne 7, 3) := by decide +kernel
theorem d26_13 : decode jdk_68_method_68_code 13 = .ok (.iconst 1, 1) := by decide +kernel
theorem d26_14 : decode jdk_68_method_68_code 14 = .ok (.goto 4, 3) := by decide +kernel
theorem d26_18 : decode jdk_68_method_68_code 18 = .ok (.ireturn, 1) := by decide +kernel
abbrev M_20 : MethodName := ⟨"java/lang/AbstractStringBuilder", "isLatin1", "()Z"⟩
theorem pd_14 : parseMethodDescriptor "()Z" = some ⟨[], some .boolean⟩ := by decide +kernel
theorem d22_19 : decode jdk_42_method_150_code 19 = .ok (.ifCond .eq 22, 3) := by decide +kernel
theorem d22_22 : decode jdk_42_method_150_code 22 = .ok (.aload_n 0, 1) := by decide +kernel
theorem d22_23 : decode jdk_42_method_150_code 23 = .ok (.iconst 0, 1) := by decide +kernel
theorem d22_24 : decode jdk_42_method_150_code 24 = .ok (.putfield 15, 3) := by decide +kernel
theorem d22_27 : decode jdk_42_method_150_code 27 = .ok (.aload_n 0, 1) := by decide +kernel
theorem d22_28 : decode jdk_42_method_150_code 28 = .ok (.aload_n 3, 1) := by decide +kernel
theorem d22_29 : decode jdk_42_method_150_code 29 = .ok (.iconst 0, 1) := by decide +kernel
theorem d22_30 : decode jdk_42_method_150_code 30 = .ok (.iload 4, 2) := by decide +kernel
theorem d22_32 : decode jdk_42_method_150_code 32 = .ok (.invokestatic 54, 3) := by decide +kernel
theorem d27_0 : decode jdk_65_method_132_code 0 = .ok (.iload_n 1, 1) := by decide +kernel
theorem d27_1 : decode jdk_65_method_132_code 1 = .ok (.ifCond .ne 9, 3) := by decide +kernel
theorem d27_4 : decode jdk_65_method_132_code 4 = .ok (.iload_n 2, 1) := by decide +kernel
theorem d27_5 : decode jdk_65_method_132_code 5 = .ok (.aload_n 0, 1) := by decide +kernel
theorem d27_6 : decode jdk_65_method_132_code 6 = .ok (.arraylength, 1) := by decide +kernel
theorem d27_7 : decode jdk_65_method_132_code 7 = .ok (.if_icmp .eq 10, 3) := by decide +kernel
theorem d27_10 : decode jdk_65_method_132_code 10 = .ok (.aload_n 0, 1) := by decide +kernel
theorem d27_11 : decode jdk_65_method_132_code 11 = .ok (.iload_n 1, 1) := by decide +kernel
theorem d27_12 : decode jdk_65_method_132_code 12 = .ok (.iload_n 2, 1) := by decide +kernel
theorem d27_13 : decode jdk_65_method_132_code 13 = .ok (.invokestatic 339, 3) := by decide +kernel
theorem d28_0 : decode jdk_65_method_133_code 0 = .ok (.iload_n 1, 1) := by decide +kernel
theorem d28_1 : decode jdk_65_method_133_code 1 = .ok (.iload_n 2, 1) := by decide +kernel
theorem d28_2 : decode jdk_65_method_133_code 2 = .ok (.invokestatic 343, 3) := by decide +kernel
theorem d29_0 : decode jdk_65_method_131_code 0 = .ok (.iload_n 1, 1) := by decide +kernel
theorem d29_1 : decode jdk_65_method_131_code 1 = .ok (.iload_n 0, 1) := by decide +kernel
theorem d29_2 : decode jdk_65_method_131_code 2 = .ok (.if_icmp .ge 35, 3) := by decide +kernel
theorem d29_37 : decode jdk_65_method_131_code 37 = .ok (.return_, 1) := by decide +kernel
abbrev M_21 : MethodName := ⟨"java/util/Arrays", "checkLength", "(II)V"⟩
theorem pd_15 : parseMethodDescriptor "(II)V" = some ⟨[.int, .int], none⟩ := by decide +kernel
theorem d28_5 : decode jdk_65_method_133_code 5 = .ok (.iload_n 2, 1) := by decide +kernel
theorem d28_6 : decode jdk_65_method_133_code 6 = .ok (.iload_n 1, 1) := by decide +kernel
theorem d28_7 : decode jdk_65_method_133_code 7 = .ok (.isub, 1) := by decide +kernel
theorem d28_8 : decode jdk_65_method_133_code 8 = .ok (.istore_n 3, 1) := by decide +kernel
theorem d28_9 : decode jdk_65_method_133_code 9 = .ok (.iload_n 3, 1) := by decide +kernel
theorem d28_10 : decode jdk_65_method_133_code 10 = .ok (.newarray .byte, 2) := by decide +kernel
theorem d28_12 : decode jdk_65_method_133_code 12 = .ok (.astore 4, 2) := by decide +kernel
theorem d28_14 : decode jdk_65_method_133_code 14 = .ok (.aload_n 0, 1) := by decide +kernel
theorem d28_15 : decode jdk_65_method_133_code 15 = .ok (.iload_n 1, 1) := by decide +kernel
theorem d28_16 : decode jdk_65_method_133_code 16 = .ok (.aload 4, 2) := by decide +kernel
theorem d28_18 : decode jdk_65_method_133_code 18 = .ok (.iconst 0, 1) := by decide +kernel
theorem d28_19 : decode jdk_65_method_133_code 19 = .ok (.aload_n 0, 1) := by decide +kernel
theorem d28_20 : decode jdk_65_method_133_code 20 = .ok (.arraylength, 1) := by decide +kernel
theorem d28_21 : decode jdk_65_method_133_code 21 = .ok (.iload_n 1, 1) := by decide +kernel
theorem d28_22 : decode jdk_65_method_133_code 22 = .ok (.isub, 1) := by decide +kernel
theorem d28_23 : decode jdk_65_method_133_code 23 = .ok (.iload_n 3, 1) := by decide +kernel
theorem d28_24 : decode jdk_65_method_133_code 24 = .ok (.invokestatic 304, 3) := by decide +kernel
theorem d19_9 : decode jdk_29_method_69_code 9 = .ok (.iload_n 1, 1) := by decide +kernel
theorem d28_27 : decode jdk_65_method_133_code 27 = .ok (.invokestatic 150, 3) := by decide +kernel
theorem d28_30 : decode jdk_65_method_133_code 30 = .ok (.aload 4, 2) := by decide +kernel
theorem d28_32 : decode jdk_65_method_133_code 32 = .ok (.areturn, 1) := by decide +kernel
abbrev M_22 : MethodName := ⟨"java/util/Arrays", "copyOfRangeByte", "([BII)[B"⟩
theorem pd_16 : parseMethodDescriptor "([BII)[B" = some ⟨[(.array .byte), .int, .int], some (.array .byte)⟩ := by decide +kernel
theorem d27_16 : decode jdk_65_method_132_code 16 = .ok (.areturn, 1) := by decide +kernel
abbrev M_23 : MethodName := ⟨"java/util/Arrays", "copyOfRange", "([BII)[B"⟩
theorem d22_35 : decode jdk_42_method_150_code 35 = .ok (.putfield 9, 3) := by decide +kernel
theorem d22_38 : decode jdk_42_method_150_code 38 = .ok (.goto 59, 3) := by decide +kernel
theorem d22_97 : decode jdk_42_method_150_code 97 = .ok (.return_, 1) := by decide +kernel
abbrev M_24 : MethodName := ⟨"java/lang/String", "<init>", "(Ljava/lang/AbstractStringBuilder;Ljava/lang/Void;)V"⟩
theorem pd_17 : parseMethodDescriptor "(Ljava/lang/AbstractStringBuilder;Ljava/lang/Void;)V" = some ⟨[(.object "java/lang/AbstractStringBuilder"), (.object "java/lang/Void")], none⟩ := by decide +kernel
theorem d21_6 : decode jdk_42_method_53_code 6 = .ok (.return_, 1) := by decide +kernel
abbrev M_25 : MethodName := ⟨"java/lang/String", "<init>", "(Ljava/lang/StringBuilder;)V"⟩
theorem pd_18 : parseMethodDescriptor "(Ljava/lang/StringBuilder;)V" = some ⟨[(.object "java/lang/StringBuilder")], none⟩ := by decide +kernel
theorem d20_8 : decode jdk_67_method_42_code 8 = .ok (.areturn, 1) := by decide +kernel
abbrev M_26 : MethodName := ⟨"java/lang/StringBuilder", "toString", "()Ljava/lang/String;"⟩
theorem pd_19 : parseMethodDescriptor "()Ljava/lang/String;" = some ⟨[], some (.object "java/lang/String")⟩ := by decide +kernel
theorem d1_65 : decode prog_2_method_7_code 65 = .ok (.areturn, 1) := by decide +kernel
abbrev M_27 : MethodName := ⟨"com/example/stern_warden/sternwarden/model/AccessMode", "listNames", "()Ljava/lang/String;"⟩
theorem d30_0 : decode jdk_42_method_66_code 0 = .ok (.aload_n 0, 1) := by decide +kernel
theorem d30_1 : decode jdk_42_method_66_code 1 = .ok (.aload_n 1, 1) := by decide +kernel
theorem d30_2 : decode jdk_42_method_66_code 2 = .ok (.if_acmp .ne 5, 3) := by decide +kernel
theorem d30_5 : decode jdk_42_method_66_code 5 = .ok (.iconst 1, 1) := by decide +kernel
theorem d30_6 : decode jdk_42_method_66_code 6 = .ok (.ireturn, 1) := by decide +kernel
theorem d30_7 : decode jdk_42_method_66_code 7 = .ok (.aload_n 1, 1) := by decide +kernel
theorem d30_8 : decode jdk_42_method_66_code 8 = .ok (.instanceof 10, 3) := by decide +kernel
theorem d30_11 : decode jdk_42_method_66_code 11 = .ok (.ifCond .eq 43, 3) := by decide +kernel
theorem d30_14 : decode jdk_42_method_66_code 14 = .ok (.aload_n 1, 1) := by decide +kernel
theorem d30_15 : decode jdk_42_method_66_code 15 = .ok (.checkcast 10, 3) := by decide +kernel
theorem d30_18 : decode jdk_42_method_66_code 18 = .ok (.astore_n 2, 1) := by decide +kernel
theorem d30_19 : decode jdk_42_method_66_code 19 = .ok (.getstatic 38, 3) := by decide +kernel
theorem d30_22 : decode jdk_42_method_66_code 22 = .ok (.ifCond .eq 14, 3) := by decide +kernel
theorem d30_25 : decode jdk_42_method_66_code 25 = .ok (.aload_n 0, 1) := by decide +kernel
theorem d30_26 : decode jdk_42_method_66_code 26 = .ok (.getfield 15, 3) := by decide +kernel
theorem d30_29 : decode jdk_42_method_66_code 29 = .ok (.aload_n 2, 1) := by decide +kernel
theorem d30_30 : decode jdk_42_method_66_code 30 = .ok (.getfield 15, 3) := by decide +kernel
theorem d30_33 : decode jdk_42_method_66_code 33 = .ok (.if_icmp .ne 21, 3) := by decide +kernel
theorem d30_36 : decode jdk_42_method_66_code 36 = .ok (.aload_n 0, 1) := by decide +kernel
theorem d30_37 : decode jdk_42_method_66_code 37 = .ok (.getfield 9, 3) := by decide +kernel
theorem d30_40 : decode jdk_42_method_66_code 40 = .ok (.aload_n 2, 1) := by decide +kernel
theorem d30_41 : decode jdk_42_method_66_code 41 = .ok (.getfield 9, 3) := by decide +kernel
theorem d30_44 : decode jdk_42_method_66_code 44 = .ok (.invokestatic 541, 3) := by decide +kernel
theorem d31_0 : decode jdk_43_method_13_code 0 = .ok (.aload_n 0, 1) := by decide +kernel
theorem d31_1 : decode jdk_43_method_13_code 1 = .ok (.arraylength, 1) := by decide +kernel
theorem d31_2 : decode jdk_43_method_13_code 2 = .ok (.aload_n 1, 1) := by decide +kernel
theorem d31_3 : decode jdk_43_method_13_code 3 = .ok (.arraylength, 1) := by decide +kernel
theorem d31_4 : decode jdk_43_method_13_code 4 = .ok (.if_icmp .ne 30, 3) := by decide +kernel
theorem d31_7 : decode jdk_43_method_13_code 7 = .ok (.iconst 0, 1) := by decide +kernel
theorem d31_8 : decode jdk_43_method_13_code 8 = .ok (.istore_n 2, 1) := by decide +kernel
theorem d31_9 : decode jdk_43_method_13_code 9 = .ok (.iload_n 2, 1) := by decide +kernel
theorem d31_10 : decode jdk_43_method_13_code 10 = .ok (.aload_n 0, 1) := by decide +kernel
theorem d31_11 : decode jdk_43_method_13_code 11 = .ok (.arraylength, 1) := by decide +kernel
theorem d31_12 : decode jdk_43_method_13_code 12 = .ok (.if_icmp .ge 20, 3) := by decide +kernel
theorem d31_15 : decode jdk_43_method_13_code 15 = .ok (.aload_n 0, 1) := by decide +kernel
theorem d31_16 : decode jdk_43_method_13_code 16 = .ok (.iload_n 2, 1) := by decide +kernel
theorem d31_17 : decode jdk_43_method_13_code 17 = .ok (.baload, 1) := by decide +kernel
theorem d31_18 : decode jdk_43_method_13_code 18 = .ok (.aload_n 1, 1) := by decide +kernel
theorem d31_19 : decode jdk_43_method_13_code 19 = .ok (.iload_n 2, 1) := by decide +kernel
theorem d31_20 : decode jdk_43_method_13_code 20 = .ok (.baload, 1) := by decide +kernel
theorem d31_21 : decode jdk_43_method_13_code 21 = .ok (.if_icmp .eq 5, 3) := by decide +kernel
theorem d31_26 : decode jdk_43_method_13_code 26 = .ok (.iinc 2 1, 3) := by decide +kernel
theorem d31_29 : decode jdk_43_method_13_code 29 = .ok (.goto (-20), 3) := by decide +kernel
theorem d31_32 : decode jdk_43_method_13_code 32 = .ok (.iconst 1, 1) := by decide +kernel
theorem d31_33 : decode jdk_43_method_13_code 33 = .ok (.ireturn, 1) := by decide +kernel
abbrev M_28 : MethodName := ⟨"java/lang/StringLatin1", "equals", "([B[B)Z"⟩
theorem pn_6 : plainName "java/lang/StringLatin1" = true := by first | (simp [plainName, overriddenIn]; done) | decide +kernel
theorem pd_20 : parseMethodDescriptor "([B[B)Z" = some ⟨[(.array .byte), (.array .byte)], some .boolean⟩ := by decide +kernel
theorem d30_47 : decode jdk_42_method_66_code 47 = .ok (.ifCond .eq 7, 3) := by decide +kernel
theorem d30_50 : decode jdk_42_method_66_code 50 = .ok (.iconst 1, 1) := by decide +kernel
theorem d30_51 : decode jdk_42_method_66_code 51 = .ok (.goto 4, 3) := by decide +kernel
theorem d30_55 : decode jdk_42_method_66_code 55 = .ok (.ireturn, 1) := by decide +kernel
abbrev M_29 : MethodName := ⟨"java/lang/String", "equals", "(Ljava/lang/Object;)Z"⟩
theorem pd_21 : parseMethodDescriptor "(Ljava/lang/Object;)Z" = some ⟨[(.object "java/lang/Object")], some .boolean⟩ := by decide +kernel
theorem pn_7 : plainName "com/example/stern_warden/sternwarden/model/AccessModeListNamesPinLaw" = true := by first | (simp [plainName, overriddenIn]; done) | decide +kernel
theorem ef_rm2_3 (m : MethodId)  : entryFrame m #[] 0 = mkF m 0 #[] [] := by first | (simp [entryFrame, mkF, argsToLocals, Value.category]; done) | rfl
def Q2_3 (Z : State) (a1 : Addr) (a4 : Addr) (a5 : Addr) (a6 : Addr) (a7 : Addr) (k8 : ClassId) (h0 : Heap) (n0 : Nat) (v : Option Value) (h : Heap) (L : List Loc) : Prop := (∃ (b11 : Addr), v = some (.ref b11) ∧ Fr n0 L ∧ h0.size ≤ b11 ∧ b11 < h.size ∧ Keep h0 h [] ∧ Exa Z h b11 C_1 ∧ Arv Z h b11 k8 (.object "com/example/stern_warden/sternwarden/model/AccessMode") (4 : Int32) [(.ref a4), (.ref a5), (.ref a6), (.ref a7)] .null)
set_option maxRecDepth 65536 in
set_option maxHeartbeats 40000000 in
theorem rm2_3 (l : Launch) (Z : State) (a0 : Array Value) (hw : ∀ d ∈ own_ws, d.before a0 Z = true) (ws : List Jvm.Cond) (a1 : Addr) (a4 : Addr) (a5 : Addr) (a6 : Addr) (a7 : Addr) (k8 : ClassId) (h0 : Heap) (n0 : Nat) (O0 : Old Z n0 h0) (S_2 : Sta Z Z.heap C_0 "$VALUES" C_1 (.ref a1)) (V9 : Arv Z Z.heap a1 k8 (.object "com/example/stern_warden/sternwarden/model/AccessMode") (4 : Int32) [(.ref a4), (.ref a5), (.ref a6), (.ref a7)] .null) (E_10 : Exa Z Z.heap a1 C_1) :
    MetFree l M_0 (head1 (Jvm.Cond.code M_0 prog_2_method_1_code 0 (some (.array (.object "com/example/stern_warden/sternwarden/model/AccessMode"))) :: ws) ({ frames := 1, cells := 1, slots := 4, locals := 14 } : Room)) (fun a U => a = #[] ∧ Z.Warmed39 U.vm ∧ U.heap = h0) (fun _ _ _ _ _ => True) (fun _ U o U' => ∃ v L, o = .returned v ∧ Q2_3 Z a1 a4 a5 a6 a7 k8 h0 n0 v U'.heap L ∧ FrameEnd U o U' L ({ frames := 1, cells := 1, slots := 4, locals := 14 } : Room).cells ({ frames := 1, cells := 1, slots := 4, locals := 14 } : Room).slots) := by
  refine MetFree.of_bodySF (plainFor_of_name pn_0) hisR ?_
  intro p e s m args below meth c s₁ Bd hml0 hP hK
  obtain ⟨rfl, hZ, hh⟩ := hP
  have hx := Bd.exec
  have hby := Bd.bytes
  have hml : c.maxLocals = 0 := hml0
  have hown : s.vm.findClass "com/example/stern_warden/sternwarden/model/AccessMode" = some m.cls := findClass_of_methodNamed Bd.named
  have hnm := (name_of_methodNamed Bd.named Bd.method).1
  have X0 : Stand p l e ({ frames := 1, cells := 1, slots := 4, locals := 14 } : Room) s m #[] below meth c s₁ [] 0 0 := Stand.of_body Bd
  have e0 : s₁.heap = h0 := by rw [← hh, Bd.state]; rfl
  have N0 := Fr.nil n0
  have pre0 : ∀ t, Steps p.tables e below (s₁.setTop (mkF m 0 #[] [])) t → Steps p.tables e below (s₁.setTop (entryFrame m #[] 0)) t := fun t k => castTop (ef_rm2_3 m ) k
  obtain ⟨T3, X3, e3, st3⟩ := getS2 X0 hx hZ hown (host := "") (Or.inl (hw _ (gw 7 rfl))) Via.refl e0 (Sta.ext O0.2 S_2) (g := (mkF m 0 #[] [])) rfl (hb hby d2_0)
  obtain ⟨T11, h11, X11, e11, E11, A11, Ex11, st11⟩ := cloneH X3 hx hZ hown (hw _ (gw 9 rfl)) (hw _ (gw 10 rfl)) (hw _ (gw 14 rfl)) (hw _ (gw 12 rfl)) (hw _ (gw 13 rfl)) (hw _ (gw 15 rfl)) e3 (Arv.arh (V9.ext O0.2)) (Exa.ext O0.2 E_10) (g := (mkF m 3 #[] [(.ref a1)])) rfl (by rw [hml]; rfl) rfl (hb hby d2_3) (by decide) (W := 0) (cap := 4) (by show 2 * 0 + _ ≤ _; exact Nat.le_of_eq rfl) (by decide) (by decide +kernel) (by decide) (by decide)
  obtain ⟨b11, g11⟩ : ∃ z, z = h0.size := ⟨_, rfl⟩
  rw [← g11] at A11 Ex11 st11
  have O11 : Old Z n0 h11 := O0.ext E11
  have bd_b11 : h0.size ≤ b11 := Nat.le_of_eq g11.symm
  have g_b11 : n0 ≤ b11 := Nat.le_trans (own_z O0) bd_b11
  have sz_b11 : h0.size ≤ b11 := Nat.le_trans (Nat.le_refl _) bd_b11
  have lt_b11 : b11 < h11.size := A11.lt
  have V11 : Arv Z h11 b11 k8 (.object "com/example/stern_warden/sternwarden/model/AccessMode") (4 : Int32) [(.ref a4), (.ref a5), (.ref a6), (.ref a7)] .null := A11
  obtain ⟨T12, X12, e12, st12⟩ := castY X11 hx hZ hown (hw _ (gw 21 rfl)) e11 (Ins.self Ex11) (g := (mkF m 6 #[] [(.ref b11)])) rfl rfl (hb hby d2_6)
  obtain ⟨fs, hr, hrun, hended, hW, hsame⟩ := X12.leave (v := some (.ref b11)) (fun h => by rw [Bd.returns] at h; cases h)
  refine ⟨_, _, pre0 _ ?_, hrun, hended, _, _, rfl, ?_, ⟨_, rfl⟩, hW, hsame.mono (by decide) (by decide)⟩
  · show Steps p.tables e below (s₁.setTop (mkF m 0 #[] [])) _
    refine st3 _ ?_
    refine st11 _ ?_
    refine st12 _ ?_
    show Steps p.tables e below (T12.setTop (mkF m 9 #[] [(.ref b11)])) _
    jvm_step X12.here [X12.here.top, hx, (hb hby d2_9), X12.method', Bd.returns, Value.isRef, FieldType.isReference]
    first | (intro acts; rw [hr _ acts rfl rfl rfl]) | rw [hr _ _ rfl rfl rfl]
    exact Steps.refl _
  · show Q2_3 Z _ _ _ _ _ _ h0 n0 _ T12.heap _
    rw [e12]
    exact ⟨b11, rfl, N0, sz_b11, lt_b11, ((Keep.refl h0 []).ext E11), Ex11, V11⟩
theorem ef_rm7_7 (m : MethodId) (x0 : Addr) : entryFrame m #[(.ref x0)] 1 = mkF m 0 #[.val (.ref x0)] [] := by first | (simp [entryFrame, mkF, argsToLocals, Value.category]; done) | rfl
def Q7_7 (Z : State) (a1 : Addr) (p2 : Int32) (h0 : Heap) (n0 : Nat) (v : Option Value) (h : Heap) (L : List Loc) : Prop := (v = some (.int (0 : Int32)) ∧ Fr n0 L ∧ h = h0)
set_option maxRecDepth 65536 in
set_option maxHeartbeats 40000000 in
theorem rm7_7 (l : Launch) (Z : State) (a0 : Array Value) (hw : ∀ d ∈ own_ws, d.before a0 Z = true) (ws : List Jvm.Cond) (a1 : Addr) (p2 : Int32) (h0 : Heap) (n0 : Nat) (O0 : Old Z n0 h0) (S_3 : Sta Z Z.heap C_4 "COMPACT_STRINGS" "Z" (.int p2)) (hk5 : ¬ (p2 = (0 : Int32))) (F6 : Fld Z Z.heap a1 C_4 "coder" "B" (.int (0 : Int32))) :
    MetFree l M_1 (head1 (Jvm.Cond.code M_1 jdk_42_method_152_code 1 (some .byte) :: ws) ({ frames := 0, cells := 0, slots := 0, locals := 0 } : Room)) (fun a U => a = #[(.ref a1)] ∧ Z.Warmed39 U.vm ∧ U.heap = h0) (fun _ _ _ _ _ => True) (fun _ U o U' => ∃ v L, o = .returned v ∧ Q7_7 Z a1 p2 h0 n0 v U'.heap L ∧ FrameEnd U o U' L ({ frames := 0, cells := 0, slots := 0, locals := 0 } : Room).cells ({ frames := 0, cells := 0, slots := 0, locals := 0 } : Room).slots) := by
  refine MetFree.of_bodySF (plainFor_of_name pn_1) hisR ?_
  intro p e s m args below meth c s₁ Bd hml0 hP hK
  obtain ⟨rfl, hZ, hh⟩ := hP
  have hx := Bd.exec
  have hby := Bd.bytes
  have hml : c.maxLocals = 1 := hml0
  have hown : s.vm.findClass "java/lang/String" = some m.cls := findClass_of_methodNamed Bd.named
  have hnm := (name_of_methodNamed Bd.named Bd.method).1
  have X0 : Stand p l e ({ frames := 0, cells := 0, slots := 0, locals := 0 } : Room) s m #[(.ref a1)] below meth c s₁ [] 0 0 := Stand.of_body Bd
  have e0 : s₁.heap = h0 := by rw [← hh, Bd.state]; rfl
  have N0 := Fr.nil n0
  have pre0 : ∀ t, Steps p.tables e below (s₁.setTop (mkF m 0 #[.val (.ref a1)] [])) t → Steps p.tables e below (s₁.setTop (entryFrame m #[(.ref a1)] 1)) t := fun t k => castTop (ef_rm7_7 m a1) k
  obtain ⟨T4, X4, e4, st4⟩ := getS2 X0 hx hZ hown (host := "") (Or.inl (hw _ (gw 53 rfl))) Via.refl e0 (Sta.ext O0.2 S_3) (g := (mkF m 0 #[.val (.ref a1)] [])) rfl (hb hby d7_0)
  obtain ⟨T7, X7, e7, st7⟩ := getF X4 hx hZ hown (host := "") (Or.inl (hw _ (gw 54 rfl))) Via.refl e4 (Fld.ext O0.2 F6) (g := (mkF m 7 #[.val (.ref a1)] [(.ref a1)])) rfl rfl (hb hby d7_7)
  obtain ⟨fs, hr, hrun, hended, hW, hsame⟩ := X7.leave (v := some (.int (0 : Int32))) (fun h => by rw [Bd.returns] at h; cases h)
  refine ⟨_, _, pre0 _ ?_, hrun, hended, _, _, rfl, ?_, ⟨_, rfl⟩, hW, hsame.mono (by decide) (by decide)⟩
  · show Steps p.tables e below (s₁.setTop (mkF m 0 #[.val (.ref a1)] [])) _
    refine st4 _ ?_
    refine XS.ifNo X4.here hx rfl (hb hby d7_3) rfl ((if0 _ _).trans (feq hk5).1) ?_
    refine XS.aloadN X4.here hx rfl (hb hby d7_6) rfl rfl ?_
    refine st7 _ ?_
    refine XS.goto X7.here hx rfl (pc0 := 10) (pc' := 14) rfl (hb hby d7_10) (by decide) (by decide) ?_
    show Steps p.tables e below (T7.setTop (mkF m 14 #[.val (.ref a1)] [(.int (0 : Int32))])) _
    exact retN X7 hx (t := .byte) Bd.returns (by simp) (hb hby d7_14) hr
  · show Q7_7 Z _ _ h0 n0 _ T7.heap _
    rw [e7]
    exact ⟨rfl, N0, rfl⟩
theorem ef_rm6_6 (m : MethodId) (x0 : Addr) : entryFrame m #[(.ref x0)] 1 = mkF m 0 #[.val (.ref x0)] [] := by first | (simp [entryFrame, mkF, argsToLocals, Value.category]; done) | rfl
def Q6_6 (Z : State) (a1 : Addr) (a2 : Addr) (k5 : ClassId) (p9 : Int32) (h0 : Heap) (n0 : Nat) (v : Option Value) (h : Heap) (L : List Loc) : Prop := (v = some (.int (4 : Int32)) ∧ Fr n0 L ∧ h = h0)
set_option maxRecDepth 65536 in
set_option maxHeartbeats 40000000 in
theorem rm6_6 (l : Launch) (Z : State) (a0 : Array Value) (hw : ∀ d ∈ own_ws, d.before a0 Z = true) (ws : List Jvm.Cond) (a1 : Addr) (a2 : Addr) (k5 : ClassId) (p9 : Int32) (h0 : Heap) (n0 : Nat) (O0 : Old Z n0 h0) (F3 : Fld Z Z.heap a1 C_4 "value" "[B" (.ref a2)) (V6 : Arv Z Z.heap a2 k5 .byte (4 : Int32) [(.int (82 : Int32)), (.int (101 : Int32)), (.int (97 : Int32)), (.int (100 : Int32))] (.int (0 : Int32))) (E_8 : Exa Z Z.heap a1 C_4) (S_10 : Sta Z Z.heap C_4 "COMPACT_STRINGS" "Z" (.int p9)) (hk11 : ¬ (p9 = (0 : Int32))) (F12 : Fld Z Z.heap a1 C_4 "coder" "B" (.int (0 : Int32))) :
    MetFree l M_2 (head1 (Jvm.Cond.code M_2 jdk_42_method_54_code 1 (some .int) :: ws) ({ frames := 1, cells := 0, slots := 0, locals := 13 } : Room)) (fun a U => a = #[(.ref a1)] ∧ Z.Warmed39 U.vm ∧ U.heap = h0) (fun _ _ _ _ _ => True) (fun _ U o U' => ∃ v L, o = .returned v ∧ Q6_6 Z a1 a2 k5 p9 h0 n0 v U'.heap L ∧ FrameEnd U o U' L ({ frames := 1, cells := 0, slots := 0, locals := 13 } : Room).cells ({ frames := 1, cells := 0, slots := 0, locals := 13 } : Room).slots) := by
  refine MetFree.of_bodySF (plainFor_of_name pn_1) hisR ?_
  intro p e s m args below meth c s₁ Bd hml0 hP hK
  obtain ⟨rfl, hZ, hh⟩ := hP
  have hx := Bd.exec
  have hby := Bd.bytes
  have hml : c.maxLocals = 1 := hml0
  have hown : s.vm.findClass "java/lang/String" = some m.cls := findClass_of_methodNamed Bd.named
  have hnm := (name_of_methodNamed Bd.named Bd.method).1
  have X0 : Stand p l e ({ frames := 1, cells := 0, slots := 0, locals := 13 } : Room) s m #[(.ref a1)] below meth c s₁ [] 0 0 := Stand.of_body Bd
  have e0 : s₁.heap = h0 := by rw [← hh, Bd.state]; rfl
  have N0 := Fr.nil n0
  have pre0 : ∀ t, Steps p.tables e below (s₁.setTop (mkF m 0 #[.val (.ref a1)] [])) t → Steps p.tables e below (s₁.setTop (entryFrame m #[(.ref a1)] 1)) t := fun t k => castTop (ef_rm6_6 m a1) k
  obtain ⟨T4, X4, e4, st4⟩ := getF X0 hx hZ hown (host := "") (Or.inl (hw _ (gw 46 rfl))) Via.refl e0 (Fld.ext O0.2 F3) (g := (mkF m 1 #[.val (.ref a1)] [(.ref a1)])) rfl rfl (hb hby d6_1)
  obtain ⟨cl7, Ar7, -, Sz7, Nn7, -, -⟩ := id (V6.ext O0.2)
  obtain ⟨cq13, kq13, q13a, q13b, q13c⟩ := isOf hZ e4 (Exa.ext O0.2 E_8)
  obtain ⟨_, _, ⟨T13, L13, k13, n13⟩, -, X13, ⟨Lc13, hQ13, l13, y13, z13⟩, st13⟩ := X4.virtualBack hx (y := M_1) (z := M_1) hown (mvT hZ (hw _ (gw 48 rfl))) (mvT hZ (hw _ (gw 49 rfl))) (notFace_of_selects (args := #[]) (mvT hZ (hw _ (gw 51 rfl)))) (mvT hZ (hw _ (gw 51 rfl))) (mvT hZ (hw _ (gw 50 rfl))) (by decide) (backOf (W := 1) (rm7_7 l Z a0 hw [] a1 p9 h0 n0  O0 S_10 hk11 F12) hZ (hw _ (gw 52 rfl)) (hw _ (gw 44 rfl)) (by decide) (by decide)) q13a q13c (g := (mkF m 6 #[.val (.ref a1)] [(.ref a1), (.int (4 : Int32))])) rfl (by rw [hml]; rfl) (Steps.refl _) (argsL := []) (rest := [(.int (4 : Int32))]) (lenOf pd_1 rfl) rfl (by show 2 * 0 + _ ≤ _; exact Nat.le_of_eq rfl) (hb hby d6_6) (fun _ _ => ⟨rfl, e4, (by decide : 0 + 0 ≤ _), (by decide : 0 + 0 ≤ _)⟩)
  dsimp only [Pt.U, Pt.locs, Pt.cells, Pt.slots] at X13 l13 y13 z13 st13 hQ13
  subst l13 y13 z13
  obtain ⟨rfl, u15, u16⟩ := hQ13
  have N13 := Fr.app N0 u15
  obtain ⟨fs, hr, hrun, hended, hW, hsame⟩ := X13.leave (v := some (.int (4 : Int32))) (fun h => by rw [Bd.returns] at h; cases h)
  refine ⟨_, _, pre0 _ ?_, hrun, hended, _, _, rfl, ?_, ⟨_, rfl⟩, hW, hsame.mono (by decide) (by decide)⟩
  · show Steps p.tables e below (s₁.setTop (mkF m 0 #[.val (.ref a1)] [])) _
    refine XS.aloadN X0.here hx rfl (hb hby d6_0) rfl rfl ?_
    refine st4 _ ?_
    refine X4.arraylength hx (by rw [e4]; exact Ar7.1) (State.isArrayOf_alike hZ.alike Ar7.2.1) (g := (mkF m 4 #[.val (.ref a1)] [(.ref a2)])) rfl rfl (hb hby d6_4) _ ?_
    rw [len_of Sz7 Nn7]
    refine XS.aloadN X4.here hx rfl (hb hby d6_5) rfl rfl ?_
    refine st13.trans ?_
    refine XS.ishr X13.here hx rfl (hb hby d6_9) rfl ?_
    show Steps p.tables e below (T13.setTop (mkF m 10 #[.val (.ref a1)] [(.int ((4 : Int32) >>> ((0 : Int32) &&& 31)))])) _
    rw [(by decide +kernel : ((4 : Int32) >>> ((0 : Int32) &&& 31)) = (4 : Int32))]
    show Steps p.tables e below (T13.setTop (mkF m 10 #[.val (.ref a1)] [(.int (4 : Int32))])) _
    exact retI X13 hx Bd.returns (hb hby d6_10) hr
  · show Q6_6 Z _ _ _ _ h0 n0 _ T13.heap _
    rw [u16]
    exact ⟨rfl, N13, rfl⟩
theorem ef_rm11_11 (m : MethodId) (x0 : Addr) : entryFrame m #[(.ref x0), (.int (4 : Int32))] 3 = mkF m 0 #[.val (.ref x0), .val (.int (4 : Int32)), .unset] [] := by first | (simp [entryFrame, mkF, argsToLocals, Value.category]; done) | rfl
def Q11_11 (Z : State) (a1 : Addr) (a2 : Addr) (k5 : ClassId) (h0 : Heap) (n0 : Nat) (v : Option Value) (h : Heap) (L : List Loc) : Prop := (v = none ∧ Fr n0 L ∧ h = h0)
set_option maxRecDepth 65536 in
set_option maxHeartbeats 40000000 in
theorem rm11_11 (l : Launch) (Z : State) (a0 : Array Value) (hw : ∀ d ∈ own_ws, d.before a0 Z = true) (ws : List Jvm.Cond) (a1 : Addr) (a2 : Addr) (k5 : ClassId) (h0 : Heap) (n0 : Nat) (O0 : Old Z n0 h0) (F3 : Fld Z h0 a1 C_2 "value" "[B" (.ref a2)) (V6 : Arv Z h0 a2 k5 .byte (20 : Int32) [] (.int (0 : Int32))) (F8 : Fld Z h0 a1 C_2 "coder" "B" (.int (0 : Int32))) :
    MetFree l M_3 (head1 (Jvm.Cond.code M_3 jdk_68_method_9_code 3 none :: ws) ({ frames := 0, cells := 0, slots := 0, locals := 0 } : Room)) (fun a U => a = #[(.ref a1), (.int (4 : Int32))] ∧ Z.Warmed39 U.vm ∧ U.heap = h0) (fun _ _ _ _ _ => True) (fun _ U o U' => ∃ v L, o = .returned v ∧ Q11_11 Z a1 a2 k5 h0 n0 v U'.heap L ∧ FrameEnd U o U' L ({ frames := 0, cells := 0, slots := 0, locals := 0 } : Room).cells ({ frames := 0, cells := 0, slots := 0, locals := 0 } : Room).slots) := by
  refine MetFree.of_bodySF (plainFor_of_name pn_2) hisR ?_
  intro p e s m args below meth c s₁ Bd hml0 hP hK
  obtain ⟨rfl, hZ, hh⟩ := hP
  have hx := Bd.exec
  have hby := Bd.bytes
  have hml : c.maxLocals = 3 := hml0
  have hown : s.vm.findClass "java/lang/AbstractStringBuilder" = some m.cls := findClass_of_methodNamed Bd.named
  have hnm := (name_of_methodNamed Bd.named Bd.method).1
  have X0 : Stand p l e ({ frames := 0, cells := 0, slots := 0, locals := 0 } : Room) s m #[(.ref a1), (.int (4 : Int32))] below meth c s₁ [] 0 0 := Stand.of_body Bd
  have e0 : s₁.heap = h0 := by rw [← hh, Bd.state]; rfl
  have N0 := Fr.nil n0
  have pre0 : ∀ t, Steps p.tables e below (s₁.setTop (mkF m 0 #[.val (.ref a1), .val (.int (4 : Int32)), .unset] [])) t → Steps p.tables e below (s₁.setTop (entryFrame m #[(.ref a1), (.int (4 : Int32))] 3)) t := fun t k => castTop (ef_rm11_11 m a1) k
  obtain ⟨T4, X4, e4, st4⟩ := getF X0 hx hZ hown (host := "") (Or.inl (hw _ (gw 61 rfl))) Via.refl e0 F3 (g := (mkF m 1 #[.val (.ref a1), .val (.int (4 : Int32)), .unset] [(.ref a1)])) rfl rfl (hb hby d11_1)
  obtain ⟨cl7, Ar7, -, Sz7, Nn7, -, -⟩ := id V6
  obtain ⟨T9, X9, e9, st9⟩ := getF X4 hx hZ hown (host := "") (Or.inl (hw _ (gw 58 rfl))) Via.refl e4 F8 (g := (mkF m 6 #[.val (.ref a1), .val (.int (4 : Int32)), .unset] [(.ref a1), (.int (20 : Int32))])) rfl rfl (hb hby d11_6)
  obtain ⟨fs, hr, hrun, hended, hW, hsame⟩ := X9.leave (v := none) (fun _ => rfl)
  refine ⟨_, _, pre0 _ ?_, hrun, hended, _, _, rfl, ?_, ⟨_, rfl⟩, hW, hsame.mono (by decide) (by decide)⟩
  · show Steps p.tables e below (s₁.setTop (mkF m 0 #[.val (.ref a1), .val (.int (4 : Int32)), .unset] [])) _
    refine XS.aloadN X0.here hx rfl (hb hby d11_0) rfl rfl ?_
    refine st4 _ ?_
    refine X4.arraylength hx (by rw [e4]; exact Ar7.1) (State.isArrayOf_alike hZ.alike Ar7.2.1) (g := (mkF m 4 #[.val (.ref a1), .val (.int (4 : Int32)), .unset] [(.ref a2)])) rfl rfl (hb hby d11_4) _ ?_
    rw [len_of Sz7 Nn7]
    refine XS.aloadN X4.here hx rfl (hb hby d11_5) rfl rfl ?_
    refine st9 _ ?_
    refine XS.ishr X9.here hx rfl (hb hby d11_9) rfl ?_
    show Steps p.tables e below (T9.setTop (mkF m 10 #[.val (.ref a1), .val (.int (4 : Int32)), .unset] [(.int ((20 : Int32) >>> ((0 : Int32) &&& 31)))])) _
    rw [(by decide +kernel : ((20 : Int32) >>> ((0 : Int32) &&& 31)) = (20 : Int32))]
    refine XS.istoreN X9.here hx rfl (hb hby d11_10) rfl (l' := #[.val (.ref a1), .val (.int (4 : Int32)), .val (.int (20 : Int32))]) rfl ?_
    refine XS.iloadN X9.here hx rfl (hb hby d11_11) rfl ?_
    refine XS.iloadN X9.here hx rfl (hb hby d11_12) rfl ?_
    refine XS.isub X9.here hx rfl (hb hby d11_13) rfl ?_
    show Steps p.tables e below (T9.setTop (mkF m 14 #[.val (.ref a1), .val (.int (4 : Int32)), .val (.int (20 : Int32))] [(.int ((4 : Int32) - (20 : Int32)))])) _
    rw [(by decide +kernel : ((4 : Int32) - (20 : Int32)) = (-16 : Int32))]
    refine XS.ifYes X9.here hx rfl (pc0 := 14) (pc' := 38) rfl (hb hby d11_14) rfl ((if0 _ _).trans (flt (by decide +kernel : ¬ ((0 : Int32) < (-16 : Int32)))).2.2.2) (by decide) (by decide) ?_
    show Steps p.tables e below (T9.setTop (mkF m 38 #[.val (.ref a1), .val (.int (4 : Int32)), .val (.int (20 : Int32))] [])) _
    exact X9.returnOut hx Bd.returns (hb hby d11_38) hr
  · show Q11_11 Z _ _ _ h0 n0 _ T9.heap _
    rw [e9]
    exact ⟨rfl, N0, rfl⟩
theorem ef_rm13_13 (m : MethodId) (x0 : Addr) (x1 : Addr) : entryFrame m #[(.ref x0), (.ref x1)] 2 = mkF m 0 #[.val (.ref x0), .val (.ref x1)] [] := by first | (simp [entryFrame, mkF, argsToLocals, Value.category]; done) | rfl
def Q13_13 (Z : State) (a1 : Addr) (a2 : Addr) (p3 : Int32) (h0 : Heap) (n0 : Nat) (v : Option Value) (h : Heap) (L : List Loc) : Prop := (v = none ∧ Fr n0 L ∧ h = h0)
set_option maxRecDepth 65536 in
set_option maxHeartbeats 40000000 in
theorem rm13_13 (l : Launch) (Z : State) (a0 : Array Value) (hw : ∀ d ∈ own_ws, d.before a0 Z = true) (ws : List Jvm.Cond) (a1 : Addr) (a2 : Addr) (p3 : Int32) (h0 : Heap) (n0 : Nat) (O0 : Old Z n0 h0) (S_4 : Sta Z Z.heap C_4 "COMPACT_STRINGS" "Z" (.int p3)) (hk6 : ¬ (p3 = (0 : Int32))) (F7 : Fld Z h0 a1 C_2 "coder" "B" (.int (0 : Int32))) (E_9 : Exa Z Z.heap a2 C_4) (F10 : Fld Z Z.heap a2 C_4 "coder" "B" (.int (0 : Int32))) :
    MetFree l M_4 (head1 (Jvm.Cond.code M_4 jdk_68_method_71_code 2 none :: ws) ({ frames := 1, cells := 0, slots := 0, locals := 13 } : Room)) (fun a U => a = #[(.ref a1), (.ref a2)] ∧ Z.Warmed39 U.vm ∧ U.heap = h0) (fun _ _ _ _ _ => True) (fun _ U o U' => ∃ v L, o = .returned v ∧ Q13_13 Z a1 a2 p3 h0 n0 v U'.heap L ∧ FrameEnd U o U' L ({ frames := 1, cells := 0, slots := 0, locals := 13 } : Room).cells ({ frames := 1, cells := 0, slots := 0, locals := 13 } : Room).slots) := by
  refine MetFree.of_bodySF (plainFor_of_name pn_2) hisR ?_
  intro p e s m args below meth c s₁ Bd hml0 hP hK
  obtain ⟨rfl, hZ, hh⟩ := hP
  have hx := Bd.exec
  have hby := Bd.bytes
  have hml : c.maxLocals = 2 := hml0
  have hown : s.vm.findClass "java/lang/AbstractStringBuilder" = some m.cls := findClass_of_methodNamed Bd.named
  have hnm := (name_of_methodNamed Bd.named Bd.method).1
  have X0 : Stand p l e ({ frames := 1, cells := 0, slots := 0, locals := 13 } : Room) s m #[(.ref a1), (.ref a2)] below meth c s₁ [] 0 0 := Stand.of_body Bd
  have e0 : s₁.heap = h0 := by rw [← hh, Bd.state]; rfl
  have N0 := Fr.nil n0
  have pre0 : ∀ t, Steps p.tables e below (s₁.setTop (mkF m 0 #[.val (.ref a1), .val (.ref a2)] [])) t → Steps p.tables e below (s₁.setTop (entryFrame m #[(.ref a1), (.ref a2)] 2)) t := fun t k => castTop (ef_rm13_13 m a1 a2) k
  obtain ⟨T5, X5, e5, st5⟩ := getS2 X0 hx hZ hown (host := "") (Or.inl (hw _ (gw 94 rfl))) Via.refl e0 (Sta.ext O0.2 S_4) (g := (mkF m 0 #[.val (.ref a1), .val (.ref a2)] [])) rfl (hb hby d13_0)
  obtain ⟨T8, X8, e8, st8⟩ := getF X5 hx hZ hown (host := "") (Or.inl (hw _ (gw 58 rfl))) Via.refl e5 F7 (g := (mkF m 7 #[.val (.ref a1), .val (.ref a2)] [(.ref a1)])) rfl rfl (hb hby d13_7)
  obtain ⟨cq11, kq11, q11a, q11b, q11c⟩ := isOf hZ e8 (Exa.ext O0.2 E_9)
  obtain ⟨_, _, ⟨T11, L11, k11, n11⟩, -, X11, ⟨Lc11, hQ11, l11, y11, z11⟩, st11⟩ := X8.virtualBack hx (y := M_1) (z := M_1) hown (mvT hZ (hw _ (gw 57 rfl))) (mvT hZ (hw _ (gw 49 rfl))) (notFace_of_selects (args := #[]) (mvT hZ (hw _ (gw 51 rfl)))) (mvT hZ (hw _ (gw 51 rfl))) (mvT hZ (hw _ (gw 50 rfl))) (by decide) (backOf (W := 1) (rm7_7 l Z a0 hw [] a2 p3 h0 n0  O0 S_4 hk6 F10) hZ (hw _ (gw 52 rfl)) (hw _ (gw 44 rfl)) (by decide) (by decide)) q11a q11c (g := (mkF m 11 #[.val (.ref a1), .val (.ref a2)] [(.ref a2), (.int (0 : Int32))])) rfl (by rw [hml]; rfl) (Steps.refl _) (argsL := []) (rest := [(.int (0 : Int32))]) (lenOf pd_1 rfl) rfl (by show 2 * 0 + _ ≤ _; exact Nat.le_of_eq rfl) (hb hby d13_11) (fun _ _ => ⟨rfl, e8, (by decide : 0 + 0 ≤ _), (by decide : 0 + 0 ≤ _)⟩)
  dsimp only [Pt.U, Pt.locs, Pt.cells, Pt.slots] at X11 l11 y11 z11 st11 hQ11
  subst l11 y11 z11
  obtain ⟨rfl, u13, u14⟩ := hQ11
  have N11 := Fr.app N0 u13
  obtain ⟨fs, hr, hrun, hended, hW, hsame⟩ := X11.leave (v := none) (fun _ => rfl)
  refine ⟨_, _, pre0 _ ?_, hrun, hended, _, _, rfl, ?_, ⟨_, rfl⟩, hW, hsame.mono (by decide) (by decide)⟩
  · show Steps p.tables e below (s₁.setTop (mkF m 0 #[.val (.ref a1), .val (.ref a2)] [])) _
    refine st5 _ ?_
    refine XS.ifNo X5.here hx rfl (hb hby d13_3) rfl ((if0 _ _).trans (feq hk6).1) ?_
    refine XS.aloadN X5.here hx rfl (hb hby d13_6) rfl rfl ?_
    refine st8 _ ?_
    refine XS.aloadN X8.here hx rfl (hb hby d13_10) rfl rfl ?_
    refine st11.trans ?_
    refine XS.icmpYes X11.here hx rfl (pc0 := 14) (pc' := 21) rfl (hb hby d13_14) rfl (teq (by decide +kernel : (0 : Int32) = (0 : Int32))).1 (by decide) (by decide) ?_
    show Steps p.tables e below (T11.setTop (mkF m 21 #[.val (.ref a1), .val (.ref a2)] [])) _
    exact X11.returnOut hx Bd.returns (hb hby d13_21) hr
  · show Q13_13 Z _ _ _ h0 n0 _ T11.heap _
    rw [u14]
    exact ⟨rfl, N11, rfl⟩
theorem ef_rm14_14 (m : MethodId) (x0 : Addr) (x1 : Addr) : entryFrame m #[(.ref x0), (.ref x1), (.int (0 : Int32)), (.int (0 : Int32))] 4 = mkF m 0 #[.val (.ref x0), .val (.ref x1), .val (.int (0 : Int32)), .val (.int (0 : Int32))] [] := by first | (simp [entryFrame, mkF, argsToLocals, Value.category]; done) | rfl
def Q14_14 (Z : State) (a1 : Addr) (a2 : Addr) (p4 : Int32) (a12 : Addr) (k16 : ClassId) (k19 : ClassId) (h0 : Heap) (n0 : Nat) (v : Option Value) (h : Heap) (L : List Loc) : Prop := (v = none ∧ Fr n0 L ∧ Keep h0 h [a2] ∧ Exa Z h a2 "[B" ∧ Arv Z h a2 k19 .byte (20 : Int32) [(.int (82 : Int32)), (.int (101 : Int32)), (.int (97 : Int32)), (.int (100 : Int32))] (.int (0 : Int32)))
set_option maxRecDepth 65536 in
set_option maxHeartbeats 40000000 in
theorem rm14_14 (l : Launch) (Z : State) (a0 : Array Value) (hw : ∀ d ∈ own_ws, d.before a0 Z = true) (ws : List Jvm.Cond) (a1 : Addr) (a2 : Addr) (p4 : Int32) (a12 : Addr) (k16 : ClassId) (k19 : ClassId) (h0 : Heap) (n0 : Nat) (O0 : Old Z n0 h0) (E_3 : Exa Z Z.heap a1 C_4) (S_5 : Sta Z Z.heap C_4 "COMPACT_STRINGS" "Z" (.int p4)) (hk6 : ¬ (p4 = (0 : Int32))) (F7 : Fld Z Z.heap a1 C_4 "coder" "B" (.int (0 : Int32))) (F13 : Fld Z Z.heap a1 C_4 "value" "[B" (.ref a12)) (V17 : Arv Z Z.heap a12 k16 .byte (4 : Int32) [(.int (82 : Int32)), (.int (101 : Int32)), (.int (97 : Int32)), (.int (100 : Int32))] (.int (0 : Int32))) (V20 : Arv Z h0 a2 k19 .byte (20 : Int32) [] (.int (0 : Int32))) (E_21 : Exa Z h0 a2 "[B") (g_a2 : n0 ≤ a2) :
    MetFree l M_5 (head1 (Jvm.Cond.code M_5 jdk_42_method_147_code 4 none :: ws) ({ frames := 1, cells := 0, slots := 0, locals := 18 } : Room)) (fun a U => a = #[(.ref a1), (.ref a2), (.int (0 : Int32)), (.int (0 : Int32))] ∧ Z.Warmed39 U.vm ∧ U.heap = h0) (fun _ _ _ _ _ => True) (fun _ U o U' => ∃ v L, o = .returned v ∧ Q14_14 Z a1 a2 p4 a12 k16 k19 h0 n0 v U'.heap L ∧ FrameEnd U o U' L ({ frames := 1, cells := 0, slots := 0, locals := 18 } : Room).cells ({ frames := 1, cells := 0, slots := 0, locals := 18 } : Room).slots) := by
  refine MetFree.of_bodySF (plainFor_of_name pn_1) hisR ?_
  intro p e s m args below meth c s₁ Bd hml0 hP hK
  obtain ⟨rfl, hZ, hh⟩ := hP
  have hx := Bd.exec
  have hby := Bd.bytes
  have hml : c.maxLocals = 4 := hml0
  have hown : s.vm.findClass "java/lang/String" = some m.cls := findClass_of_methodNamed Bd.named
  have hnm := (name_of_methodNamed Bd.named Bd.method).1
  have X0 : Stand p l e ({ frames := 1, cells := 0, slots := 0, locals := 18 } : Room) s m #[(.ref a1), (.ref a2), (.int (0 : Int32)), (.int (0 : Int32))] below meth c s₁ [] 0 0 := Stand.of_body Bd
  have e0 : s₁.heap = h0 := by rw [← hh, Bd.state]; rfl
  have N0 := Fr.nil n0
  have pre0 : ∀ t, Steps p.tables e below (s₁.setTop (mkF m 0 #[.val (.ref a1), .val (.ref a2), .val (.int (0 : Int32)), .val (.int (0 : Int32))] [])) t → Steps p.tables e below (s₁.setTop (entryFrame m #[(.ref a1), (.ref a2), (.int (0 : Int32)), (.int (0 : Int32))] 4)) t := fun t k => castTop (ef_rm14_14 m a1 a2) k
  obtain ⟨cq8, kq8, q8a, q8b, q8c⟩ := isOf hZ e0 (Exa.ext O0.2 E_3)
  obtain ⟨_, _, ⟨T8, L8, k8, n8⟩, -, X8, ⟨Lc8, hQ8, l8, y8, z8⟩, st8⟩ := X0.virtualBack hx (y := M_1) (z := M_1) hown (mvT hZ (hw _ (gw 48 rfl))) (mvT hZ (hw _ (gw 49 rfl))) (notFace_of_selects (args := #[]) (mvT hZ (hw _ (gw 51 rfl)))) (mvT hZ (hw _ (gw 51 rfl))) (mvT hZ (hw _ (gw 50 rfl))) (by decide) (backOf (W := 0) (rm7_7 l Z a0 hw [] a1 p4 h0 n0  O0 S_5 hk6 F7) hZ (hw _ (gw 52 rfl)) (hw _ (gw 44 rfl)) (by decide) (by decide)) q8a q8c (g := (mkF m 1 #[.val (.ref a1), .val (.ref a2), .val (.int (0 : Int32)), .val (.int (0 : Int32))] [(.ref a1)])) rfl (by rw [hml]; rfl) (Steps.refl _) (argsL := []) (rest := []) (lenOf pd_1 rfl) rfl (by show 2 * 0 + _ ≤ _; exact Nat.le_of_eq rfl) (hb hby d14_1) (fun _ _ => ⟨rfl, e0, (by decide : 0 + 0 ≤ _), (by decide : 0 + 0 ≤ _)⟩)
  dsimp only [Pt.U, Pt.locs, Pt.cells, Pt.slots] at X8 l8 y8 z8 st8 hQ8
  subst l8 y8 z8
  obtain ⟨rfl, u10, u11⟩ := hQ8
  have N8 := Fr.app N0 u10
  obtain ⟨T14, X14, e14, st14⟩ := getF X8 hx hZ hown (host := "") (Or.inl (hw _ (gw 46 rfl))) Via.refl u11 (Fld.ext O0.2 F13) (g := (mkF m 9 #[.val (.ref a1), .val (.ref a2), .val (.int (0 : Int32)), .val (.int (0 : Int32))] [(.ref a1)])) rfl rfl (hb hby d14_9)
  obtain ⟨T15, X15, e15, st15⟩ := getF X14 hx hZ hown (host := "") (Or.inl (hw _ (gw 46 rfl))) Via.refl e14 (Fld.ext O0.2 F13) (g := (mkF m 18 #[.val (.ref a1), .val (.ref a2), .val (.int (0 : Int32)), .val (.int (0 : Int32))] [(.ref a1), (.int (0 : Int32)), (.ref a2), (.int (0 : Int32)), (.ref a12)])) rfl rfl (hb hby d14_18)
  obtain ⟨cl18, Ar18, -, Sz18, Nn18, -, -⟩ := id (V17.ext O0.2)
  have Vp22 : Arv Z h0 a2 k19 .byte (20 : Int32) [(.int (0 : Int32)), (.int (0 : Int32)), (.int (0 : Int32)), (.int (0 : Int32))] (.int (0 : Int32)) := V20.pad (pad_rep [] (.int (0 : Int32)) 4)
  obtain ⟨T23, h23, L23, X23, e23, N23, Ku23, V23, st23⟩ := cpA X15 hx hZ hown (hw _ (gw 100 rfl)) (hw _ (gw 103 rfl)) (hw _ (gw 101 rfl)) (hw _ (gw 102 rfl)) e15 (sp := (0 : Int32)) (dp := (0 : Int32)) (nn := (4 : Int32)) (us := [(.int (82 : Int32)), (.int (101 : Int32)), (.int (97 : Int32)), (.int (100 : Int32))]) (V17.ext O0.2) Vp22 (Or.inl ⟨rfl, rfl⟩) (by decide +kernel) (by decide +kernel) (by decide +kernel) (by decide +kernel) (by decide +kernel) rfl (Nat.le_of_ble_eq_true rfl) N8 g_a2 (g := (mkF m 22 #[.val (.ref a1), .val (.ref a2), .val (.int (0 : Int32)), .val (.int (0 : Int32))] [(.int (4 : Int32)), (.int (0 : Int32)), (.ref a2), (.int (0 : Int32)), (.ref a12)])) rfl (by rw [hml]; rfl) rfl (hb hby d14_22) (by decide) (W := 0) (by show 2 * 0 + _ ≤ _; exact Nat.le_of_eq rfl) (by decide +kernel)
  have Ou23 : Old Z n0 h23 := O0.keep Ku23 (allS g_a2 all0)
  have Vc23 : Arv Z h23 a2 k19 .byte (20 : Int32) [(.int (82 : Int32)), (.int (101 : Int32)), (.int (97 : Int32)), (.int (100 : Int32))] (.int (0 : Int32)) := V23
  obtain ⟨fs, hr, hrun, hended, hW, hsame⟩ := X23.leave (v := none) (fun _ => rfl)
  have f24 : Exa Z h23 a2 "[B" := (E_21.keep Ku23)
  refine ⟨_, _, pre0 _ ?_, hrun, hended, _, _, rfl, ?_, ⟨_, rfl⟩, hW, hsame.mono (by decide) (by decide)⟩
  · show Steps p.tables e below (s₁.setTop (mkF m 0 #[.val (.ref a1), .val (.ref a2), .val (.int (0 : Int32)), .val (.int (0 : Int32))] [])) _
    refine XS.aloadN X0.here hx rfl (hb hby d14_0) rfl rfl ?_
    refine st8.trans ?_
    refine XS.iloadN X8.here hx rfl (hb hby d14_4) rfl ?_
    refine XS.icmpNo X8.here hx rfl (hb hby d14_5) rfl (teq (by decide +kernel : (0 : Int32) = (0 : Int32))).2 ?_
    refine XS.aloadN X8.here hx rfl (hb hby d14_8) rfl rfl ?_
    refine st14 _ ?_
    refine XS.iconst X14.here hx rfl (hb hby d14_12) ?_
    refine XS.aloadN X14.here hx rfl (hb hby d14_13) rfl rfl ?_
    refine XS.iloadN X14.here hx rfl (hb hby d14_14) rfl ?_
    show Steps p.tables e below (T14.setTop (mkF m 15 #[.val (.ref a1), .val (.ref a2), .val (.int (0 : Int32)), .val (.int (0 : Int32))] [(.int (0 : Int32)), (.ref a2), (.int (0 : Int32)), (.ref a12)])) _
    refine XS.iloadN X14.here hx rfl (hb hby d14_15) rfl ?_
    refine XS.ishl X14.here hx rfl (hb hby d14_16) rfl ?_
    show Steps p.tables e below (T14.setTop (mkF m 17 #[.val (.ref a1), .val (.ref a2), .val (.int (0 : Int32)), .val (.int (0 : Int32))] [(.int ((0 : Int32) <<< ((0 : Int32) &&& 31))), (.ref a2), (.int (0 : Int32)), (.ref a12)])) _
    rw [(by decide +kernel : ((0 : Int32) <<< ((0 : Int32) &&& 31)) = (0 : Int32))]
    refine XS.aloadN X14.here hx rfl (hb hby d14_17) rfl rfl ?_
    refine st15 _ ?_
    refine X15.arraylength hx (by rw [e15]; exact Ar18.1) (State.isArrayOf_alike hZ.alike Ar18.2.1) (g := (mkF m 21 #[.val (.ref a1), .val (.ref a2), .val (.int (0 : Int32)), .val (.int (0 : Int32))] [(.ref a12), (.int (0 : Int32)), (.ref a2), (.int (0 : Int32)), (.ref a12)])) rfl rfl (hb hby d14_21) _ ?_
    rw [len_of Sz18 Nn18]
    refine st23 _ ?_
    refine XS.goto X23.here hx rfl (pc0 := 25) (pc' := 43) rfl (hb hby d14_25) (by decide) (by decide) ?_
    show Steps p.tables e below (T23.setTop (mkF m 43 #[.val (.ref a1), .val (.ref a2), .val (.int (0 : Int32)), .val (.int (0 : Int32))] [])) _
    exact X23.returnOut hx Bd.returns (hb hby d14_43) hr
  · show Q14_14 Z _ _ _ _ _ _ h0 n0 _ T23.heap _
    rw [e23]
    exact ⟨rfl, N23, ((Keep.refl h0 [a2]).trans Ku23 (allS (Or.inl (List.mem_of_getElem? (i := 0) rfl)) all0)), f24, Vc23⟩
theorem ef_rm12_12 (m : MethodId) (x0 : Addr) (x2 : Addr) : entryFrame m #[(.ref x0), (.int (0 : Int32)), (.ref x2)] 3 = mkF m 0 #[.val (.ref x0), .val (.int (0 : Int32)), .val (.ref x2)] [] := by first | (simp [entryFrame, mkF, argsToLocals, Value.category]; done) | rfl
def Q12_12 (Z : State) (a1 : Addr) (a2 : Addr) (p4 : Int32) (a14 : Addr) (a18 : Addr) (k20 : ClassId) (k22 : ClassId) (h0 : Heap) (n0 : Nat) (v : Option Value) (h : Heap) (L : List Loc) : Prop := (v = none ∧ Fr n0 L ∧ Keep h0 h [a14] ∧ Exa Z h a14 "[B" ∧ Arv Z h a14 k22 .byte (20 : Int32) [(.int (82 : Int32)), (.int (101 : Int32)), (.int (97 : Int32)), (.int (100 : Int32))] (.int (0 : Int32)))
set_option maxRecDepth 65536 in
set_option maxHeartbeats 40000000 in
theorem rm12_12 (l : Launch) (Z : State) (a0 : Array Value) (hw : ∀ d ∈ own_ws, d.before a0 Z = true) (ws : List Jvm.Cond) (a1 : Addr) (a2 : Addr) (p4 : Int32) (a14 : Addr) (a18 : Addr) (k20 : ClassId) (k22 : ClassId) (h0 : Heap) (n0 : Nat) (O0 : Old Z n0 h0) (E_3 : Exa Z h0 a1 C_5) (S_5 : Sta Z Z.heap C_4 "COMPACT_STRINGS" "Z" (.int p4)) (hk6 : ¬ (p4 = (0 : Int32))) (F7 : Fld Z h0 a1 C_2 "coder" "B" (.int (0 : Int32))) (E_8 : Exa Z Z.heap a2 C_4) (F9 : Fld Z Z.heap a2 C_4 "coder" "B" (.int (0 : Int32))) (F15 : Fld Z h0 a1 C_2 "value" "[B" (.ref a14)) (F19 : Fld Z Z.heap a2 C_4 "value" "[B" (.ref a18)) (V21 : Arv Z Z.heap a18 k20 .byte (4 : Int32) [(.int (82 : Int32)), (.int (101 : Int32)), (.int (97 : Int32)), (.int (100 : Int32))] (.int (0 : Int32))) (V23 : Arv Z h0 a14 k22 .byte (20 : Int32) [] (.int (0 : Int32))) (E_24 : Exa Z h0 a14 "[B") (g_a14 : n0 ≤ a14) :
    MetFree l M_6 (head1 (Jvm.Cond.code M_6 jdk_68_method_73_code 3 none :: ws) ({ frames := 2, cells := 0, slots := 0, locals := 33 } : Room)) (fun a U => a = #[(.ref a1), (.int (0 : Int32)), (.ref a2)] ∧ Z.Warmed39 U.vm ∧ U.heap = h0) (fun _ _ _ _ _ => True) (fun _ U o U' => ∃ v L, o = .returned v ∧ Q12_12 Z a1 a2 p4 a14 a18 k20 k22 h0 n0 v U'.heap L ∧ FrameEnd U o U' L ({ frames := 2, cells := 0, slots := 0, locals := 33 } : Room).cells ({ frames := 2, cells := 0, slots := 0, locals := 33 } : Room).slots) := by
  refine MetFree.of_bodySF (plainFor_of_name pn_2) hisR ?_
  intro p e s m args below meth c s₁ Bd hml0 hP hK
  obtain ⟨rfl, hZ, hh⟩ := hP
  have hx := Bd.exec
  have hby := Bd.bytes
  have hml : c.maxLocals = 3 := hml0
  have hown : s.vm.findClass "java/lang/AbstractStringBuilder" = some m.cls := findClass_of_methodNamed Bd.named
  have hnm := (name_of_methodNamed Bd.named Bd.method).1
  have X0 : Stand p l e ({ frames := 2, cells := 0, slots := 0, locals := 33 } : Room) s m #[(.ref a1), (.int (0 : Int32)), (.ref a2)] below meth c s₁ [] 0 0 := Stand.of_body Bd
  have e0 : s₁.heap = h0 := by rw [← hh, Bd.state]; rfl
  have N0 := Fr.nil n0
  have pre0 : ∀ t, Steps p.tables e below (s₁.setTop (mkF m 0 #[.val (.ref a1), .val (.int (0 : Int32)), .val (.ref a2)] [])) t → Steps p.tables e below (s₁.setTop (entryFrame m #[(.ref a1), (.int (0 : Int32)), (.ref a2)] 3)) t := fun t k => castTop (ef_rm12_12 m a1 a2) k
  obtain ⟨cq10, q10, q10'⟩ := E_3.cell
  obtain ⟨_, _, ⟨T10, L10, k10, n10⟩, -, X10, ⟨Lc10, hQ10, l10, y10, z10⟩, st10⟩ := X0.privateBack hx (y := M_4) hown (mvT hZ (hw _ (gw 89 rfl))) (mvT hZ (hw _ (gw 90 rfl))) (own_selSelf (args := #[]) (mvT hZ (hw _ (gw 92 rfl))) (Cond.privateMethod_at (mvP hZ (hw _ (gw 91 rfl)) (args := #[]))) (mvT hZ (hw _ (gw 90 rfl))) (by decide)) (Cond.privateMethod_at (mvP hZ (hw _ (gw 91 rfl)) (args := #[]))) (mvT hZ (hw _ (gw 93 rfl))) (by decide) (backOf (W := 0) (rm13_13 l Z a0 hw [] a1 a2 p4 h0 n0  O0 S_5 hk6 F7 E_8 F9) hZ (hw _ (gw 93 rfl)) (hw _ (gw 35 rfl)) (by decide) (by decide)) (g := (mkF m 2 #[.val (.ref a1), .val (.int (0 : Int32)), .val (.ref a2)] [(.ref a2), (.ref a1)])) rfl (by rw [hml]; rfl) (Steps.refl _) (a := a1) (by rw [e0]; exact q10) q10' (argsL := [(.ref a2)]) (rest := []) (lenOf pd_4 rfl) rfl (by show 2 * 0 + _ ≤ _; exact Nat.le_of_eq rfl) (hb hby d12_2) (fun _ _ => ⟨rfl, e0, (by decide : 0 + 0 ≤ _), (by decide : 0 + 0 ≤ _)⟩)
  dsimp only [Pt.U, Pt.locs, Pt.cells, Pt.slots] at X10 l10 y10 z10 st10 hQ10
  subst l10 y10 z10
  obtain ⟨rfl, u12, u13⟩ := hQ10
  have N10 := Fr.app N0 u12
  obtain ⟨T16, X16, e16, st16⟩ := getF X10 hx hZ hown (host := "") (Or.inl (hw _ (gw 61 rfl))) Via.refl u13 F15 (g := (mkF m 7 #[.val (.ref a1), .val (.int (0 : Int32)), .val (.ref a2)] [(.ref a1), (.ref a2)])) rfl rfl (hb hby d12_7)
  obtain ⟨T17, X17, e17, st17⟩ := getF X16 hx hZ hown (host := "") (Or.inl (hw _ (gw 58 rfl))) Via.refl e16 F7 (g := (mkF m 12 #[.val (.ref a1), .val (.int (0 : Int32)), .val (.ref a2)] [(.ref a1), (.int (0 : Int32)), (.ref a14), (.ref a2)])) rfl rfl (hb hby d12_12)
  obtain ⟨cq25, kq25, q25a, q25b, q25c⟩ := isOf hZ e17 (Exa.ext O0.2 E_8)
  obtain ⟨_, _, ⟨T25, L25, k25, n25⟩, -, X25, ⟨Lc25, hQ25, l25, y25, z25⟩, st25⟩ := X17.virtualBack hx (y := M_5) (z := M_5) hown (mvT hZ (hw _ (gw 95 rfl))) (mvT hZ (hw _ (gw 96 rfl))) (notFace_of_selects (args := #[]) (mvT hZ (hw _ (gw 98 rfl)))) (mvT hZ (hw _ (gw 98 rfl))) (mvT hZ (hw _ (gw 97 rfl))) (by decide) (backOf (W := 0) (rm14_14 l Z a0 hw [] a2 a14 p4 a18 k20 k22 h0 n0  O0 E_8 S_5 hk6 F9 F19 V21 V23 E_24 g_a14) hZ (hw _ (gw 99 rfl)) (hw _ (gw 44 rfl)) (by decide) (by decide)) q25a q25c (g := (mkF m 15 #[.val (.ref a1), .val (.int (0 : Int32)), .val (.ref a2)] [(.int (0 : Int32)), (.int (0 : Int32)), (.ref a14), (.ref a2)])) rfl (by rw [hml]; rfl) (Steps.refl _) (argsL := [(.ref a14), (.int (0 : Int32)), (.int (0 : Int32))]) (rest := []) (lenOf pd_5 rfl) rfl (by show 2 * 0 + _ ≤ _; exact Nat.le_of_eq rfl) (hb hby d12_15) (fun _ _ => ⟨rfl, e17, (by decide : 0 + 0 ≤ _), (by decide : 0 + 0 ≤ _)⟩)
  dsimp only [Pt.U, Pt.locs, Pt.cells, Pt.slots] at X25 l25 y25 z25 st25 hQ25
  subst l25 y25 z25
  obtain ⟨rfl, u27, Ku28, u29, u30⟩ := hQ25
  have Ou28 : Old Z n0 T25.heap := O0.keep Ku28 (allS g_a14 all0)
  have N25 := Fr.app N10 u27
  obtain ⟨fs, hr, hrun, hended, hW, hsame⟩ := X25.leave (v := none) (fun _ => rfl)
  refine ⟨_, _, pre0 _ ?_, hrun, hended, _, _, rfl, ?_, ⟨_, rfl⟩, hW, hsame.mono (by decide) (by decide)⟩
  · show Steps p.tables e below (s₁.setTop (mkF m 0 #[.val (.ref a1), .val (.int (0 : Int32)), .val (.ref a2)] [])) _
    refine XS.aloadN X0.here hx rfl (hb hby d12_0) rfl rfl ?_
    refine XS.aloadN X0.here hx rfl (hb hby d12_1) rfl rfl ?_
    refine st10.trans ?_
    refine XS.aloadN X10.here hx rfl (hb hby d12_5) rfl rfl ?_
    refine XS.aloadN X10.here hx rfl (hb hby d12_6) rfl rfl ?_
    refine st16 _ ?_
    refine XS.iloadN X16.here hx rfl (hb hby d12_10) rfl ?_
    refine XS.aloadN X16.here hx rfl (hb hby d12_11) rfl rfl ?_
    refine st17 _ ?_
    show Steps p.tables e below (T17.setTop (mkF m 15 #[.val (.ref a1), .val (.int (0 : Int32)), .val (.ref a2)] [(.int (0 : Int32)), (.int (0 : Int32)), (.ref a14), (.ref a2)])) _
    refine st25.trans ?_
    show Steps p.tables e below (T25.setTop (mkF m 18 #[.val (.ref a1), .val (.int (0 : Int32)), .val (.ref a2)] [])) _
    exact X25.returnOut hx Bd.returns (hb hby d12_18) hr
  · show Q12_12 Z _ _ _ _ _ _ _ h0 n0 _ T25.heap _
    exact ⟨rfl, N25, ((Keep.refl h0 [a14]).trans Ku28 (allS (Or.inl (List.mem_of_getElem? (i := 0) rfl)) all0)), u29, u30⟩
theorem ef_rm10_10 (m : MethodId) (x0 : Addr) (x1 : Addr) : entryFrame m #[(.ref x0), (.ref x1)] 3 = mkF m 0 #[.val (.ref x0), .val (.ref x1), .unset] [] := by first | (simp [entryFrame, mkF, argsToLocals, Value.category]; done) | rfl
def Q10_10 (Z : State) (a1 : Addr) (a2 : Addr) (a4 : Addr) (k6 : ClassId) (p8 : Int32) (a19 : Addr) (k21 : ClassId) (h0 : Heap) (n0 : Nat) (v : Option Value) (h : Heap) (L : List Loc) : Prop := (v = some (.ref a1) ∧ Fr n0 L ∧ Keep h0 h [a19, a1] ∧ Exa Z h a1 C_5 ∧ Fld Z h a1 C_2 "coder" "B" (.int (0 : Int32)) ∧ Fld Z h a1 C_2 "count" "I" (.int (4 : Int32)) ∧ Fld Z h a1 C_2 "value" "[B" (.ref a19) ∧ Exa Z h a19 "[B" ∧ Arv Z h a19 k21 .byte (20 : Int32) [(.int (82 : Int32)), (.int (101 : Int32)), (.int (97 : Int32)), (.int (100 : Int32))] (.int (0 : Int32)))
set_option maxRecDepth 65536 in
set_option maxHeartbeats 40000000 in
theorem rm10_10 (l : Launch) (Z : State) (a0 : Array Value) (hw : ∀ d ∈ own_ws, d.before a0 Z = true) (ws : List Jvm.Cond) (a1 : Addr) (a2 : Addr) (a4 : Addr) (k6 : ClassId) (p8 : Int32) (a19 : Addr) (k21 : ClassId) (h0 : Heap) (n0 : Nat) (O0 : Old Z n0 h0) (E_3 : Exa Z Z.heap a2 C_4) (F5 : Fld Z Z.heap a2 C_4 "value" "[B" (.ref a4)) (V7 : Arv Z Z.heap a4 k6 .byte (4 : Int32) [(.int (82 : Int32)), (.int (101 : Int32)), (.int (97 : Int32)), (.int (100 : Int32))] (.int (0 : Int32))) (S_9 : Sta Z Z.heap C_4 "COMPACT_STRINGS" "Z" (.int p8)) (hk10 : ¬ (p8 = (0 : Int32))) (F11 : Fld Z Z.heap a2 C_4 "coder" "B" (.int (0 : Int32))) (F16 : Fld Z h0 a1 C_2 "count" "I" (.int (0 : Int32))) (E_18 : Exa Z h0 a1 C_5) (F20 : Fld Z h0 a1 C_2 "value" "[B" (.ref a19)) (V22 : Arv Z h0 a19 k21 .byte (20 : Int32) [] (.int (0 : Int32))) (F23 : Fld Z h0 a1 C_2 "coder" "B" (.int (0 : Int32))) (E_29 : Exa Z h0 a19 "[B") (g_a19 : n0 ≤ a19) (hne36 : a1 ≠ a19) (g_a1 : n0 ≤ a1) :
    MetFree l M_7 (head1 (Jvm.Cond.code M_7 jdk_68_method_22_code 3 (some (.object "java/lang/AbstractStringBuilder")) :: ws) ({ frames := 3, cells := 0, slots := 0, locals := 47 } : Room)) (fun a U => a = #[(.ref a1), (.ref a2)] ∧ Z.Warmed39 U.vm ∧ U.heap = h0) (fun _ _ _ _ _ => True) (fun _ U o U' => ∃ v L, o = .returned v ∧ Q10_10 Z a1 a2 a4 k6 p8 a19 k21 h0 n0 v U'.heap L ∧ FrameEnd U o U' L ({ frames := 3, cells := 0, slots := 0, locals := 47 } : Room).cells ({ frames := 3, cells := 0, slots := 0, locals := 47 } : Room).slots) := by
  refine MetFree.of_bodySF (plainFor_of_name pn_2) hisR ?_
  intro p e s m args below meth c s₁ Bd hml0 hP hK
  obtain ⟨rfl, hZ, hh⟩ := hP
  have hx := Bd.exec
  have hby := Bd.bytes
  have hml : c.maxLocals = 3 := hml0
  have hown : s.vm.findClass "java/lang/AbstractStringBuilder" = some m.cls := findClass_of_methodNamed Bd.named
  have hnm := (name_of_methodNamed Bd.named Bd.method).1
  have X0 : Stand p l e ({ frames := 3, cells := 0, slots := 0, locals := 47 } : Room) s m #[(.ref a1), (.ref a2)] below meth c s₁ [] 0 0 := Stand.of_body Bd
  have e0 : s₁.heap = h0 := by rw [← hh, Bd.state]; rfl
  have N0 := Fr.nil n0
  have pre0 : ∀ t, Steps p.tables e below (s₁.setTop (mkF m 0 #[.val (.ref a1), .val (.ref a2), .unset] [])) t → Steps p.tables e below (s₁.setTop (entryFrame m #[(.ref a1), (.ref a2)] 3)) t := fun t k => castTop (ef_rm10_10 m a1 a2) k
  obtain ⟨cq12, kq12, q12a, q12b, q12c⟩ := isOf hZ e0 (Exa.ext O0.2 E_3)
  obtain ⟨_, _, ⟨T12, L12, k12, n12⟩, -, X12, ⟨Lc12, hQ12, l12, y12, z12⟩, st12⟩ := X0.virtualBack hx (y := M_2) (z := M_2) hown (mvT hZ (hw _ (gw 40 rfl))) (mvT hZ (hw _ (gw 41 rfl))) (notFace_of_selects (args := #[]) (mvT hZ (hw _ (gw 43 rfl)))) (mvT hZ (hw _ (gw 43 rfl))) (mvT hZ (hw _ (gw 42 rfl))) (by decide) (backOf (W := 0) (rm6_6 l Z a0 hw [] a2 a4 k6 p8 h0 n0  O0 F5 V7 E_3 S_9 hk10 F11) hZ (hw _ (gw 45 rfl)) (hw _ (gw 44 rfl)) (by decide) (by decide)) q12a q12c (g := (mkF m 10 #[.val (.ref a1), .val (.ref a2), .unset] [(.ref a2)])) rfl (by rw [hml]; rfl) (Steps.refl _) (argsL := []) (rest := []) (lenOf pd_2 rfl) rfl (by show 2 * 0 + _ ≤ _; exact Nat.le_of_eq rfl) (hb hby d10_10) (fun _ _ => ⟨rfl, e0, (by decide : 0 + 0 ≤ _), (by decide : 0 + 0 ≤ _)⟩)
  dsimp only [Pt.U, Pt.locs, Pt.cells, Pt.slots] at X12 l12 y12 z12 st12 hQ12
  subst l12 y12 z12
  obtain ⟨rfl, u14, u15⟩ := hQ12
  have N12 := Fr.app N0 u14
  obtain ⟨T17, X17, e17, st17⟩ := getF X12 hx hZ hown (host := "") (Or.inl (hw _ (gw 77 rfl))) Via.refl u15 F16 (g := (mkF m 16 #[.val (.ref a1), .val (.ref a2), .val (.int (4 : Int32))] [(.ref a1), (.ref a1)])) rfl rfl (hb hby d10_16)
  obtain ⟨cq24, q24, q24'⟩ := E_18.cell
  obtain ⟨_, _, ⟨T24, L24, k24, n24⟩, -, X24, ⟨Lc24, hQ24, l24, y24, z24⟩, st24⟩ := X17.privateBack hx (y := M_3) hown (mvT hZ (hw _ (gw 79 rfl))) (mvT hZ (hw _ (gw 80 rfl))) (own_selSelf (args := #[]) (mvT hZ (hw _ (gw 82 rfl))) (Cond.privateMethod_at (mvP hZ (hw _ (gw 81 rfl)) (args := #[]))) (mvT hZ (hw _ (gw 80 rfl))) (by decide)) (Cond.privateMethod_at (mvP hZ (hw _ (gw 81 rfl)) (args := #[]))) (mvT hZ (hw _ (gw 83 rfl))) (by decide) (backOf (W := 0) (rm11_11 l Z a0 hw [] a1 a19 k21 h0 n0  O0 F20 V22 F23) hZ (hw _ (gw 83 rfl)) (hw _ (gw 35 rfl)) (by decide) (by decide)) (g := (mkF m 21 #[.val (.ref a1), .val (.ref a2), .val (.int (4 : Int32))] [(.int (4 : Int32)), (.ref a1)])) rfl (by rw [hml]; rfl) (Steps.refl _) (a := a1) (by rw [e17]; exact q24) q24' (argsL := [(.int (4 : Int32))]) (rest := []) (lenOf pd_3 rfl) rfl (by show 2 * 0 + _ ≤ _; exact Nat.le_of_eq rfl) (hb hby d10_21) (fun _ _ => ⟨rfl, e17, (by decide : 0 + 0 ≤ _), (by decide : 0 + 0 ≤ _)⟩)
  dsimp only [Pt.U, Pt.locs, Pt.cells, Pt.slots] at X24 l24 y24 z24 st24 hQ24
  subst l24 y24 z24
  obtain ⟨rfl, u26, u27⟩ := hQ24
  have N24 := Fr.app N12 u26
  obtain ⟨T28, X28, e28, st28⟩ := getF X24 hx hZ hown (host := "") (Or.inl (hw _ (gw 77 rfl))) Via.refl u27 F16 (g := (mkF m 26 #[.val (.ref a1), .val (.ref a2), .val (.int (4 : Int32))] [(.ref a1), (.ref a1)])) rfl rfl (hb hby d10_26)
  obtain ⟨cq30, q30, q30'⟩ := E_18.cell
  obtain ⟨_, _, ⟨T30, L30, k30, n30⟩, -, X30, ⟨Lc30, hQ30, l30, y30, z30⟩, st30⟩ := X28.privateBack hx (y := M_6) hown (mvT hZ (hw _ (gw 84 rfl))) (mvT hZ (hw _ (gw 85 rfl))) (own_selSelf (args := #[]) (mvT hZ (hw _ (gw 87 rfl))) (Cond.privateMethod_at (mvP hZ (hw _ (gw 86 rfl)) (args := #[]))) (mvT hZ (hw _ (gw 85 rfl))) (by decide)) (Cond.privateMethod_at (mvP hZ (hw _ (gw 86 rfl)) (args := #[]))) (mvT hZ (hw _ (gw 88 rfl))) (by decide) (backOf (W := 0) (rm12_12 l Z a0 hw [] a1 a2 p8 a19 a4 k6 k21 h0 n0  O0 E_18 S_9 hk10 F23 E_3 F11 F20 F5 V7 V22 E_29 g_a19) hZ (hw _ (gw 88 rfl)) (hw _ (gw 35 rfl)) (by decide) (by decide)) (g := (mkF m 30 #[.val (.ref a1), .val (.ref a2), .val (.int (4 : Int32))] [(.ref a2), (.int (0 : Int32)), (.ref a1)])) rfl (by rw [hml]; rfl) (Steps.refl _) (a := a1) (by rw [e28]; exact q30) q30' (argsL := [(.int (0 : Int32)), (.ref a2)]) (rest := []) (lenOf pd_6 rfl) rfl (by show 2 * 0 + _ ≤ _; exact Nat.le_of_eq rfl) (hb hby d10_30) (fun _ _ => ⟨rfl, e28, (by decide : 0 + 0 ≤ _), (by decide : 0 + 0 ≤ _)⟩)
  dsimp only [Pt.U, Pt.locs, Pt.cells, Pt.slots] at X30 l30 y30 z30 st30 hQ30
  subst l30 y30 z30
  obtain ⟨rfl, u32, Ku33, u34, u35⟩ := hQ30
  have Ou33 : Old Z n0 T30.heap := O0.keep Ku33 (allS g_a19 all0)
  have N30 := Fr.app N24 u32
  have f37 : Fld Z T30.heap a1 C_2 "count" "I" (.int (0 : Int32)) := (F16.keep Ku33 (ninS hne36 nin0))
  obtain ⟨T38, X38, e38, st38⟩ := getF X30 hx hZ hown (host := "") (Or.inl (hw _ (gw 77 rfl))) Via.refl rfl f37 (g := (mkF m 35 #[.val (.ref a1), .val (.ref a2), .val (.int (4 : Int32))] [(.ref a1), (.ref a1)])) rfl rfl (hb hby d10_35)
  have f39 : Exa Z T30.heap a1 C_5 := (E_18.keep Ku33)
  obtain ⟨T40, h40, X40, e40, W40, st40⟩ := putF X38 hx hZ hown (host := "") (Or.inl (hw _ (gw 77 rfl))) Via.refl e38 f37 f39 (Or.inl (hw _ (gw 78 rfl))) (hw _ (gw 24 rfl)) (ty := .int) (by decide) rfl rfl (g := (mkF m 40 #[.val (.ref a1), .val (.ref a2), .val (.int (4 : Int32))] [(.int (4 : Int32)), (.ref a1)])) rfl rfl (hb hby d10_40)
  have O40 : Old Z n0 h40 := Ou33.wr W40 g_a1
  have Fw40 : Fld Z h40 a1 C_2 "count" "I" (.int (4 : Int32)) := Fld.same W40 f37
  have N40 := Fr.snoc X40 N30 g_a1
  obtain ⟨fs, hr, hrun, hended, hW, hsame⟩ := X40.leave (v := some (.ref a1)) (fun h => by rw [Bd.returns] at h; cases h)
  have f41 : Exa Z h40 a1 C_5 := (Exa.wr W40 f39)
  have f42 : Fld Z h40 a1 C_2 "coder" "B" (.int (0 : Int32)) := (Fld.other W40 (F23.keep Ku33 (ninS hne36 nin0)) (Or.inr (slot_ne (Or.inl (hw _ (gw 59 rfl))) (Or.inl (hw _ (gw 78 rfl))) (by decide) (t := .byte) (t' := .int) (by decide) (by decide))))
  have f43 : Fld Z h40 a1 C_2 "value" "[B" (.ref a19) := (Fld.other W40 (F20.keep Ku33 (ninS hne36 nin0)) (Or.inr (slot_ne (Or.inl (hw _ (gw 62 rfl))) (Or.inl (hw _ (gw 78 rfl))) (by decide) (t := (.array .byte)) (t' := .int) (by decide) (by decide))))
  have f44 : Exa Z h40 a19 "[B" := (Exa.wr W40 u34)
  have f45 : Arv Z h40 a19 k21 .byte (20 : Int32) [(.int (82 : Int32)), (.int (101 : Int32)), (.int (97 : Int32)), (.int (100 : Int32))] (.int (0 : Int32)) := (u35.other W40 (Ne.symm hne36))
  refine ⟨_, _, pre0 _ ?_, hrun, hended, _, _, rfl, ?_, ⟨_, rfl⟩, hW, hsame.mono (by decide) (by decide)⟩
  · show Steps p.tables e below (s₁.setTop (mkF m 0 #[.val (.ref a1), .val (.ref a2), .unset] [])) _
    refine XS.aloadN X0.here hx rfl (hb hby d10_0) rfl rfl ?_
    refine XS.ifnonnullYes X0.here hx rfl (pc0 := 1) (pc' := 9) rfl (hb hby d10_1) rfl (by decide) (by decide) ?_
    refine XS.aloadN X0.here hx rfl (hb hby d10_9) rfl rfl ?_
    refine st12.trans ?_
    refine XS.istoreN X12.here hx rfl (hb hby d10_13) rfl (l' := #[.val (.ref a1), .val (.ref a2), .val (.int (4 : Int32))]) rfl ?_
    refine XS.aloadN X12.here hx rfl (hb hby d10_14) rfl rfl ?_
    refine XS.aloadN X12.here hx rfl (hb hby d10_15) rfl rfl ?_
    refine st17 _ ?_
    refine XS.iloadN X17.here hx rfl (hb hby d10_19) rfl ?_
    show Steps p.tables e below (T17.setTop (mkF m 20 #[.val (.ref a1), .val (.ref a2), .val (.int (4 : Int32))] [(.int (4 : Int32)), (.int (0 : Int32)), (.ref a1)])) _
    refine XS.iadd X17.here hx rfl (hb hby d10_20) rfl ?_
    show Steps p.tables e below (T17.setTop (mkF m 21 #[.val (.ref a1), .val (.ref a2), .val (.int (4 : Int32))] [(.int ((0 : Int32) + (4 : Int32))), (.ref a1)])) _
    rw [(by decide +kernel : ((0 : Int32) + (4 : Int32)) = (4 : Int32))]
    refine st24.trans ?_
    refine XS.aloadN X24.here hx rfl (hb hby d10_24) rfl rfl ?_
    refine XS.aloadN X24.here hx rfl (hb hby d10_25) rfl rfl ?_
    refine st28 _ ?_
    refine XS.aloadN X28.here hx rfl (hb hby d10_29) rfl rfl ?_
    refine st30.trans ?_
    refine XS.aloadN X30.here hx rfl (hb hby d10_33) rfl rfl ?_
    refine XS.dup X30.here hx rfl (hb hby d10_34) rfl rfl ?_
    show Steps p.tables e below (T30.setTop (mkF m 35 #[.val (.ref a1), .val (.ref a2), .val (.int (4 : Int32))] [(.ref a1), (.ref a1)])) _
    refine st38 _ ?_
    refine XS.iloadN X38.here hx rfl (hb hby d10_38) rfl ?_
    refine XS.iadd X38.here hx rfl (hb hby d10_39) rfl ?_
    show Steps p.tables e below (T38.setTop (mkF m 40 #[.val (.ref a1), .val (.ref a2), .val (.int (4 : Int32))] [(.int ((0 : Int32) + (4 : Int32))), (.ref a1)])) _
    rw [(by decide +kernel : ((0 : Int32) + (4 : Int32)) = (4 : Int32))]
    refine st40 _ ?_
    refine XS.aloadN X40.here hx rfl (hb hby d10_43) rfl rfl ?_
    show Steps p.tables e below (T40.setTop (mkF m 44 #[.val (.ref a1), .val (.ref a2), .val (.int (4 : Int32))] [(.ref a1)])) _
    jvm_step X40.here [X40.here.top, hx, (hb hby d10_44), X40.method', Bd.returns, Value.isRef, FieldType.isReference]
    first | (intro acts; rw [hr _ acts rfl rfl rfl]) | rw [hr _ _ rfl rfl rfl]
    exact Steps.refl _
  · show Q10_10 Z _ _ _ _ _ _ _ h0 n0 _ T40.heap _
    rw [e40]
    exact ⟨rfl, N40, (((Keep.refl h0 [a19, a1]).trans Ku33 (allS (Or.inl (List.mem_of_getElem? (i := 0) rfl)) all0)).wr W40 (Or.inl (List.mem_of_getElem? (i := 1) rfl))), f41, f42, Fw40, f43, f44, f45⟩
theorem ef_rm9_9 (m : MethodId) (x0 : Addr) (x1 : Addr) : entryFrame m #[(.ref x0), (.ref x1)] 2 = mkF m 0 #[.val (.ref x0), .val (.ref x1)] [] := by first | (simp [entryFrame, mkF, argsToLocals, Value.category]; done) | rfl
def Q9_9 (Z : State) (a1 : Addr) (a2 : Addr) (a5 : Addr) (k7 : ClassId) (p9 : Int32) (a14 : Addr) (k16 : ClassId) (h0 : Heap) (n0 : Nat) (v : Option Value) (h : Heap) (L : List Loc) : Prop := (v = some (.ref a1) ∧ Fr n0 L ∧ Keep h0 h [a14, a1] ∧ Exa Z h a1 C_5 ∧ Fld Z h a1 C_2 "coder" "B" (.int (0 : Int32)) ∧ Fld Z h a1 C_2 "count" "I" (.int (4 : Int32)) ∧ Fld Z h a1 C_2 "value" "[B" (.ref a14) ∧ Exa Z h a14 "[B" ∧ Arv Z h a14 k16 .byte (20 : Int32) [(.int (82 : Int32)), (.int (101 : Int32)), (.int (97 : Int32)), (.int (100 : Int32))] (.int (0 : Int32)))
set_option maxRecDepth 65536 in
set_option maxHeartbeats 40000000 in
theorem rm9_9 (l : Launch) (Z : State) (a0 : Array Value) (hw : ∀ d ∈ own_ws, d.before a0 Z = true) (ws : List Jvm.Cond) (a1 : Addr) (a2 : Addr) (a5 : Addr) (k7 : ClassId) (p9 : Int32) (a14 : Addr) (k16 : ClassId) (h0 : Heap) (n0 : Nat) (O0 : Old Z n0 h0) (E_3 : Exa Z h0 a1 C_5) (E_4 : Exa Z Z.heap a2 C_4) (F6 : Fld Z Z.heap a2 C_4 "value" "[B" (.ref a5)) (V8 : Arv Z Z.heap a5 k7 .byte (4 : Int32) [(.int (82 : Int32)), (.int (101 : Int32)), (.int (97 : Int32)), (.int (100 : Int32))] (.int (0 : Int32))) (S_10 : Sta Z Z.heap C_4 "COMPACT_STRINGS" "Z" (.int p9)) (hk11 : ¬ (p9 = (0 : Int32))) (F12 : Fld Z Z.heap a2 C_4 "coder" "B" (.int (0 : Int32))) (F13 : Fld Z h0 a1 C_2 "count" "I" (.int (0 : Int32))) (F15 : Fld Z h0 a1 C_2 "value" "[B" (.ref a14)) (V17 : Arv Z h0 a14 k16 .byte (20 : Int32) [] (.int (0 : Int32))) (F18 : Fld Z h0 a1 C_2 "coder" "B" (.int (0 : Int32))) (E_19 : Exa Z h0 a14 "[B") (hne20 : a1 ≠ a14) (g_a14 : n0 ≤ a14) (g_a1 : n0 ≤ a1) :
    MetFree l M_8 (head1 (Jvm.Cond.code M_8 jdk_67_method_7_code 2 (some (.object "java/lang/StringBuilder")) :: ws) ({ frames := 4, cells := 0, slots := 0, locals := 61 } : Room)) (fun a U => a = #[(.ref a1), (.ref a2)] ∧ Z.Warmed39 U.vm ∧ U.heap = h0) (fun _ _ _ _ _ => True) (fun _ U o U' => ∃ v L, o = .returned v ∧ Q9_9 Z a1 a2 a5 k7 p9 a14 k16 h0 n0 v U'.heap L ∧ FrameEnd U o U' L ({ frames := 4, cells := 0, slots := 0, locals := 61 } : Room).cells ({ frames := 4, cells := 0, slots := 0, locals := 61 } : Room).slots) := by
  refine MetFree.of_bodySF (plainFor_of_name pn_3) hisR ?_
  intro p e s m args below meth c s₁ Bd hml0 hP hK
  obtain ⟨rfl, hZ, hh⟩ := hP
  have hx := Bd.exec
  have hby := Bd.bytes
  have hml : c.maxLocals = 2 := hml0
  have hown : s.vm.findClass "java/lang/StringBuilder" = some m.cls := findClass_of_methodNamed Bd.named
  have hnm := (name_of_methodNamed Bd.named Bd.method).1
  have X0 : Stand p l e ({ frames := 4, cells := 0, slots := 0, locals := 61 } : Room) s m #[(.ref a1), (.ref a2)] below meth c s₁ [] 0 0 := Stand.of_body Bd
  have e0 : s₁.heap = h0 := by rw [← hh, Bd.state]; rfl
  have N0 := Fr.nil n0
  have pre0 : ∀ t, Steps p.tables e below (s₁.setTop (mkF m 0 #[.val (.ref a1), .val (.ref a2)] [])) t → Steps p.tables e below (s₁.setTop (entryFrame m #[(.ref a1), (.ref a2)] 2)) t := fun t k => castTop (ef_rm9_9 m a1 a2) k
  obtain ⟨_, _, ⟨T21, L21, k21, n21⟩, -, X21, ⟨Lc21, hQ21, l21, y21, z21⟩, st21⟩ := superBack X0 hx hZ (y := M_7) hown (hw _ (gw 74 rfl)) (own_sameSelf (y := M_7) (y' := M_3) rfl (hw _ (gw 82 rfl)) (hw _ (gw 65 rfl)) (by decide)) (hw _ (gw 65 rfl)) (hw _ (gw 75 rfl)) (by decide) (backOf (W := 0) (rm10_10 l Z a0 hw [] a1 a2 a5 k7 p9 a14 k16 h0 n0  O0 E_4 F6 V8 S_10 hk11 F12 F13 E_3 F15 V17 F18 E_19 g_a14 hne20 g_a1) hZ (hw _ (gw 76 rfl)) (hw _ (gw 35 rfl)) (by decide) (by decide)) e0 (Ins.self E_3) (g := (mkF m 2 #[.val (.ref a1), .val (.ref a2)] [(.ref a2), (.ref a1)])) rfl (by rw [hml]; rfl) (hw _ (gw 76 rfl)) (argsL := [(.ref a2)]) (rest := []) (lenOf pd_7 rfl) rfl (by show 2 * 0 + _ ≤ _; exact Nat.le_of_eq rfl) (hb hby d9_2) (fun _ _ => ⟨rfl, e0, (by decide : 0 + 0 ≤ _), (by decide : 0 + 0 ≤ _)⟩)
  dsimp only [Pt.U, Pt.locs, Pt.cells, Pt.slots] at X21 l21 y21 z21 st21 hQ21
  subst l21 y21 z21
  obtain ⟨rfl, u23, Ku24, u25, u26, u27, u28, u29, u30⟩ := hQ21
  have Ou24 : Old Z n0 T21.heap := O0.keep Ku24 (allS g_a14 (allS g_a1 all0))
  have N21 := Fr.app N0 u23
  obtain ⟨fs, hr, hrun, hended, hW, hsame⟩ := X21.leave (v := some (.ref a1)) (fun h => by rw [Bd.returns] at h; cases h)
  refine ⟨_, _, pre0 _ ?_, hrun, hended, _, _, rfl, ?_, ⟨_, rfl⟩, hW, hsame.mono (by decide) (by decide)⟩
  · show Steps p.tables e below (s₁.setTop (mkF m 0 #[.val (.ref a1), .val (.ref a2)] [])) _
    refine XS.aloadN X0.here hx rfl (hb hby d9_0) rfl rfl ?_
    refine XS.aloadN X0.here hx rfl (hb hby d9_1) rfl rfl ?_
    refine st21.trans ?_
    refine XS.pop X21.here hx rfl (hb hby d9_5) rfl rfl ?_
    refine XS.aloadN X21.here hx rfl (hb hby d9_6) rfl rfl ?_
    show Steps p.tables e below (T21.setTop (mkF m 7 #[.val (.ref a1), .val (.ref a2)] [(.ref a1)])) _
    jvm_step X21.here [X21.here.top, hx, (hb hby d9_7), X21.method', Bd.returns, Value.isRef, FieldType.isReference]
    first | (intro acts; rw [hr _ acts rfl rfl rfl]) | rw [hr _ _ rfl rfl rfl]
    exact Steps.refl _
  · show Q9_9 Z _ _ _ _ _ _ _ h0 n0 _ T21.heap _
    exact ⟨rfl, N21, ((Keep.refl h0 [a14, a1]).trans Ku24 (allS (Or.inl (List.mem_of_getElem? (i := 0) rfl)) (allS (Or.inl (List.mem_of_getElem? (i := 1) rfl)) all0))), u25, u26, u27, u28, u29, u30⟩
theorem ef_rm8_8 (m : MethodId) (x0 : Addr) (x1 : Addr) : entryFrame m #[(.ref x0), (.ref x1)] 2 = mkF m 0 #[.val (.ref x0), .val (.ref x1)] [] := by first | (simp [entryFrame, mkF, argsToLocals, Value.category]; done) | rfl
def Q8_8 (Z : State) (a1 : Addr) (a2 : Addr) (a5 : Addr) (k7 : ClassId) (p9 : Int32) (a14 : Addr) (k16 : ClassId) (h0 : Heap) (n0 : Nat) (v : Option Value) (h : Heap) (L : List Loc) : Prop := (v = some (.ref a1) ∧ Fr n0 L ∧ Keep h0 h [a14, a1] ∧ Exa Z h a1 C_5 ∧ Fld Z h a1 C_2 "coder" "B" (.int (0 : Int32)) ∧ Fld Z h a1 C_2 "count" "I" (.int (4 : Int32)) ∧ Fld Z h a1 C_2 "value" "[B" (.ref a14) ∧ Exa Z h a14 "[B" ∧ Arv Z h a14 k16 .byte (20 : Int32) [(.int (82 : Int32)), (.int (101 : Int32)), (.int (97 : Int32)), (.int (100 : Int32))] (.int (0 : Int32)))
set_option maxRecDepth 65536 in
set_option maxHeartbeats 40000000 in
theorem rm8_8 (l : Launch) (Z : State) (a0 : Array Value) (hw : ∀ d ∈ own_ws, d.before a0 Z = true) (ws : List Jvm.Cond) (a1 : Addr) (a2 : Addr) (a5 : Addr) (k7 : ClassId) (p9 : Int32) (a14 : Addr) (k16 : ClassId) (h0 : Heap) (n0 : Nat) (O0 : Old Z n0 h0) (E_3 : Exa Z h0 a1 C_5) (E_4 : Exa Z Z.heap a2 C_4) (F6 : Fld Z Z.heap a2 C_4 "value" "[B" (.ref a5)) (V8 : Arv Z Z.heap a5 k7 .byte (4 : Int32) [(.int (82 : Int32)), (.int (101 : Int32)), (.int (97 : Int32)), (.int (100 : Int32))] (.int (0 : Int32))) (S_10 : Sta Z Z.heap C_4 "COMPACT_STRINGS" "Z" (.int p9)) (hk11 : ¬ (p9 = (0 : Int32))) (F12 : Fld Z Z.heap a2 C_4 "coder" "B" (.int (0 : Int32))) (F13 : Fld Z h0 a1 C_2 "count" "I" (.int (0 : Int32))) (F15 : Fld Z h0 a1 C_2 "value" "[B" (.ref a14)) (V17 : Arv Z h0 a14 k16 .byte (20 : Int32) [] (.int (0 : Int32))) (F18 : Fld Z h0 a1 C_2 "coder" "B" (.int (0 : Int32))) (E_19 : Exa Z h0 a14 "[B") (hne20 : a1 ≠ a14) (g_a14 : n0 ≤ a14) (g_a1 : n0 ≤ a1) :
    MetFree l M_9 (head1 (Jvm.Cond.code M_9 jdk_67_method_80_code 2 (some (.object "java/lang/AbstractStringBuilder")) :: ws) ({ frames := 5, cells := 0, slots := 0, locals := 74 } : Room)) (fun a U => a = #[(.ref a1), (.ref a2)] ∧ Z.Warmed39 U.vm ∧ U.heap = h0) (fun _ _ _ _ _ => True) (fun _ U o U' => ∃ v L, o = .returned v ∧ Q8_8 Z a1 a2 a5 k7 p9 a14 k16 h0 n0 v U'.heap L ∧ FrameEnd U o U' L ({ frames := 5, cells := 0, slots := 0, locals := 74 } : Room).cells ({ frames := 5, cells := 0, slots := 0, locals := 74 } : Room).slots) := by
  refine MetFree.of_bodySF (plainFor_of_name pn_3) hisR ?_
  intro p e s m args below meth c s₁ Bd hml0 hP hK
  obtain ⟨rfl, hZ, hh⟩ := hP
  have hx := Bd.exec
  have hby := Bd.bytes
  have hml : c.maxLocals = 2 := hml0
  have hown : s.vm.findClass "java/lang/StringBuilder" = some m.cls := findClass_of_methodNamed Bd.named
  have hnm := (name_of_methodNamed Bd.named Bd.method).1
  have X0 : Stand p l e ({ frames := 5, cells := 0, slots := 0, locals := 74 } : Room) s m #[(.ref a1), (.ref a2)] below meth c s₁ [] 0 0 := Stand.of_body Bd
  have e0 : s₁.heap = h0 := by rw [← hh, Bd.state]; rfl
  have N0 := Fr.nil n0
  have pre0 : ∀ t, Steps p.tables e below (s₁.setTop (mkF m 0 #[.val (.ref a1), .val (.ref a2)] [])) t → Steps p.tables e below (s₁.setTop (entryFrame m #[(.ref a1), (.ref a2)] 2)) t := fun t k => castTop (ef_rm8_8 m a1 a2) k
  obtain ⟨cq21, kq21, q21a, q21b, q21c⟩ := isOf hZ e0 E_3
  obtain ⟨_, _, ⟨T21, L21, k21, n21⟩, -, X21, ⟨Lc21, hQ21, l21, y21, z21⟩, st21⟩ := X0.virtualBack hx (y := M_8) (z := M_8) hown (mvT hZ (hw _ (gw 69 rfl))) (mvT hZ (hw _ (gw 70 rfl))) (notFace_of_selects (args := #[]) (mvT hZ (hw _ (gw 72 rfl)))) (mvT hZ (hw _ (gw 72 rfl))) (mvT hZ (hw _ (gw 71 rfl))) (by decide) (backOf (W := 0) (rm9_9 l Z a0 hw [] a1 a2 a5 k7 p9 a14 k16 h0 n0  O0 E_3 E_4 F6 V8 S_10 hk11 F12 F13 F15 V17 F18 E_19 hne20 g_a14 g_a1) hZ (hw _ (gw 73 rfl)) (hw _ (gw 25 rfl)) (by decide) (by decide)) q21a q21c (g := (mkF m 2 #[.val (.ref a1), .val (.ref a2)] [(.ref a2), (.ref a1)])) rfl (by rw [hml]; rfl) (Steps.refl _) (argsL := [(.ref a2)]) (rest := []) (lenOf pd_8 rfl) rfl (by show 2 * 0 + _ ≤ _; exact Nat.le_of_eq rfl) (hb hby d8_2) (fun _ _ => ⟨rfl, e0, (by decide : 0 + 0 ≤ _), (by decide : 0 + 0 ≤ _)⟩)
  dsimp only [Pt.U, Pt.locs, Pt.cells, Pt.slots] at X21 l21 y21 z21 st21 hQ21
  subst l21 y21 z21
  obtain ⟨rfl, u23, Ku24, u25, u26, u27, u28, u29, u30⟩ := hQ21
  have Ou24 : Old Z n0 T21.heap := O0.keep Ku24 (allS g_a14 (allS g_a1 all0))
  have N21 := Fr.app N0 u23
  obtain ⟨fs, hr, hrun, hended, hW, hsame⟩ := X21.leave (v := some (.ref a1)) (fun h => by rw [Bd.returns] at h; cases h)
  refine ⟨_, _, pre0 _ ?_, hrun, hended, _, _, rfl, ?_, ⟨_, rfl⟩, hW, hsame.mono (by decide) (by decide)⟩
  · show Steps p.tables e below (s₁.setTop (mkF m 0 #[.val (.ref a1), .val (.ref a2)] [])) _
    refine XS.aloadN X0.here hx rfl (hb hby d8_0) rfl rfl ?_
    refine XS.aloadN X0.here hx rfl (hb hby d8_1) rfl rfl ?_
    refine st21.trans ?_
    show Steps p.tables e below (T21.setTop (mkF m 5 #[.val (.ref a1), .val (.ref a2)] [(.ref a1)])) _
    jvm_step X21.here [X21.here.top, hx, (hb hby d8_5), X21.method', Bd.returns, Value.isRef, FieldType.isReference]
    first | (intro acts; rw [hr _ acts rfl rfl rfl]) | rw [hr _ _ rfl rfl rfl]
    exact Steps.refl _
  · show Q8_8 Z _ _ _ _ _ _ _ h0 n0 _ T21.heap _
    exact ⟨rfl, N21, ((Keep.refl h0 [a14, a1]).trans Ku24 (allS (Or.inl (List.mem_of_getElem? (i := 0) rfl)) (allS (Or.inl (List.mem_of_getElem? (i := 1) rfl)) all0))), u25, u26, u27, u28, u29, u30⟩
theorem ef_rm4_5 (m : MethodId) (x0 : Addr) (x1 : Addr) : entryFrame m #[(.ref x0), (.ref x1)] 5 = mkF m 0 #[.val (.ref x0), .val (.ref x1), .unset, .unset, .unset] [] := by first | (simp [entryFrame, mkF, argsToLocals, Value.category]; done) | rfl
def Q4_5 (Z : State) (a1 : Addr) (a2 : Addr) (a5 : Addr) (k7 : ClassId) (p9 : Int32) (h0 : Heap) (n0 : Nat) (v : Option Value) (h : Heap) (L : List Loc) : Prop := (∃ (b26 : Addr) (k26 : ClassId), v = none ∧ Fr n0 L ∧ h0.size ≤ b26 ∧ b26 < h.size ∧ Keep h0 h [a1] ∧ Exa Z h a1 C_5 ∧ Fld Z h a1 C_2 "coder" "B" (.int (0 : Int32)) ∧ Fld Z h a1 C_2 "count" "I" (.int (4 : Int32)) ∧ Fld Z h a1 C_2 "value" "[B" (.ref b26) ∧ Exa Z h b26 "[B" ∧ Arv Z h b26 k26 .byte (20 : Int32) [(.int (82 : Int32)), (.int (101 : Int32)), (.int (97 : Int32)), (.int (100 : Int32))] (.int (0 : Int32)))
set_option maxRecDepth 65536 in
set_option maxHeartbeats 40000000 in
theorem rm4_5 (l : Launch) (Z : State) (a0 : Array Value) (hw : ∀ d ∈ own_ws, d.before a0 Z = true) (ws : List Jvm.Cond) (a1 : Addr) (a2 : Addr) (a5 : Addr) (k7 : ClassId) (p9 : Int32) (h0 : Heap) (n0 : Nat) (O0 : Old Z n0 h0) (E_4 : Exa Z Z.heap a2 C_4) (F6 : Fld Z Z.heap a2 C_4 "value" "[B" (.ref a5)) (V8 : Arv Z Z.heap a5 k7 .byte (4 : Int32) [(.int (82 : Int32)), (.int (101 : Int32)), (.int (97 : Int32)), (.int (100 : Int32))] (.int (0 : Int32))) (S_10 : Sta Z Z.heap C_4 "COMPACT_STRINGS" "Z" (.int p9)) (hk11 : ¬ (p9 = (0 : Int32))) (F12 : Fld Z Z.heap a2 C_4 "coder" "B" (.int (0 : Int32))) (E_21 : Exa Z h0 a1 C_5) (F22 : Fld Z h0 a1 C_2 "coder" "B" (.int (0 : Int32))) (F23 : Fld Z h0 a1 C_2 "count" "I" (.int (0 : Int32))) (F24 : Fld Z h0 a1 C_2 "value" "[B" .null) (g_a1 : n0 ≤ a1) (lt_a1 : a1 < h0.size) :
    MetFree l M_10 (head1 (Jvm.Cond.code M_10 jdk_68_method_3_code 5 none :: ws) ({ frames := 6, cells := 1, slots := 20, locals := 87 } : Room)) (fun a U => a = #[(.ref a1), (.ref a2)] ∧ Z.Warmed39 U.vm ∧ U.heap = h0) (fun _ _ _ _ _ => True) (fun _ U o U' => ∃ v L, o = .returned v ∧ Q4_5 Z a1 a2 a5 k7 p9 h0 n0 v U'.heap L ∧ FrameEnd U o U' L ({ frames := 6, cells := 1, slots := 20, locals := 87 } : Room).cells ({ frames := 6, cells := 1, slots := 20, locals := 87 } : Room).slots) := by
  refine MetFree.of_bodySF (plainFor_of_name pn_2) hisR ?_
  intro p e s m args below meth c s₁ Bd hml0 hP hK
  obtain ⟨rfl, hZ, hh⟩ := hP
  have hx := Bd.exec
  have hby := Bd.bytes
  have hml : c.maxLocals = 5 := hml0
  have hown : s.vm.findClass "java/lang/AbstractStringBuilder" = some m.cls := findClass_of_methodNamed Bd.named
  have hnm := (name_of_methodNamed Bd.named Bd.method).1
  have X0 : Stand p l e ({ frames := 6, cells := 1, slots := 20, locals := 87 } : Room) s m #[(.ref a1), (.ref a2)] below meth c s₁ [] 0 0 := Stand.of_body Bd
  have e0 : s₁.heap = h0 := by rw [← hh, Bd.state]; rfl
  have N0 := Fr.nil n0
  have pre0 : ∀ t, Steps p.tables e below (s₁.setTop (mkF m 0 #[.val (.ref a1), .val (.ref a2), .unset, .unset, .unset] [])) t → Steps p.tables e below (s₁.setTop (entryFrame m #[(.ref a1), (.ref a2)] 5)) t := fun t k => castTop (ef_rm4_5 m a1 a2) k
  obtain ⟨T3, X3, e3, st3⟩ := initO X0 hx hZ hown (hw _ (gw 37 rfl)) (hw _ (gw 38 rfl)) (hw _ (gw 39 rfl)) e0 (g := (mkF m 1 #[.val (.ref a1), .val (.ref a2), .unset, .unset, .unset] [(.ref a1)])) rfl (by rw [hml]; rfl) rfl (hb hby d4_1) (by decide) (W := 0) (by show 2 * 0 + _ ≤ _; exact Nat.le_of_eq rfl) (by decide)
  obtain ⟨cq13, kq13, q13a, q13b, q13c⟩ := isOf hZ e3 (Exa.ext O0.2 E_4)
  obtain ⟨_, _, ⟨T13, L13, k13, n13⟩, -, X13, ⟨Lc13, hQ13, l13, y13, z13⟩, st13⟩ := X3.virtualBack hx (y := M_2) (z := M_2) hown (mvT hZ (hw _ (gw 40 rfl))) (mvT hZ (hw _ (gw 41 rfl))) (notFace_of_selects (args := #[]) (mvT hZ (hw _ (gw 43 rfl)))) (mvT hZ (hw _ (gw 43 rfl))) (mvT hZ (hw _ (gw 42 rfl))) (by decide) (backOf (W := 0) (rm6_6 l Z a0 hw [] a2 a5 k7 p9 h0 n0  O0 F6 V8 E_4 S_10 hk11 F12) hZ (hw _ (gw 45 rfl)) (hw _ (gw 44 rfl)) (by decide) (by decide)) q13a q13c (g := (mkF m 5 #[.val (.ref a1), .val (.ref a2), .unset, .unset, .unset] [(.ref a2)])) rfl (by rw [hml]; rfl) (Steps.refl _) (argsL := []) (rest := []) (lenOf pd_2 rfl) rfl (by show 2 * 0 + _ ≤ _; exact Nat.le_of_eq rfl) (hb hby d4_5) (fun _ _ => ⟨rfl, e3, (by decide : 0 + 0 ≤ _), (by decide : 0 + 0 ≤ _)⟩)
  dsimp only [Pt.U, Pt.locs, Pt.cells, Pt.slots] at X13 l13 y13 z13 st13 hQ13
  subst l13 y13 z13
  obtain ⟨rfl, u15, u16⟩ := hQ13
  have N13 := Fr.app N0 u15
  obtain ⟨cq17, kq17, q17a, q17b, q17c⟩ := isOf hZ u16 (Exa.ext O0.2 E_4)
  obtain ⟨_, _, ⟨T17, L17, k17, n17⟩, -, X17, ⟨Lc17, hQ17, l17, y17, z17⟩, st17⟩ := X13.virtualBack hx (y := M_1) (z := M_1) hown (mvT hZ (hw _ (gw 57 rfl))) (mvT hZ (hw _ (gw 49 rfl))) (notFace_of_selects (args := #[]) (mvT hZ (hw _ (gw 51 rfl)))) (mvT hZ (hw _ (gw 51 rfl))) (mvT hZ (hw _ (gw 50 rfl))) (by decide) (backOf (W := 0) (rm7_7 l Z a0 hw [] a2 p9 h0 n0  O0 S_10 hk11 F12) hZ (hw _ (gw 52 rfl)) (hw _ (gw 44 rfl)) (by decide) (by decide)) q17a q17c (g := (mkF m 26 #[.val (.ref a1), .val (.ref a2), .val (.int (4 : Int32)), .val (.int (20 : Int32)), .unset] [(.ref a2)])) rfl (by rw [hml]; rfl) (Steps.refl _) (argsL := []) (rest := []) (lenOf pd_1 rfl) rfl (by show 2 * 0 + _ ≤ _; exact Nat.le_of_eq rfl) (hb hby d4_26) (fun _ _ => ⟨rfl, u16, (by decide : 0 + 0 ≤ _), (by decide : 0 + 0 ≤ _)⟩)
  dsimp only [Pt.U, Pt.locs, Pt.cells, Pt.slots] at X17 l17 y17 z17 st17 hQ17
  subst l17 y17 z17
  obtain ⟨rfl, u19, u20⟩ := hQ17
  have N17 := Fr.app N13 u19
  obtain ⟨T25, h25, X25, e25, W25, st25⟩ := putFN X17 hx hZ hown (hw _ (gw 58 rfl)) Via.refl u20 F22 E_21 (Or.inl (hw _ (gw 59 rfl))) (hw _ (gw 24 rfl)) (ty := .byte) (v' := (.int (0 : Int32))) (by decide) (by exact congrArg Value.int (by decide +kernel : (nar .byte (0 : Int32)) = (0 : Int32))) ((by decide +kernel : (nar .byte (0 : Int32)) = (0 : Int32)) ▸ fits_nar_byte _) (g := (mkF m 34 #[.val (.ref a1), .val (.ref a2), .val (.int (4 : Int32)), .val (.int (20 : Int32)), .val (.int (0 : Int32))] [(.int (0 : Int32)), (.ref a1)])) rfl rfl (hb hby d4_34)
  have O25 : Old Z n0 h25 := O0.wr W25 g_a1
  have Fw25 : Fld Z h25 a1 C_2 "coder" "B" (.int (0 : Int32)) := Fld.same W25 F22
  have N25 := Fr.snoc X25 N17 g_a1
  obtain ⟨T26, h26, k26, X26, e26, E26, A26, Ex26, st26⟩ := newPE X25 hx hZ (hw _ (gw 60 rfl)) e25 (g := (mkF m 44 #[.val (.ref a1), .val (.ref a2), .val (.int (4 : Int32)), .val (.int (20 : Int32)), .val (.int (0 : Int32))] [(.int (20 : Int32)), (.ref a1)])) rfl (hb hby d4_44) rfl (by decide +kernel) (cap := 20) (by decide +kernel) (by decide) (by decide) (by decide) (ad := "[B") (by decide +kernel)
  obtain ⟨b26, g26⟩ : ∃ z, z = h25.size := ⟨_, rfl⟩
  rw [← g26] at A26 Ex26 st26
  have O26 : Old Z n0 h26 := O25.ext E26
  have bd_b26 : h25.size ≤ b26 := Nat.le_of_eq g26.symm
  have g_b26 : n0 ≤ b26 := Nat.le_trans (own_z O25) bd_b26
  have sz_b26 : h0.size ≤ b26 := Nat.le_trans (Keep.of_wr W25).1 bd_b26
  have lt_b26 : b26 < h26.size := A26.lt
  have V26 : Arv Z h26 b26 k26 .byte (20 : Int32) [] (.int (0 : Int32)) := Arv.new A26 (by decide +kernel)
  have f27 : Fld Z h26 a1 C_2 "value" "[B" .null := (Fld.ext E26 (Fld.other W25 F24 (Or.inr (slot_ne (Or.inl (hw _ (gw 62 rfl))) (Or.inl (hw _ (gw 59 rfl))) (by decide) (t := (.array .byte)) (t' := .byte) (by decide) (by decide)))))
  have f28 : Exa Z h26 a1 C_5 := (Exa.ext E26 (Exa.wr W25 E_21))
  obtain ⟨T29, h29, X29, e29, W29, st29⟩ := putF X26 hx hZ hown (host := "") (Or.inl (hw _ (gw 61 rfl))) Via.refl e26 f27 f28 (Or.inl (hw _ (gw 62 rfl))) (hw _ (gw 24 rfl)) (ty := (.array .byte)) (by decide) rfl rfl (g := (mkF m 53 #[.val (.ref a1), .val (.ref a2), .val (.int (4 : Int32)), .val (.int (20 : Int32)), .val (.int (0 : Int32))] [(.ref b26), (.ref a1)])) rfl rfl (hb hby d4_53)
  have O29 : Old Z n0 h29 := O26.wr W29 g_a1
  have Fw29 : Fld Z h29 a1 C_2 "value" "[B" (.ref b26) := Fld.same W29 f27
  have N29 := Fr.snoc X29 N25 g_a1
  have f30 : Exa Z h29 a1 C_5 := (Exa.wr W29 f28)
  have f31 : Fld Z h29 a1 C_2 "count" "I" (.int (0 : Int32)) := (Fld.other W29 (Fld.ext E26 (Fld.other W25 F23 (Or.inr (slot_ne (Or.inl (hw _ (gw 78 rfl))) (Or.inl (hw _ (gw 59 rfl))) (by decide) (t := .int) (t' := .byte) (by decide) (by decide))))) (Or.inr (slot_ne (Or.inl (hw _ (gw 78 rfl))) (Or.inl (hw _ (gw 62 rfl))) (by decide) (t := .int) (t' := (.array .byte)) (by decide) (by decide))))
  have f32 : Arv Z h29 b26 k26 .byte (20 : Int32) [] (.int (0 : Int32)) := (V26.other W29 (Ne.symm (Nat.ne_of_lt (Nat.lt_of_lt_of_le (Nat.lt_of_lt_of_le lt_a1 (Keep.of_wr W25).1) bd_b26))))
  have f33 : Fld Z h29 a1 C_2 "coder" "B" (.int (0 : Int32)) := (Fld.other W29 (Fld.ext E26 Fw25) (Or.inr (slot_ne (Or.inl (hw _ (gw 59 rfl))) (Or.inl (hw _ (gw 62 rfl))) (by decide) (t := .byte) (t' := (.array .byte)) (by decide) (by decide))))
  have f34 : Exa Z h29 b26 "[B" := (Exa.wr W29 Ex26)
  obtain ⟨cq35, kq35, q35a, q35b, q35c⟩ := isOf hZ e29 f30
  obtain ⟨_, _, ⟨T35, L35, k35, n35⟩, -, X35, ⟨Lc35, hQ35, l35, y35, z35⟩, st35⟩ := X29.virtualBack hx (y := M_7) (z := M_9) hown (mvT hZ (hw _ (gw 63 rfl))) (mvT hZ (hw _ (gw 64 rfl))) (own_notFace (args := #[]) (y' := M_3) rfl (mvT hZ (hw _ (gw 82 rfl)))) (mvT hZ (hw _ (gw 66 rfl))) (mvT hZ (hw _ (gw 67 rfl))) (by decide) (backOf (W := 0) (rm8_8 l Z a0 hw [] a1 a2 a5 k7 p9 b26 k26 h29 n0  O29 f30 E_4 F6 V8 S_10 hk11 F12 f31 Fw29 f32 f33 f34 (Nat.ne_of_lt (Nat.lt_of_lt_of_le (Nat.lt_of_lt_of_le lt_a1 (Keep.of_wr W25).1) bd_b26)) g_b26 g_a1) hZ (hw _ (gw 68 rfl)) (hw _ (gw 25 rfl)) (by decide) (by decide)) q35a q35c (g := (mkF m 58 #[.val (.ref a1), .val (.ref a2), .val (.int (4 : Int32)), .val (.int (20 : Int32)), .val (.int (0 : Int32))] [(.ref a2), (.ref a1)])) rfl (by rw [hml]; rfl) (Steps.refl _) (argsL := [(.ref a2)]) (rest := []) (lenOf pd_7 rfl) rfl (by show 2 * 0 + _ ≤ _; exact Nat.le_of_eq rfl) (hb hby d4_58) (fun _ _ => ⟨rfl, e29, (by decide : 1 + 0 ≤ _), (by decide : 20 + 0 ≤ _)⟩)
  dsimp only [Pt.U, Pt.locs, Pt.cells, Pt.slots] at X35 l35 y35 z35 st35 hQ35
  subst l35 y35 z35
  obtain ⟨rfl, u37, Ku38, u39, u40, u41, u42, u43, u44⟩ := hQ35
  have Ou38 : Old Z n0 T35.heap := O29.keep Ku38 (allS g_b26 (allS g_a1 all0))
  have N35 := Fr.app N29 u37
  obtain ⟨fs, hr, hrun, hended, hW, hsame⟩ := X35.leave (v := none) (fun _ => rfl)
  refine ⟨_, _, pre0 _ ?_, hrun, hended, _, _, rfl, ?_, ⟨_, rfl⟩, hW, hsame.mono (by decide) (by decide)⟩
  · show Steps p.tables e below (s₁.setTop (mkF m 0 #[.val (.ref a1), .val (.ref a2), .unset, .unset, .unset] [])) _
    refine XS.aloadN X0.here hx rfl (hb hby d4_0) rfl rfl ?_
    refine st3 _ ?_
    refine XS.aloadN X3.here hx rfl (hb hby d4_4) rfl rfl ?_
    refine st13.trans ?_
    refine XS.istoreN X13.here hx rfl (hb hby d4_8) rfl (l' := #[.val (.ref a1), .val (.ref a2), .val (.int (4 : Int32)), .unset, .unset]) rfl ?_
    refine XS.iloadN X13.here hx rfl (hb hby d4_9) rfl ?_
    refine X13.ldcInt hx hown (mvT hZ (hw _ (gw 56 rfl))) (g := (mkF m 10 #[.val (.ref a1), .val (.ref a2), .val (.int (4 : Int32)), .unset, .unset] [(.int (4 : Int32))])) rfl (hb hby d4_10) _ ?_
    refine XS.icmpNo X13.here hx rfl (hb hby d4_12) rfl (tlt (by decide +kernel : (4 : Int32) < (2147483631 : Int32))).2.1 ?_
    refine XS.iloadN X13.here hx rfl (hb hby d4_15) rfl ?_
    show Steps p.tables e below (T13.setTop (mkF m 16 #[.val (.ref a1), .val (.ref a2), .val (.int (4 : Int32)), .unset, .unset] [(.int (4 : Int32))])) _
    refine XS.bipush X13.here hx rfl (hb hby d4_16) ?_
    refine XS.iadd X13.here hx rfl (hb hby d4_18) rfl ?_
    show Steps p.tables e below (T13.setTop (mkF m 19 #[.val (.ref a1), .val (.ref a2), .val (.int (4 : Int32)), .unset, .unset] [(.int ((4 : Int32) + (16 : Int32)))])) _
    rw [(by decide +kernel : ((4 : Int32) + (16 : Int32)) = (20 : Int32))]
    refine XS.goto X13.here hx rfl (pc0 := 19) (pc' := 24) rfl (hb hby d4_19) (by decide) (by decide) ?_
    refine XS.istoreN X13.here hx rfl (hb hby d4_24) rfl (l' := #[.val (.ref a1), .val (.ref a2), .val (.int (4 : Int32)), .val (.int (20 : Int32)), .unset]) rfl ?_
    refine XS.aloadN X13.here hx rfl (hb hby d4_25) rfl rfl ?_
    refine st17.trans ?_
    refine XS.istore X17.here hx rfl (hb hby d4_29) rfl (l' := #[.val (.ref a1), .val (.ref a2), .val (.int (4 : Int32)), .val (.int (20 : Int32)), .val (.int (0 : Int32))]) rfl ?_
    refine XS.aloadN X17.here hx rfl (hb hby d4_31) rfl rfl ?_
    refine XS.iload X17.here hx rfl (hb hby d4_32) rfl ?_
    refine st25 _ ?_
    show Steps p.tables e below (T25.setTop (mkF m 37 #[.val (.ref a1), .val (.ref a2), .val (.int (4 : Int32)), .val (.int (20 : Int32)), .val (.int (0 : Int32))] [])) _
    refine XS.aloadN X25.here hx rfl (hb hby d4_37) rfl rfl ?_
    refine XS.iload X25.here hx rfl (hb hby d4_38) rfl ?_
    refine XS.ifNo X25.here hx rfl (hb hby d4_40) rfl ((if0 _ _).trans (teq (by decide +kernel : (0 : Int32) = (0 : Int32))).2) ?_
    refine XS.iloadN X25.here hx rfl (hb hby d4_43) rfl ?_
    refine st26 _ ?_
    refine XS.goto X26.here hx rfl (pc0 := 46) (pc' := 53) rfl (hb hby d4_46) (by decide) (by decide) ?_
    refine st29 _ ?_
    refine XS.aloadN X29.here hx rfl (hb hby d4_56) rfl rfl ?_
    refine XS.aloadN X29.here hx rfl (hb hby d4_57) rfl rfl ?_
    show Steps p.tables e below (T29.setTop (mkF m 58 #[.val (.ref a1), .val (.ref a2), .val (.int (4 : Int32)), .val (.int (20 : Int32)), .val (.int (0 : Int32))] [(.ref a2), (.ref a1)])) _
    refine st35.trans ?_
    refine XS.pop X35.here hx rfl (hb hby d4_61) rfl rfl ?_
    show Steps p.tables e below (T35.setTop (mkF m 62 #[.val (.ref a1), .val (.ref a2), .val (.int (4 : Int32)), .val (.int (20 : Int32)), .val (.int (0 : Int32))] [])) _
    exact X35.returnOut hx Bd.returns (hb hby d4_62) hr
  · show Q4_5 Z _ _ _ _ _ h0 n0 _ T35.heap _
    exact ⟨b26, k26, rfl, N35, sz_b26, (Nat.lt_of_lt_of_le (Nat.lt_of_lt_of_le lt_b26 (Keep.of_wr W29).1) Ku38.1), (((((Keep.refl h0 [a1]).wr W25 (Or.inl (List.mem_of_getElem? (i := 0) rfl))).ext E26).wr W29 (Or.inl (List.mem_of_getElem? (i := 0) rfl))).trans Ku38 (allS (Or.inr sz_b26) (allS (Or.inl (List.mem_of_getElem? (i := 0) rfl)) all0))), u39, u40, u41, u42, u43, u44⟩
theorem ef_rm3_4 (m : MethodId) (x0 : Addr) (x1 : Addr) : entryFrame m #[(.ref x0), (.ref x1)] 2 = mkF m 0 #[.val (.ref x0), .val (.ref x1)] [] := by first | (simp [entryFrame, mkF, argsToLocals, Value.category]; done) | rfl
def Q3_4 (Z : State) (a1 : Addr) (a2 : Addr) (a4 : Addr) (k6 : ClassId) (p8 : Int32) (h0 : Heap) (n0 : Nat) (v : Option Value) (h : Heap) (L : List Loc) : Prop := (∃ (b17 : Addr) (k18 : ClassId), v = none ∧ Fr n0 L ∧ h0.size ≤ b17 ∧ b17 < h.size ∧ Keep h0 h [a1] ∧ Exa Z h a1 C_5 ∧ Fld Z h a1 C_2 "coder" "B" (.int (0 : Int32)) ∧ Fld Z h a1 C_2 "count" "I" (.int (4 : Int32)) ∧ Fld Z h a1 C_2 "value" "[B" (.ref b17) ∧ Exa Z h b17 "[B" ∧ Arv Z h b17 k18 .byte (20 : Int32) [(.int (82 : Int32)), (.int (101 : Int32)), (.int (97 : Int32)), (.int (100 : Int32))] (.int (0 : Int32)))
set_option maxRecDepth 65536 in
set_option maxHeartbeats 40000000 in
theorem rm3_4 (l : Launch) (Z : State) (a0 : Array Value) (hw : ∀ d ∈ own_ws, d.before a0 Z = true) (ws : List Jvm.Cond) (a1 : Addr) (a2 : Addr) (a4 : Addr) (k6 : ClassId) (p8 : Int32) (h0 : Heap) (n0 : Nat) (O0 : Old Z n0 h0) (E_3 : Exa Z Z.heap a2 C_4) (F5 : Fld Z Z.heap a2 C_4 "value" "[B" (.ref a4)) (V7 : Arv Z Z.heap a4 k6 .byte (4 : Int32) [(.int (82 : Int32)), (.int (101 : Int32)), (.int (97 : Int32)), (.int (100 : Int32))] (.int (0 : Int32))) (S_9 : Sta Z Z.heap C_4 "COMPACT_STRINGS" "Z" (.int p8)) (hk10 : ¬ (p8 = (0 : Int32))) (F11 : Fld Z Z.heap a2 C_4 "coder" "B" (.int (0 : Int32))) (E_12 : Exa Z h0 a1 C_5) (F13 : Fld Z h0 a1 C_2 "coder" "B" (.int (0 : Int32))) (F14 : Fld Z h0 a1 C_2 "count" "I" (.int (0 : Int32))) (F15 : Fld Z h0 a1 C_2 "value" "[B" .null) (g_a1 : n0 ≤ a1) (lt_a1 : a1 < h0.size) :
    MetFree l M_11 (head1 (Jvm.Cond.code M_11 jdk_67_method_3_code 2 none :: ws) ({ frames := 7, cells := 1, slots := 20, locals := 103 } : Room)) (fun a U => a = #[(.ref a1), (.ref a2)] ∧ Z.Warmed39 U.vm ∧ U.heap = h0) (fun _ _ _ _ _ => True) (fun _ U o U' => ∃ v L, o = .returned v ∧ Q3_4 Z a1 a2 a4 k6 p8 h0 n0 v U'.heap L ∧ FrameEnd U o U' L ({ frames := 7, cells := 1, slots := 20, locals := 103 } : Room).cells ({ frames := 7, cells := 1, slots := 20, locals := 103 } : Room).slots) := by
  refine MetFree.of_bodySF (plainFor_of_name pn_3) hisR ?_
  intro p e s m args below meth c s₁ Bd hml0 hP hK
  obtain ⟨rfl, hZ, hh⟩ := hP
  have hx := Bd.exec
  have hby := Bd.bytes
  have hml : c.maxLocals = 2 := hml0
  have hown : s.vm.findClass "java/lang/StringBuilder" = some m.cls := findClass_of_methodNamed Bd.named
  have hnm := (name_of_methodNamed Bd.named Bd.method).1
  have X0 : Stand p l e ({ frames := 7, cells := 1, slots := 20, locals := 103 } : Room) s m #[(.ref a1), (.ref a2)] below meth c s₁ [] 0 0 := Stand.of_body Bd
  have e0 : s₁.heap = h0 := by rw [← hh, Bd.state]; rfl
  have N0 := Fr.nil n0
  have pre0 : ∀ t, Steps p.tables e below (s₁.setTop (mkF m 0 #[.val (.ref a1), .val (.ref a2)] [])) t → Steps p.tables e below (s₁.setTop (entryFrame m #[(.ref a1), (.ref a2)] 2)) t := fun t k => castTop (ef_rm3_4 m a1 a2) k
  obtain ⟨_, _, ⟨T16, L16, k16, n16⟩, -, X16, ⟨Lc16, hQ16, l16, y16, z16⟩, st16⟩ := X0.specialBack hx (y := M_10) rfl hown (mvT hZ (hw _ (gw 31 rfl))) (mvT hZ (hw _ (gw 32 rfl))) (mvT hZ (hw _ (gw 36 rfl))) (by decide) (backOf (W := 0) (rm4_5 l Z a0 hw [] a1 a2 a4 k6 p8 h0 n0  O0 E_3 F5 V7 S_9 hk10 F11 E_12 F13 F14 F15 g_a1 lt_a1) hZ (hw _ (gw 36 rfl)) (hw _ (gw 35 rfl)) (by decide) (by decide)) (g := (mkF m 2 #[.val (.ref a1), .val (.ref a2)] [(.ref a2), (.ref a1)])) rfl (by rw [hml]; rfl) (Steps.refl _) (a := a1) (argsL := [(.ref a2)]) (rest := []) (lenOf pd_4 rfl) rfl (by show 2 * 0 + _ ≤ _; exact Nat.le_of_eq rfl) (hb hby d3_2) (fun _ _ => ⟨rfl, e0, (by decide : 0 + 1 ≤ _), (by decide : 0 + 20 ≤ _)⟩)
  dsimp only [Pt.U, Pt.locs, Pt.cells, Pt.slots] at X16 l16 y16 z16 st16 hQ16
  subst l16 y16 z16
  obtain ⟨b17, k18, rfl, u20, u21, u22, Ku23, u24, u25, u26, u27, u28, u29⟩ := hQ16
  have Ou23 : Old Z n0 T16.heap := O0.keep Ku23 (allS g_a1 all0)
  have g_b17 : n0 ≤ b17 := Nat.le_trans (own_z O0) u21
  have sz_b17 : h0.size ≤ b17 := Nat.le_trans (Nat.le_refl _) u21
  have N16 := Fr.app N0 u20
  obtain ⟨fs, hr, hrun, hended, hW, hsame⟩ := X16.leave (v := none) (fun _ => rfl)
  refine ⟨_, _, pre0 _ ?_, hrun, hended, _, _, rfl, ?_, ⟨_, rfl⟩, hW, hsame.mono (by decide) (by decide)⟩
  · show Steps p.tables e below (s₁.setTop (mkF m 0 #[.val (.ref a1), .val (.ref a2)] [])) _
    refine XS.aloadN X0.here hx rfl (hb hby d3_0) rfl rfl ?_
    refine XS.aloadN X0.here hx rfl (hb hby d3_1) rfl rfl ?_
    refine st16.trans ?_
    show Steps p.tables e below (T16.setTop (mkF m 5 #[.val (.ref a1), .val (.ref a2)] [])) _
    exact X16.returnOut hx Bd.returns (hb hby d3_5) hr
  · show Q3_4 Z _ _ _ _ _ h0 n0 _ T16.heap _
    exact ⟨b17, k18, rfl, N16, sz_b17, u22, ((Keep.refl h0 [a1]).trans Ku23 (allS (Or.inl (List.mem_of_getElem? (i := 0) rfl)) all0)), u24, u25, u26, u27, u28, u29⟩
theorem ef_rm7_18 (m : MethodId) (x0 : Addr) : entryFrame m #[(.ref x0)] 1 = mkF m 0 #[.val (.ref x0)] [] := by first | (simp [entryFrame, mkF, argsToLocals, Value.category]; done) | rfl
def Q7_18 (Z : State) (a1 : Addr) (p2 : Int32) (h0 : Heap) (n0 : Nat) (v : Option Value) (h : Heap) (L : List Loc) : Prop := (v = some (.int (0 : Int32)) ∧ Fr n0 L ∧ h = h0)
set_option maxRecDepth 65536 in
set_option maxHeartbeats 40000000 in
theorem rm7_18 (l : Launch) (Z : State) (a0 : Array Value) (hw : ∀ d ∈ own_ws, d.before a0 Z = true) (ws : List Jvm.Cond) (a1 : Addr) (p2 : Int32) (h0 : Heap) (n0 : Nat) (O0 : Old Z n0 h0) (S_3 : Sta Z Z.heap C_4 "COMPACT_STRINGS" "Z" (.int p2)) (hk5 : ¬ (p2 = (0 : Int32))) (F6 : Fld Z h0 a1 C_4 "coder" "B" (.int (0 : Int32))) :
    MetFree l M_1 (head1 (Jvm.Cond.code M_1 jdk_42_method_152_code 1 (some .byte) :: ws) ({ frames := 0, cells := 0, slots := 0, locals := 0 } : Room)) (fun a U => a = #[(.ref a1)] ∧ Z.Warmed39 U.vm ∧ U.heap = h0) (fun _ _ _ _ _ => True) (fun _ U o U' => ∃ v L, o = .returned v ∧ Q7_18 Z a1 p2 h0 n0 v U'.heap L ∧ FrameEnd U o U' L ({ frames := 0, cells := 0, slots := 0, locals := 0 } : Room).cells ({ frames := 0, cells := 0, slots := 0, locals := 0 } : Room).slots) := by
  refine MetFree.of_bodySF (plainFor_of_name pn_1) hisR ?_
  intro p e s m args below meth c s₁ Bd hml0 hP hK
  obtain ⟨rfl, hZ, hh⟩ := hP
  have hx := Bd.exec
  have hby := Bd.bytes
  have hml : c.maxLocals = 1 := hml0
  have hown : s.vm.findClass "java/lang/String" = some m.cls := findClass_of_methodNamed Bd.named
  have hnm := (name_of_methodNamed Bd.named Bd.method).1
  have X0 : Stand p l e ({ frames := 0, cells := 0, slots := 0, locals := 0 } : Room) s m #[(.ref a1)] below meth c s₁ [] 0 0 := Stand.of_body Bd
  have e0 : s₁.heap = h0 := by rw [← hh, Bd.state]; rfl
  have N0 := Fr.nil n0
  have pre0 : ∀ t, Steps p.tables e below (s₁.setTop (mkF m 0 #[.val (.ref a1)] [])) t → Steps p.tables e below (s₁.setTop (entryFrame m #[(.ref a1)] 1)) t := fun t k => castTop (ef_rm7_18 m a1) k
  obtain ⟨T4, X4, e4, st4⟩ := getS2 X0 hx hZ hown (host := "") (Or.inl (hw _ (gw 53 rfl))) Via.refl e0 (Sta.ext O0.2 S_3) (g := (mkF m 0 #[.val (.ref a1)] [])) rfl (hb hby d7_0)
  obtain ⟨T7, X7, e7, st7⟩ := getF X4 hx hZ hown (host := "") (Or.inl (hw _ (gw 54 rfl))) Via.refl e4 F6 (g := (mkF m 7 #[.val (.ref a1)] [(.ref a1)])) rfl rfl (hb hby d7_7)
  obtain ⟨fs, hr, hrun, hended, hW, hsame⟩ := X7.leave (v := some (.int (0 : Int32))) (fun h => by rw [Bd.returns] at h; cases h)
  refine ⟨_, _, pre0 _ ?_, hrun, hended, _, _, rfl, ?_, ⟨_, rfl⟩, hW, hsame.mono (by decide) (by decide)⟩
  · show Steps p.tables e below (s₁.setTop (mkF m 0 #[.val (.ref a1)] [])) _
    refine st4 _ ?_
    refine XS.ifNo X4.here hx rfl (hb hby d7_3) rfl ((if0 _ _).trans (feq hk5).1) ?_
    refine XS.aloadN X4.here hx rfl (hb hby d7_6) rfl rfl ?_
    refine st7 _ ?_
    refine XS.goto X7.here hx rfl (pc0 := 10) (pc' := 14) rfl (hb hby d7_10) (by decide) (by decide) ?_
    show Steps p.tables e below (T7.setTop (mkF m 14 #[.val (.ref a1)] [(.int (0 : Int32))])) _
    exact retN X7 hx (t := .byte) Bd.returns (by simp) (hb hby d7_14) hr
  · show Q7_18 Z _ _ h0 n0 _ T7.heap _
    rw [e7]
    exact ⟨rfl, N0, rfl⟩
theorem ef_rm6_17 (m : MethodId) (x0 : Addr) : entryFrame m #[(.ref x0)] 1 = mkF m 0 #[.val (.ref x0)] [] := by first | (simp [entryFrame, mkF, argsToLocals, Value.category]; done) | rfl
def Q6_17 (Z : State) (a1 : Addr) (a2 : Addr) (k5 : ClassId) (p9 : Int32) (h0 : Heap) (n0 : Nat) (v : Option Value) (h : Heap) (L : List Loc) : Prop := (v = some (.int (2 : Int32)) ∧ Fr n0 L ∧ h = h0)
set_option maxRecDepth 65536 in
set_option maxHeartbeats 40000000 in
theorem rm6_17 (l : Launch) (Z : State) (a0 : Array Value) (hw : ∀ d ∈ own_ws, d.before a0 Z = true) (ws : List Jvm.Cond) (a1 : Addr) (a2 : Addr) (k5 : ClassId) (p9 : Int32) (h0 : Heap) (n0 : Nat) (O0 : Old Z n0 h0) (F3 : Fld Z h0 a1 C_4 "value" "[B" (.ref a2)) (V6 : Arv Z h0 a2 k5 .byte (2 : Int32) [(.int (44 : Int32)), (.int (32 : Int32))] (.int 0)) (E_8 : Exa Z h0 a1 C_4) (S_10 : Sta Z Z.heap C_4 "COMPACT_STRINGS" "Z" (.int p9)) (hk11 : ¬ (p9 = (0 : Int32))) (F12 : Fld Z h0 a1 C_4 "coder" "B" (.int (0 : Int32))) :
    MetFree l M_2 (head1 (Jvm.Cond.code M_2 jdk_42_method_54_code 1 (some .int) :: ws) ({ frames := 1, cells := 0, slots := 0, locals := 13 } : Room)) (fun a U => a = #[(.ref a1)] ∧ Z.Warmed39 U.vm ∧ U.heap = h0) (fun _ _ _ _ _ => True) (fun _ U o U' => ∃ v L, o = .returned v ∧ Q6_17 Z a1 a2 k5 p9 h0 n0 v U'.heap L ∧ FrameEnd U o U' L ({ frames := 1, cells := 0, slots := 0, locals := 13 } : Room).cells ({ frames := 1, cells := 0, slots := 0, locals := 13 } : Room).slots) := by
  refine MetFree.of_bodySF (plainFor_of_name pn_1) hisR ?_
  intro p e s m args below meth c s₁ Bd hml0 hP hK
  obtain ⟨rfl, hZ, hh⟩ := hP
  have hx := Bd.exec
  have hby := Bd.bytes
  have hml : c.maxLocals = 1 := hml0
  have hown : s.vm.findClass "java/lang/String" = some m.cls := findClass_of_methodNamed Bd.named
  have hnm := (name_of_methodNamed Bd.named Bd.method).1
  have X0 : Stand p l e ({ frames := 1, cells := 0, slots := 0, locals := 13 } : Room) s m #[(.ref a1)] below meth c s₁ [] 0 0 := Stand.of_body Bd
  have e0 : s₁.heap = h0 := by rw [← hh, Bd.state]; rfl
  have N0 := Fr.nil n0
  have pre0 : ∀ t, Steps p.tables e below (s₁.setTop (mkF m 0 #[.val (.ref a1)] [])) t → Steps p.tables e below (s₁.setTop (entryFrame m #[(.ref a1)] 1)) t := fun t k => castTop (ef_rm6_17 m a1) k
  obtain ⟨T4, X4, e4, st4⟩ := getF X0 hx hZ hown (host := "") (Or.inl (hw _ (gw 46 rfl))) Via.refl e0 F3 (g := (mkF m 1 #[.val (.ref a1)] [(.ref a1)])) rfl rfl (hb hby d6_1)
  obtain ⟨cl7, Ar7, -, Sz7, Nn7, -, -⟩ := id V6
  obtain ⟨cq13, kq13, q13a, q13b, q13c⟩ := isOf hZ e4 E_8
  obtain ⟨_, _, ⟨T13, L13, k13, n13⟩, -, X13, ⟨Lc13, hQ13, l13, y13, z13⟩, st13⟩ := X4.virtualBack hx (y := M_1) (z := M_1) hown (mvT hZ (hw _ (gw 48 rfl))) (mvT hZ (hw _ (gw 49 rfl))) (notFace_of_selects (args := #[]) (mvT hZ (hw _ (gw 51 rfl)))) (mvT hZ (hw _ (gw 51 rfl))) (mvT hZ (hw _ (gw 50 rfl))) (by decide) (backOf (W := 1) (rm7_18 l Z a0 hw [] a1 p9 h0 n0  O0 S_10 hk11 F12) hZ (hw _ (gw 52 rfl)) (hw _ (gw 44 rfl)) (by decide) (by decide)) q13a q13c (g := (mkF m 6 #[.val (.ref a1)] [(.ref a1), (.int (2 : Int32))])) rfl (by rw [hml]; rfl) (Steps.refl _) (argsL := []) (rest := [(.int (2 : Int32))]) (lenOf pd_1 rfl) rfl (by show 2 * 0 + _ ≤ _; exact Nat.le_of_eq rfl) (hb hby d6_6) (fun _ _ => ⟨rfl, e4, (by decide : 0 + 0 ≤ _), (by decide : 0 + 0 ≤ _)⟩)
  dsimp only [Pt.U, Pt.locs, Pt.cells, Pt.slots] at X13 l13 y13 z13 st13 hQ13
  subst l13 y13 z13
  obtain ⟨rfl, u15, u16⟩ := hQ13
  have N13 := Fr.app N0 u15
  obtain ⟨fs, hr, hrun, hended, hW, hsame⟩ := X13.leave (v := some (.int (2 : Int32))) (fun h => by rw [Bd.returns] at h; cases h)
  refine ⟨_, _, pre0 _ ?_, hrun, hended, _, _, rfl, ?_, ⟨_, rfl⟩, hW, hsame.mono (by decide) (by decide)⟩
  · show Steps p.tables e below (s₁.setTop (mkF m 0 #[.val (.ref a1)] [])) _
    refine XS.aloadN X0.here hx rfl (hb hby d6_0) rfl rfl ?_
    refine st4 _ ?_
    refine X4.arraylength hx (by rw [e4]; exact Ar7.1) (State.isArrayOf_alike hZ.alike Ar7.2.1) (g := (mkF m 4 #[.val (.ref a1)] [(.ref a2)])) rfl rfl (hb hby d6_4) _ ?_
    rw [len_of Sz7 Nn7]
    refine XS.aloadN X4.here hx rfl (hb hby d6_5) rfl rfl ?_
    refine st13.trans ?_
    refine XS.ishr X13.here hx rfl (hb hby d6_9) rfl ?_
    show Steps p.tables e below (T13.setTop (mkF m 10 #[.val (.ref a1)] [(.int ((2 : Int32) >>> ((0 : Int32) &&& 31)))])) _
    rw [(by decide +kernel : ((2 : Int32) >>> ((0 : Int32) &&& 31)) = (2 : Int32))]
    show Steps p.tables e below (T13.setTop (mkF m 10 #[.val (.ref a1)] [(.int (2 : Int32))])) _
    exact retI X13 hx Bd.returns (hb hby d6_10) hr
  · show Q6_17 Z _ _ _ _ h0 n0 _ T13.heap _
    rw [u16]
    exact ⟨rfl, N13, rfl⟩
theorem ef_rm11_19 (m : MethodId) (x0 : Addr) : entryFrame m #[(.ref x0), (.int (6 : Int32))] 3 = mkF m 0 #[.val (.ref x0), .val (.int (6 : Int32)), .unset] [] := by first | (simp [entryFrame, mkF, argsToLocals, Value.category]; done) | rfl
def Q11_19 (Z : State) (a1 : Addr) (a2 : Addr) (k5 : ClassId) (h0 : Heap) (n0 : Nat) (v : Option Value) (h : Heap) (L : List Loc) : Prop := (v = none ∧ Fr n0 L ∧ h = h0)
set_option maxRecDepth 65536 in
set_option maxHeartbeats 40000000 in
theorem rm11_19 (l : Launch) (Z : State) (a0 : Array Value) (hw : ∀ d ∈ own_ws, d.before a0 Z = true) (ws : List Jvm.Cond) (a1 : Addr) (a2 : Addr) (k5 : ClassId) (h0 : Heap) (n0 : Nat) (O0 : Old Z n0 h0) (F3 : Fld Z h0 a1 C_2 "value" "[B" (.ref a2)) (V6 : Arv Z h0 a2 k5 .byte (20 : Int32) [(.int (82 : Int32)), (.int (101 : Int32)), (.int (97 : Int32)), (.int (100 : Int32))] (.int (0 : Int32))) (F8 : Fld Z h0 a1 C_2 "coder" "B" (.int (0 : Int32))) :
    MetFree l M_3 (head1 (Jvm.Cond.code M_3 jdk_68_method_9_code 3 none :: ws) ({ frames := 0, cells := 0, slots := 0, locals := 0 } : Room)) (fun a U => a = #[(.ref a1), (.int (6 : Int32))] ∧ Z.Warmed39 U.vm ∧ U.heap = h0) (fun _ _ _ _ _ => True) (fun _ U o U' => ∃ v L, o = .returned v ∧ Q11_19 Z a1 a2 k5 h0 n0 v U'.heap L ∧ FrameEnd U o U' L ({ frames := 0, cells := 0, slots := 0, locals := 0 } : Room).cells ({ frames := 0, cells := 0, slots := 0, locals := 0 } : Room).slots) := by
  refine MetFree.of_bodySF (plainFor_of_name pn_2) hisR ?_
  intro p e s m args below meth c s₁ Bd hml0 hP hK
  obtain ⟨rfl, hZ, hh⟩ := hP
  have hx := Bd.exec
  have hby := Bd.bytes
  have hml : c.maxLocals = 3 := hml0
  have hown : s.vm.findClass "java/lang/AbstractStringBuilder" = some m.cls := findClass_of_methodNamed Bd.named
  have hnm := (name_of_methodNamed Bd.named Bd.method).1
  have X0 : Stand p l e ({ frames := 0, cells := 0, slots := 0, locals := 0 } : Room) s m #[(.ref a1), (.int (6 : Int32))] below meth c s₁ [] 0 0 := Stand.of_body Bd
  have e0 : s₁.heap = h0 := by rw [← hh, Bd.state]; rfl
  have N0 := Fr.nil n0
  have pre0 : ∀ t, Steps p.tables e below (s₁.setTop (mkF m 0 #[.val (.ref a1), .val (.int (6 : Int32)), .unset] [])) t → Steps p.tables e below (s₁.setTop (entryFrame m #[(.ref a1), (.int (6 : Int32))] 3)) t := fun t k => castTop (ef_rm11_19 m a1) k
  obtain ⟨T4, X4, e4, st4⟩ := getF X0 hx hZ hown (host := "") (Or.inl (hw _ (gw 61 rfl))) Via.refl e0 F3 (g := (mkF m 1 #[.val (.ref a1), .val (.int (6 : Int32)), .unset] [(.ref a1)])) rfl rfl (hb hby d11_1)
  obtain ⟨cl7, Ar7, -, Sz7, Nn7, -, -⟩ := id V6
  obtain ⟨T9, X9, e9, st9⟩ := getF X4 hx hZ hown (host := "") (Or.inl (hw _ (gw 58 rfl))) Via.refl e4 F8 (g := (mkF m 6 #[.val (.ref a1), .val (.int (6 : Int32)), .unset] [(.ref a1), (.int (20 : Int32))])) rfl rfl (hb hby d11_6)
  obtain ⟨fs, hr, hrun, hended, hW, hsame⟩ := X9.leave (v := none) (fun _ => rfl)
  refine ⟨_, _, pre0 _ ?_, hrun, hended, _, _, rfl, ?_, ⟨_, rfl⟩, hW, hsame.mono (by decide) (by decide)⟩
  · show Steps p.tables e below (s₁.setTop (mkF m 0 #[.val (.ref a1), .val (.int (6 : Int32)), .unset] [])) _
    refine XS.aloadN X0.here hx rfl (hb hby d11_0) rfl rfl ?_
    refine st4 _ ?_
    refine X4.arraylength hx (by rw [e4]; exact Ar7.1) (State.isArrayOf_alike hZ.alike Ar7.2.1) (g := (mkF m 4 #[.val (.ref a1), .val (.int (6 : Int32)), .unset] [(.ref a2)])) rfl rfl (hb hby d11_4) _ ?_
    rw [len_of Sz7 Nn7]
    refine XS.aloadN X4.here hx rfl (hb hby d11_5) rfl rfl ?_
    refine st9 _ ?_
    refine XS.ishr X9.here hx rfl (hb hby d11_9) rfl ?_
    show Steps p.tables e below (T9.setTop (mkF m 10 #[.val (.ref a1), .val (.int (6 : Int32)), .unset] [(.int ((20 : Int32) >>> ((0 : Int32) &&& 31)))])) _
    rw [(by decide +kernel : ((20 : Int32) >>> ((0 : Int32) &&& 31)) = (20 : Int32))]
    refine XS.istoreN X9.here hx rfl (hb hby d11_10) rfl (l' := #[.val (.ref a1), .val (.int (6 : Int32)), .val (.int (20 : Int32))]) rfl ?_
    refine XS.iloadN X9.here hx rfl (hb hby d11_11) rfl ?_
    refine XS.iloadN X9.here hx rfl (hb hby d11_12) rfl ?_
    refine XS.isub X9.here hx rfl (hb hby d11_13) rfl ?_
    show Steps p.tables e below (T9.setTop (mkF m 14 #[.val (.ref a1), .val (.int (6 : Int32)), .val (.int (20 : Int32))] [(.int ((6 : Int32) - (20 : Int32)))])) _
    rw [(by decide +kernel : ((6 : Int32) - (20 : Int32)) = (-14 : Int32))]
    refine XS.ifYes X9.here hx rfl (pc0 := 14) (pc' := 38) rfl (hb hby d11_14) rfl ((if0 _ _).trans (flt (by decide +kernel : ¬ ((0 : Int32) < (-14 : Int32)))).2.2.2) (by decide) (by decide) ?_
    show Steps p.tables e below (T9.setTop (mkF m 38 #[.val (.ref a1), .val (.int (6 : Int32)), .val (.int (20 : Int32))] [])) _
    exact X9.returnOut hx Bd.returns (hb hby d11_38) hr
  · show Q11_19 Z _ _ _ h0 n0 _ T9.heap _
    rw [e9]
    exact ⟨rfl, N0, rfl⟩
theorem ef_rm13_21 (m : MethodId) (x0 : Addr) (x1 : Addr) : entryFrame m #[(.ref x0), (.ref x1)] 2 = mkF m 0 #[.val (.ref x0), .val (.ref x1)] [] := by first | (simp [entryFrame, mkF, argsToLocals, Value.category]; done) | rfl
def Q13_21 (Z : State) (a1 : Addr) (a2 : Addr) (p3 : Int32) (h0 : Heap) (n0 : Nat) (v : Option Value) (h : Heap) (L : List Loc) : Prop := (v = none ∧ Fr n0 L ∧ h = h0)
set_option maxRecDepth 65536 in
set_option maxHeartbeats 40000000 in
theorem rm13_21 (l : Launch) (Z : State) (a0 : Array Value) (hw : ∀ d ∈ own_ws, d.before a0 Z = true) (ws : List Jvm.Cond) (a1 : Addr) (a2 : Addr) (p3 : Int32) (h0 : Heap) (n0 : Nat) (O0 : Old Z n0 h0) (S_4 : Sta Z Z.heap C_4 "COMPACT_STRINGS" "Z" (.int p3)) (hk6 : ¬ (p3 = (0 : Int32))) (F7 : Fld Z h0 a1 C_2 "coder" "B" (.int (0 : Int32))) (E_9 : Exa Z h0 a2 C_4) (F10 : Fld Z h0 a2 C_4 "coder" "B" (.int (0 : Int32))) :
    MetFree l M_4 (head1 (Jvm.Cond.code M_4 jdk_68_method_71_code 2 none :: ws) ({ frames := 1, cells := 0, slots := 0, locals := 13 } : Room)) (fun a U => a = #[(.ref a1), (.ref a2)] ∧ Z.Warmed39 U.vm ∧ U.heap = h0) (fun _ _ _ _ _ => True) (fun _ U o U' => ∃ v L, o = .returned v ∧ Q13_21 Z a1 a2 p3 h0 n0 v U'.heap L ∧ FrameEnd U o U' L ({ frames := 1, cells := 0, slots := 0, locals := 13 } : Room).cells ({ frames := 1, cells := 0, slots := 0, locals := 13 } : Room).slots) := by
  refine MetFree.of_bodySF (plainFor_of_name pn_2) hisR ?_
  intro p e s m args below meth c s₁ Bd hml0 hP hK
  obtain ⟨rfl, hZ, hh⟩ := hP
  have hx := Bd.exec
  have hby := Bd.bytes
  have hml : c.maxLocals = 2 := hml0
  have hown : s.vm.findClass "java/lang/AbstractStringBuilder" = some m.cls := findClass_of_methodNamed Bd.named
  have hnm := (name_of_methodNamed Bd.named Bd.method).1
  have X0 : Stand p l e ({ frames := 1, cells := 0, slots := 0, locals := 13 } : Room) s m #[(.ref a1), (.ref a2)] below meth c s₁ [] 0 0 := Stand.of_body Bd
  have e0 : s₁.heap = h0 := by rw [← hh, Bd.state]; rfl
  have N0 := Fr.nil n0
  have pre0 : ∀ t, Steps p.tables e below (s₁.setTop (mkF m 0 #[.val (.ref a1), .val (.ref a2)] [])) t → Steps p.tables e below (s₁.setTop (entryFrame m #[(.ref a1), (.ref a2)] 2)) t := fun t k => castTop (ef_rm13_21 m a1 a2) k
  obtain ⟨T5, X5, e5, st5⟩ := getS2 X0 hx hZ hown (host := "") (Or.inl (hw _ (gw 94 rfl))) Via.refl e0 (Sta.ext O0.2 S_4) (g := (mkF m 0 #[.val (.ref a1), .val (.ref a2)] [])) rfl (hb hby d13_0)
  obtain ⟨T8, X8, e8, st8⟩ := getF X5 hx hZ hown (host := "") (Or.inl (hw _ (gw 58 rfl))) Via.refl e5 F7 (g := (mkF m 7 #[.val (.ref a1), .val (.ref a2)] [(.ref a1)])) rfl rfl (hb hby d13_7)
  obtain ⟨cq11, kq11, q11a, q11b, q11c⟩ := isOf hZ e8 E_9
  obtain ⟨_, _, ⟨T11, L11, k11, n11⟩, -, X11, ⟨Lc11, hQ11, l11, y11, z11⟩, st11⟩ := X8.virtualBack hx (y := M_1) (z := M_1) hown (mvT hZ (hw _ (gw 57 rfl))) (mvT hZ (hw _ (gw 49 rfl))) (notFace_of_selects (args := #[]) (mvT hZ (hw _ (gw 51 rfl)))) (mvT hZ (hw _ (gw 51 rfl))) (mvT hZ (hw _ (gw 50 rfl))) (by decide) (backOf (W := 1) (rm7_18 l Z a0 hw [] a2 p3 h0 n0  O0 S_4 hk6 F10) hZ (hw _ (gw 52 rfl)) (hw _ (gw 44 rfl)) (by decide) (by decide)) q11a q11c (g := (mkF m 11 #[.val (.ref a1), .val (.ref a2)] [(.ref a2), (.int (0 : Int32))])) rfl (by rw [hml]; rfl) (Steps.refl _) (argsL := []) (rest := [(.int (0 : Int32))]) (lenOf pd_1 rfl) rfl (by show 2 * 0 + _ ≤ _; exact Nat.le_of_eq rfl) (hb hby d13_11) (fun _ _ => ⟨rfl, e8, (by decide : 0 + 0 ≤ _), (by decide : 0 + 0 ≤ _)⟩)
  dsimp only [Pt.U, Pt.locs, Pt.cells, Pt.slots] at X11 l11 y11 z11 st11 hQ11
  subst l11 y11 z11
  obtain ⟨rfl, u13, u14⟩ := hQ11
  have N11 := Fr.app N0 u13
  obtain ⟨fs, hr, hrun, hended, hW, hsame⟩ := X11.leave (v := none) (fun _ => rfl)
  refine ⟨_, _, pre0 _ ?_, hrun, hended, _, _, rfl, ?_, ⟨_, rfl⟩, hW, hsame.mono (by decide) (by decide)⟩
  · show Steps p.tables e below (s₁.setTop (mkF m 0 #[.val (.ref a1), .val (.ref a2)] [])) _
    refine st5 _ ?_
    refine XS.ifNo X5.here hx rfl (hb hby d13_3) rfl ((if0 _ _).trans (feq hk6).1) ?_
    refine XS.aloadN X5.here hx rfl (hb hby d13_6) rfl rfl ?_
    refine st8 _ ?_
    refine XS.aloadN X8.here hx rfl (hb hby d13_10) rfl rfl ?_
    refine st11.trans ?_
    refine XS.icmpYes X11.here hx rfl (pc0 := 14) (pc' := 21) rfl (hb hby d13_14) rfl (teq (by decide +kernel : (0 : Int32) = (0 : Int32))).1 (by decide) (by decide) ?_
    show Steps p.tables e below (T11.setTop (mkF m 21 #[.val (.ref a1), .val (.ref a2)] [])) _
    exact X11.returnOut hx Bd.returns (hb hby d13_21) hr
  · show Q13_21 Z _ _ _ h0 n0 _ T11.heap _
    rw [u14]
    exact ⟨rfl, N11, rfl⟩
theorem ef_rm14_22 (m : MethodId) (x0 : Addr) (x1 : Addr) : entryFrame m #[(.ref x0), (.ref x1), (.int (4 : Int32)), (.int (0 : Int32))] 4 = mkF m 0 #[.val (.ref x0), .val (.ref x1), .val (.int (4 : Int32)), .val (.int (0 : Int32))] [] := by first | (simp [entryFrame, mkF, argsToLocals, Value.category]; done) | rfl
def Q14_22 (Z : State) (a1 : Addr) (a2 : Addr) (p4 : Int32) (a12 : Addr) (k16 : ClassId) (k19 : ClassId) (h0 : Heap) (n0 : Nat) (v : Option Value) (h : Heap) (L : List Loc) : Prop := (v = none ∧ Fr n0 L ∧ Keep h0 h [a2] ∧ Exa Z h a2 "[B" ∧ Arv Z h a2 k19 .byte (20 : Int32) [(.int (82 : Int32)), (.int (101 : Int32)), (.int (97 : Int32)), (.int (100 : Int32)), (.int (44 : Int32)), (.int (32 : Int32))] (.int (0 : Int32)))
set_option maxRecDepth 65536 in
set_option maxHeartbeats 40000000 in
theorem rm14_22 (l : Launch) (Z : State) (a0 : Array Value) (hw : ∀ d ∈ own_ws, d.before a0 Z = true) (ws : List Jvm.Cond) (a1 : Addr) (a2 : Addr) (p4 : Int32) (a12 : Addr) (k16 : ClassId) (k19 : ClassId) (h0 : Heap) (n0 : Nat) (O0 : Old Z n0 h0) (E_3 : Exa Z h0 a1 C_4) (S_5 : Sta Z Z.heap C_4 "COMPACT_STRINGS" "Z" (.int p4)) (hk6 : ¬ (p4 = (0 : Int32))) (F7 : Fld Z h0 a1 C_4 "coder" "B" (.int (0 : Int32))) (F13 : Fld Z h0 a1 C_4 "value" "[B" (.ref a12)) (V17 : Arv Z h0 a12 k16 .byte (2 : Int32) [(.int (44 : Int32)), (.int (32 : Int32))] (.int 0)) (V20 : Arv Z h0 a2 k19 .byte (20 : Int32) [(.int (82 : Int32)), (.int (101 : Int32)), (.int (97 : Int32)), (.int (100 : Int32))] (.int (0 : Int32))) (E_21 : Exa Z h0 a2 "[B") (g_a2 : n0 ≤ a2) :
    MetFree l M_5 (head1 (Jvm.Cond.code M_5 jdk_42_method_147_code 4 none :: ws) ({ frames := 1, cells := 0, slots := 0, locals := 18 } : Room)) (fun a U => a = #[(.ref a1), (.ref a2), (.int (4 : Int32)), (.int (0 : Int32))] ∧ Z.Warmed39 U.vm ∧ U.heap = h0) (fun _ _ _ _ _ => True) (fun _ U o U' => ∃ v L, o = .returned v ∧ Q14_22 Z a1 a2 p4 a12 k16 k19 h0 n0 v U'.heap L ∧ FrameEnd U o U' L ({ frames := 1, cells := 0, slots := 0, locals := 18 } : Room).cells ({ frames := 1, cells := 0, slots := 0, locals := 18 } : Room).slots) := by
  refine MetFree.of_bodySF (plainFor_of_name pn_1) hisR ?_
  intro p e s m args below meth c s₁ Bd hml0 hP hK
  obtain ⟨rfl, hZ, hh⟩ := hP
  have hx := Bd.exec
  have hby := Bd.bytes
  have hml : c.maxLocals = 4 := hml0
  have hown : s.vm.findClass "java/lang/String" = some m.cls := findClass_of_methodNamed Bd.named
  have hnm := (name_of_methodNamed Bd.named Bd.method).1
  have X0 : Stand p l e ({ frames := 1, cells := 0, slots := 0, locals := 18 } : Room) s m #[(.ref a1), (.ref a2), (.int (4 : Int32)), (.int (0 : Int32))] below meth c s₁ [] 0 0 := Stand.of_body Bd
  have e0 : s₁.heap = h0 := by rw [← hh, Bd.state]; rfl
  have N0 := Fr.nil n0
  have pre0 : ∀ t, Steps p.tables e below (s₁.setTop (mkF m 0 #[.val (.ref a1), .val (.ref a2), .val (.int (4 : Int32)), .val (.int (0 : Int32))] [])) t → Steps p.tables e below (s₁.setTop (entryFrame m #[(.ref a1), (.ref a2), (.int (4 : Int32)), (.int (0 : Int32))] 4)) t := fun t k => castTop (ef_rm14_22 m a1 a2) k
  obtain ⟨cq8, kq8, q8a, q8b, q8c⟩ := isOf hZ e0 E_3
  obtain ⟨_, _, ⟨T8, L8, k8, n8⟩, -, X8, ⟨Lc8, hQ8, l8, y8, z8⟩, st8⟩ := X0.virtualBack hx (y := M_1) (z := M_1) hown (mvT hZ (hw _ (gw 48 rfl))) (mvT hZ (hw _ (gw 49 rfl))) (notFace_of_selects (args := #[]) (mvT hZ (hw _ (gw 51 rfl)))) (mvT hZ (hw _ (gw 51 rfl))) (mvT hZ (hw _ (gw 50 rfl))) (by decide) (backOf (W := 0) (rm7_18 l Z a0 hw [] a1 p4 h0 n0  O0 S_5 hk6 F7) hZ (hw _ (gw 52 rfl)) (hw _ (gw 44 rfl)) (by decide) (by decide)) q8a q8c (g := (mkF m 1 #[.val (.ref a1), .val (.ref a2), .val (.int (4 : Int32)), .val (.int (0 : Int32))] [(.ref a1)])) rfl (by rw [hml]; rfl) (Steps.refl _) (argsL := []) (rest := []) (lenOf pd_1 rfl) rfl (by show 2 * 0 + _ ≤ _; exact Nat.le_of_eq rfl) (hb hby d14_1) (fun _ _ => ⟨rfl, e0, (by decide : 0 + 0 ≤ _), (by decide : 0 + 0 ≤ _)⟩)
  dsimp only [Pt.U, Pt.locs, Pt.cells, Pt.slots] at X8 l8 y8 z8 st8 hQ8
  subst l8 y8 z8
  obtain ⟨rfl, u10, u11⟩ := hQ8
  have N8 := Fr.app N0 u10
  obtain ⟨T14, X14, e14, st14⟩ := getF X8 hx hZ hown (host := "") (Or.inl (hw _ (gw 46 rfl))) Via.refl u11 F13 (g := (mkF m 9 #[.val (.ref a1), .val (.ref a2), .val (.int (4 : Int32)), .val (.int (0 : Int32))] [(.ref a1)])) rfl rfl (hb hby d14_9)
  obtain ⟨T15, X15, e15, st15⟩ := getF X14 hx hZ hown (host := "") (Or.inl (hw _ (gw 46 rfl))) Via.refl e14 F13 (g := (mkF m 18 #[.val (.ref a1), .val (.ref a2), .val (.int (4 : Int32)), .val (.int (0 : Int32))] [(.ref a1), (.int (4 : Int32)), (.ref a2), (.int (0 : Int32)), (.ref a12)])) rfl rfl (hb hby d14_18)
  obtain ⟨cl18, Ar18, -, Sz18, Nn18, -, -⟩ := id V17
  have Vp22 : Arv Z h0 a2 k19 .byte (20 : Int32) [(.int (82 : Int32)), (.int (101 : Int32)), (.int (97 : Int32)), (.int (100 : Int32)), (.int (0 : Int32)), (.int (0 : Int32))] (.int (0 : Int32)) := V20.pad (pad_rep [(.int (82 : Int32)), (.int (101 : Int32)), (.int (97 : Int32)), (.int (100 : Int32))] (.int (0 : Int32)) 2)
  obtain ⟨T23, h23, L23, X23, e23, N23, Ku23, V23, st23⟩ := cpA X15 hx hZ hown (hw _ (gw 100 rfl)) (hw _ (gw 103 rfl)) (hw _ (gw 101 rfl)) (hw _ (gw 102 rfl)) e15 (sp := (0 : Int32)) (dp := (4 : Int32)) (nn := (2 : Int32)) (us := [(.int (44 : Int32)), (.int (32 : Int32))]) V17 Vp22 (Or.inl ⟨rfl, rfl⟩) (by decide +kernel) (by decide +kernel) (by decide +kernel) (by decide +kernel) (by decide +kernel) rfl (Nat.le_of_ble_eq_true rfl) N8 g_a2 (g := (mkF m 22 #[.val (.ref a1), .val (.ref a2), .val (.int (4 : Int32)), .val (.int (0 : Int32))] [(.int (2 : Int32)), (.int (4 : Int32)), (.ref a2), (.int (0 : Int32)), (.ref a12)])) rfl (by rw [hml]; rfl) rfl (hb hby d14_22) (by decide) (W := 0) (by show 2 * 0 + _ ≤ _; exact Nat.le_of_eq rfl) (by decide +kernel)
  have Ou23 : Old Z n0 h23 := O0.keep Ku23 (allS g_a2 all0)
  have Vc23 : Arv Z h23 a2 k19 .byte (20 : Int32) [(.int (82 : Int32)), (.int (101 : Int32)), (.int (97 : Int32)), (.int (100 : Int32)), (.int (44 : Int32)), (.int (32 : Int32))] (.int (0 : Int32)) := V23
  obtain ⟨fs, hr, hrun, hended, hW, hsame⟩ := X23.leave (v := none) (fun _ => rfl)
  have f24 : Exa Z h23 a2 "[B" := (E_21.keep Ku23)
  refine ⟨_, _, pre0 _ ?_, hrun, hended, _, _, rfl, ?_, ⟨_, rfl⟩, hW, hsame.mono (by decide) (by decide)⟩
  · show Steps p.tables e below (s₁.setTop (mkF m 0 #[.val (.ref a1), .val (.ref a2), .val (.int (4 : Int32)), .val (.int (0 : Int32))] [])) _
    refine XS.aloadN X0.here hx rfl (hb hby d14_0) rfl rfl ?_
    refine st8.trans ?_
    refine XS.iloadN X8.here hx rfl (hb hby d14_4) rfl ?_
    refine XS.icmpNo X8.here hx rfl (hb hby d14_5) rfl (teq (by decide +kernel : (0 : Int32) = (0 : Int32))).2 ?_
    refine XS.aloadN X8.here hx rfl (hb hby d14_8) rfl rfl ?_
    refine st14 _ ?_
    refine XS.iconst X14.here hx rfl (hb hby d14_12) ?_
    refine XS.aloadN X14.here hx rfl (hb hby d14_13) rfl rfl ?_
    refine XS.iloadN X14.here hx rfl (hb hby d14_14) rfl ?_
    show Steps p.tables e below (T14.setTop (mkF m 15 #[.val (.ref a1), .val (.ref a2), .val (.int (4 : Int32)), .val (.int (0 : Int32))] [(.int (4 : Int32)), (.ref a2), (.int (0 : Int32)), (.ref a12)])) _
    refine XS.iloadN X14.here hx rfl (hb hby d14_15) rfl ?_
    refine XS.ishl X14.here hx rfl (hb hby d14_16) rfl ?_
    show Steps p.tables e below (T14.setTop (mkF m 17 #[.val (.ref a1), .val (.ref a2), .val (.int (4 : Int32)), .val (.int (0 : Int32))] [(.int ((4 : Int32) <<< ((0 : Int32) &&& 31))), (.ref a2), (.int (0 : Int32)), (.ref a12)])) _
    rw [(by decide +kernel : ((4 : Int32) <<< ((0 : Int32) &&& 31)) = (4 : Int32))]
    refine XS.aloadN X14.here hx rfl (hb hby d14_17) rfl rfl ?_
    refine st15 _ ?_
    refine X15.arraylength hx (by rw [e15]; exact Ar18.1) (State.isArrayOf_alike hZ.alike Ar18.2.1) (g := (mkF m 21 #[.val (.ref a1), .val (.ref a2), .val (.int (4 : Int32)), .val (.int (0 : Int32))] [(.ref a12), (.int (4 : Int32)), (.ref a2), (.int (0 : Int32)), (.ref a12)])) rfl rfl (hb hby d14_21) _ ?_
    rw [len_of Sz18 Nn18]
    refine st23 _ ?_
    refine XS.goto X23.here hx rfl (pc0 := 25) (pc' := 43) rfl (hb hby d14_25) (by decide) (by decide) ?_
    show Steps p.tables e below (T23.setTop (mkF m 43 #[.val (.ref a1), .val (.ref a2), .val (.int (4 : Int32)), .val (.int (0 : Int32))] [])) _
    exact X23.returnOut hx Bd.returns (hb hby d14_43) hr
  · show Q14_22 Z _ _ _ _ _ _ h0 n0 _ T23.heap _
    rw [e23]
    exact ⟨rfl, N23, ((Keep.refl h0 [a2]).trans Ku23 (allS (Or.inl (List.mem_of_getElem? (i := 0) rfl)) all0)), f24, Vc23⟩
theorem ef_rm12_20 (m : MethodId) (x0 : Addr) (x2 : Addr) : entryFrame m #[(.ref x0), (.int (4 : Int32)), (.ref x2)] 3 = mkF m 0 #[.val (.ref x0), .val (.int (4 : Int32)), .val (.ref x2)] [] := by first | (simp [entryFrame, mkF, argsToLocals, Value.category]; done) | rfl
def Q12_20 (Z : State) (a1 : Addr) (a2 : Addr) (p4 : Int32) (a14 : Addr) (a18 : Addr) (k20 : ClassId) (k22 : ClassId) (h0 : Heap) (n0 : Nat) (v : Option Value) (h : Heap) (L : List Loc) : Prop := (v = none ∧ Fr n0 L ∧ Keep h0 h [a14] ∧ Exa Z h a14 "[B" ∧ Arv Z h a14 k22 .byte (20 : Int32) [(.int (82 : Int32)), (.int (101 : Int32)), (.int (97 : Int32)), (.int (100 : Int32)), (.int (44 : Int32)), (.int (32 : Int32))] (.int (0 : Int32)))
set_option maxRecDepth 65536 in
set_option maxHeartbeats 40000000 in
theorem rm12_20 (l : Launch) (Z : State) (a0 : Array Value) (hw : ∀ d ∈ own_ws, d.before a0 Z = true) (ws : List Jvm.Cond) (a1 : Addr) (a2 : Addr) (p4 : Int32) (a14 : Addr) (a18 : Addr) (k20 : ClassId) (k22 : ClassId) (h0 : Heap) (n0 : Nat) (O0 : Old Z n0 h0) (E_3 : Exa Z h0 a1 C_5) (S_5 : Sta Z Z.heap C_4 "COMPACT_STRINGS" "Z" (.int p4)) (hk6 : ¬ (p4 = (0 : Int32))) (F7 : Fld Z h0 a1 C_2 "coder" "B" (.int (0 : Int32))) (E_8 : Exa Z h0 a2 C_4) (F9 : Fld Z h0 a2 C_4 "coder" "B" (.int (0 : Int32))) (F15 : Fld Z h0 a1 C_2 "value" "[B" (.ref a14)) (F19 : Fld Z h0 a2 C_4 "value" "[B" (.ref a18)) (V21 : Arv Z h0 a18 k20 .byte (2 : Int32) [(.int (44 : Int32)), (.int (32 : Int32))] (.int 0)) (V23 : Arv Z h0 a14 k22 .byte (20 : Int32) [(.int (82 : Int32)), (.int (101 : Int32)), (.int (97 : Int32)), (.int (100 : Int32))] (.int (0 : Int32))) (E_24 : Exa Z h0 a14 "[B") (g_a14 : n0 ≤ a14) :
    MetFree l M_6 (head1 (Jvm.Cond.code M_6 jdk_68_method_73_code 3 none :: ws) ({ frames := 2, cells := 0, slots := 0, locals := 33 } : Room)) (fun a U => a = #[(.ref a1), (.int (4 : Int32)), (.ref a2)] ∧ Z.Warmed39 U.vm ∧ U.heap = h0) (fun _ _ _ _ _ => True) (fun _ U o U' => ∃ v L, o = .returned v ∧ Q12_20 Z a1 a2 p4 a14 a18 k20 k22 h0 n0 v U'.heap L ∧ FrameEnd U o U' L ({ frames := 2, cells := 0, slots := 0, locals := 33 } : Room).cells ({ frames := 2, cells := 0, slots := 0, locals := 33 } : Room).slots) := by
  refine MetFree.of_bodySF (plainFor_of_name pn_2) hisR ?_
  intro p e s m args below meth c s₁ Bd hml0 hP hK
  obtain ⟨rfl, hZ, hh⟩ := hP
  have hx := Bd.exec
  have hby := Bd.bytes
  have hml : c.maxLocals = 3 := hml0
  have hown : s.vm.findClass "java/lang/AbstractStringBuilder" = some m.cls := findClass_of_methodNamed Bd.named
  have hnm := (name_of_methodNamed Bd.named Bd.method).1
  have X0 : Stand p l e ({ frames := 2, cells := 0, slots := 0, locals := 33 } : Room) s m #[(.ref a1), (.int (4 : Int32)), (.ref a2)] below meth c s₁ [] 0 0 := Stand.of_body Bd
  have e0 : s₁.heap = h0 := by rw [← hh, Bd.state]; rfl
  have N0 := Fr.nil n0
  have pre0 : ∀ t, Steps p.tables e below (s₁.setTop (mkF m 0 #[.val (.ref a1), .val (.int (4 : Int32)), .val (.ref a2)] [])) t → Steps p.tables e below (s₁.setTop (entryFrame m #[(.ref a1), (.int (4 : Int32)), (.ref a2)] 3)) t := fun t k => castTop (ef_rm12_20 m a1 a2) k
  obtain ⟨cq10, q10, q10'⟩ := E_3.cell
  obtain ⟨_, _, ⟨T10, L10, k10, n10⟩, -, X10, ⟨Lc10, hQ10, l10, y10, z10⟩, st10⟩ := X0.privateBack hx (y := M_4) hown (mvT hZ (hw _ (gw 89 rfl))) (mvT hZ (hw _ (gw 90 rfl))) (own_selSelf (args := #[]) (mvT hZ (hw _ (gw 92 rfl))) (Cond.privateMethod_at (mvP hZ (hw _ (gw 91 rfl)) (args := #[]))) (mvT hZ (hw _ (gw 90 rfl))) (by decide)) (Cond.privateMethod_at (mvP hZ (hw _ (gw 91 rfl)) (args := #[]))) (mvT hZ (hw _ (gw 93 rfl))) (by decide) (backOf (W := 0) (rm13_21 l Z a0 hw [] a1 a2 p4 h0 n0  O0 S_5 hk6 F7 E_8 F9) hZ (hw _ (gw 93 rfl)) (hw _ (gw 35 rfl)) (by decide) (by decide)) (g := (mkF m 2 #[.val (.ref a1), .val (.int (4 : Int32)), .val (.ref a2)] [(.ref a2), (.ref a1)])) rfl (by rw [hml]; rfl) (Steps.refl _) (a := a1) (by rw [e0]; exact q10) q10' (argsL := [(.ref a2)]) (rest := []) (lenOf pd_4 rfl) rfl (by show 2 * 0 + _ ≤ _; exact Nat.le_of_eq rfl) (hb hby d12_2) (fun _ _ => ⟨rfl, e0, (by decide : 0 + 0 ≤ _), (by decide : 0 + 0 ≤ _)⟩)
  dsimp only [Pt.U, Pt.locs, Pt.cells, Pt.slots] at X10 l10 y10 z10 st10 hQ10
  subst l10 y10 z10
  obtain ⟨rfl, u12, u13⟩ := hQ10
  have N10 := Fr.app N0 u12
  obtain ⟨T16, X16, e16, st16⟩ := getF X10 hx hZ hown (host := "") (Or.inl (hw _ (gw 61 rfl))) Via.refl u13 F15 (g := (mkF m 7 #[.val (.ref a1), .val (.int (4 : Int32)), .val (.ref a2)] [(.ref a1), (.ref a2)])) rfl rfl (hb hby d12_7)
  obtain ⟨T17, X17, e17, st17⟩ := getF X16 hx hZ hown (host := "") (Or.inl (hw _ (gw 58 rfl))) Via.refl e16 F7 (g := (mkF m 12 #[.val (.ref a1), .val (.int (4 : Int32)), .val (.ref a2)] [(.ref a1), (.int (4 : Int32)), (.ref a14), (.ref a2)])) rfl rfl (hb hby d12_12)
  obtain ⟨cq25, kq25, q25a, q25b, q25c⟩ := isOf hZ e17 E_8
  obtain ⟨_, _, ⟨T25, L25, k25, n25⟩, -, X25, ⟨Lc25, hQ25, l25, y25, z25⟩, st25⟩ := X17.virtualBack hx (y := M_5) (z := M_5) hown (mvT hZ (hw _ (gw 95 rfl))) (mvT hZ (hw _ (gw 96 rfl))) (notFace_of_selects (args := #[]) (mvT hZ (hw _ (gw 98 rfl)))) (mvT hZ (hw _ (gw 98 rfl))) (mvT hZ (hw _ (gw 97 rfl))) (by decide) (backOf (W := 0) (rm14_22 l Z a0 hw [] a2 a14 p4 a18 k20 k22 h0 n0  O0 E_8 S_5 hk6 F9 F19 V21 V23 E_24 g_a14) hZ (hw _ (gw 99 rfl)) (hw _ (gw 44 rfl)) (by decide) (by decide)) q25a q25c (g := (mkF m 15 #[.val (.ref a1), .val (.int (4 : Int32)), .val (.ref a2)] [(.int (0 : Int32)), (.int (4 : Int32)), (.ref a14), (.ref a2)])) rfl (by rw [hml]; rfl) (Steps.refl _) (argsL := [(.ref a14), (.int (4 : Int32)), (.int (0 : Int32))]) (rest := []) (lenOf pd_5 rfl) rfl (by show 2 * 0 + _ ≤ _; exact Nat.le_of_eq rfl) (hb hby d12_15) (fun _ _ => ⟨rfl, e17, (by decide : 0 + 0 ≤ _), (by decide : 0 + 0 ≤ _)⟩)
  dsimp only [Pt.U, Pt.locs, Pt.cells, Pt.slots] at X25 l25 y25 z25 st25 hQ25
  subst l25 y25 z25
  obtain ⟨rfl, u27, Ku28, u29, u30⟩ := hQ25
  have Ou28 : Old Z n0 T25.heap := O0.keep Ku28 (allS g_a14 all0)
  have N25 := Fr.app N10 u27
  obtain ⟨fs, hr, hrun, hended, hW, hsame⟩ := X25.leave (v := none) (fun _ => rfl)
  refine ⟨_, _, pre0 _ ?_, hrun, hended, _, _, rfl, ?_, ⟨_, rfl⟩, hW, hsame.mono (by decide) (by decide)⟩
  · show Steps p.tables e below (s₁.setTop (mkF m 0 #[.val (.ref a1), .val (.int (4 : Int32)), .val (.ref a2)] [])) _
    refine XS.aloadN X0.here hx rfl (hb hby d12_0) rfl rfl ?_
    refine XS.aloadN X0.here hx rfl (hb hby d12_1) rfl rfl ?_
    refine st10.trans ?_
    refine XS.aloadN X10.here hx rfl (hb hby d12_5) rfl rfl ?_
    refine XS.aloadN X10.here hx rfl (hb hby d12_6) rfl rfl ?_
    refine st16 _ ?_
    refine XS.iloadN X16.here hx rfl (hb hby d12_10) rfl ?_
    refine XS.aloadN X16.here hx rfl (hb hby d12_11) rfl rfl ?_
    refine st17 _ ?_
    show Steps p.tables e below (T17.setTop (mkF m 15 #[.val (.ref a1), .val (.int (4 : Int32)), .val (.ref a2)] [(.int (0 : Int32)), (.int (4 : Int32)), (.ref a14), (.ref a2)])) _
    refine st25.trans ?_
    show Steps p.tables e below (T25.setTop (mkF m 18 #[.val (.ref a1), .val (.int (4 : Int32)), .val (.ref a2)] [])) _
    exact X25.returnOut hx Bd.returns (hb hby d12_18) hr
  · show Q12_20 Z _ _ _ _ _ _ _ h0 n0 _ T25.heap _
    exact ⟨rfl, N25, ((Keep.refl h0 [a14]).trans Ku28 (allS (Or.inl (List.mem_of_getElem? (i := 0) rfl)) all0)), u29, u30⟩
theorem ef_rm10_16 (m : MethodId) (x0 : Addr) (x1 : Addr) : entryFrame m #[(.ref x0), (.ref x1)] 3 = mkF m 0 #[.val (.ref x0), .val (.ref x1), .unset] [] := by first | (simp [entryFrame, mkF, argsToLocals, Value.category]; done) | rfl
def Q10_16 (Z : State) (a1 : Addr) (a2 : Addr) (a4 : Addr) (k6 : ClassId) (p8 : Int32) (a19 : Addr) (k21 : ClassId) (h0 : Heap) (n0 : Nat) (v : Option Value) (h : Heap) (L : List Loc) : Prop := (v = some (.ref a1) ∧ Fr n0 L ∧ Keep h0 h [a19, a1] ∧ Exa Z h a1 C_5 ∧ Fld Z h a1 C_2 "coder" "B" (.int (0 : Int32)) ∧ Fld Z h a1 C_2 "count" "I" (.int (6 : Int32)) ∧ Fld Z h a1 C_2 "value" "[B" (.ref a19) ∧ Exa Z h a19 "[B" ∧ Arv Z h a19 k21 .byte (20 : Int32) [(.int (82 : Int32)), (.int (101 : Int32)), (.int (97 : Int32)), (.int (100 : Int32)), (.int (44 : Int32)), (.int (32 : Int32))] (.int (0 : Int32)))
set_option maxRecDepth 65536 in
set_option maxHeartbeats 40000000 in
theorem rm10_16 (l : Launch) (Z : State) (a0 : Array Value) (hw : ∀ d ∈ own_ws, d.before a0 Z = true) (ws : List Jvm.Cond) (a1 : Addr) (a2 : Addr) (a4 : Addr) (k6 : ClassId) (p8 : Int32) (a19 : Addr) (k21 : ClassId) (h0 : Heap) (n0 : Nat) (O0 : Old Z n0 h0) (E_3 : Exa Z h0 a2 C_4) (F5 : Fld Z h0 a2 C_4 "value" "[B" (.ref a4)) (V7 : Arv Z h0 a4 k6 .byte (2 : Int32) [(.int (44 : Int32)), (.int (32 : Int32))] (.int 0)) (S_9 : Sta Z Z.heap C_4 "COMPACT_STRINGS" "Z" (.int p8)) (hk10 : ¬ (p8 = (0 : Int32))) (F11 : Fld Z h0 a2 C_4 "coder" "B" (.int (0 : Int32))) (F16 : Fld Z h0 a1 C_2 "count" "I" (.int (4 : Int32))) (E_18 : Exa Z h0 a1 C_5) (F20 : Fld Z h0 a1 C_2 "value" "[B" (.ref a19)) (V22 : Arv Z h0 a19 k21 .byte (20 : Int32) [(.int (82 : Int32)), (.int (101 : Int32)), (.int (97 : Int32)), (.int (100 : Int32))] (.int (0 : Int32))) (F23 : Fld Z h0 a1 C_2 "coder" "B" (.int (0 : Int32))) (E_29 : Exa Z h0 a19 "[B") (g_a19 : n0 ≤ a19) (hne36 : a1 ≠ a19) (g_a1 : n0 ≤ a1) :
    MetFree l M_7 (head1 (Jvm.Cond.code M_7 jdk_68_method_22_code 3 (some (.object "java/lang/AbstractStringBuilder")) :: ws) ({ frames := 3, cells := 0, slots := 0, locals := 47 } : Room)) (fun a U => a = #[(.ref a1), (.ref a2)] ∧ Z.Warmed39 U.vm ∧ U.heap = h0) (fun _ _ _ _ _ => True) (fun _ U o U' => ∃ v L, o = .returned v ∧ Q10_16 Z a1 a2 a4 k6 p8 a19 k21 h0 n0 v U'.heap L ∧ FrameEnd U o U' L ({ frames := 3, cells := 0, slots := 0, locals := 47 } : Room).cells ({ frames := 3, cells := 0, slots := 0, locals := 47 } : Room).slots) := by
  refine MetFree.of_bodySF (plainFor_of_name pn_2) hisR ?_
  intro p e s m args below meth c s₁ Bd hml0 hP hK
  obtain ⟨rfl, hZ, hh⟩ := hP
  have hx := Bd.exec
  have hby := Bd.bytes
  have hml : c.maxLocals = 3 := hml0
  have hown : s.vm.findClass "java/lang/AbstractStringBuilder" = some m.cls := findClass_of_methodNamed Bd.named
  have hnm := (name_of_methodNamed Bd.named Bd.method).1
  have X0 : Stand p l e ({ frames := 3, cells := 0, slots := 0, locals := 47 } : Room) s m #[(.ref a1), (.ref a2)] below meth c s₁ [] 0 0 := Stand.of_body Bd
  have e0 : s₁.heap = h0 := by rw [← hh, Bd.state]; rfl
  have N0 := Fr.nil n0
  have pre0 : ∀ t, Steps p.tables e below (s₁.setTop (mkF m 0 #[.val (.ref a1), .val (.ref a2), .unset] [])) t → Steps p.tables e below (s₁.setTop (entryFrame m #[(.ref a1), (.ref a2)] 3)) t := fun t k => castTop (ef_rm10_16 m a1 a2) k
  obtain ⟨cq12, kq12, q12a, q12b, q12c⟩ := isOf hZ e0 E_3
  obtain ⟨_, _, ⟨T12, L12, k12, n12⟩, -, X12, ⟨Lc12, hQ12, l12, y12, z12⟩, st12⟩ := X0.virtualBack hx (y := M_2) (z := M_2) hown (mvT hZ (hw _ (gw 40 rfl))) (mvT hZ (hw _ (gw 41 rfl))) (notFace_of_selects (args := #[]) (mvT hZ (hw _ (gw 43 rfl)))) (mvT hZ (hw _ (gw 43 rfl))) (mvT hZ (hw _ (gw 42 rfl))) (by decide) (backOf (W := 0) (rm6_17 l Z a0 hw [] a2 a4 k6 p8 h0 n0  O0 F5 V7 E_3 S_9 hk10 F11) hZ (hw _ (gw 45 rfl)) (hw _ (gw 44 rfl)) (by decide) (by decide)) q12a q12c (g := (mkF m 10 #[.val (.ref a1), .val (.ref a2), .unset] [(.ref a2)])) rfl (by rw [hml]; rfl) (Steps.refl _) (argsL := []) (rest := []) (lenOf pd_2 rfl) rfl (by show 2 * 0 + _ ≤ _; exact Nat.le_of_eq rfl) (hb hby d10_10) (fun _ _ => ⟨rfl, e0, (by decide : 0 + 0 ≤ _), (by decide : 0 + 0 ≤ _)⟩)
  dsimp only [Pt.U, Pt.locs, Pt.cells, Pt.slots] at X12 l12 y12 z12 st12 hQ12
  subst l12 y12 z12
  obtain ⟨rfl, u14, u15⟩ := hQ12
  have N12 := Fr.app N0 u14
  obtain ⟨T17, X17, e17, st17⟩ := getF X12 hx hZ hown (host := "") (Or.inl (hw _ (gw 77 rfl))) Via.refl u15 F16 (g := (mkF m 16 #[.val (.ref a1), .val (.ref a2), .val (.int (2 : Int32))] [(.ref a1), (.ref a1)])) rfl rfl (hb hby d10_16)
  obtain ⟨cq24, q24, q24'⟩ := E_18.cell
  obtain ⟨_, _, ⟨T24, L24, k24, n24⟩, -, X24, ⟨Lc24, hQ24, l24, y24, z24⟩, st24⟩ := X17.privateBack hx (y := M_3) hown (mvT hZ (hw _ (gw 79 rfl))) (mvT hZ (hw _ (gw 80 rfl))) (own_selSelf (args := #[]) (mvT hZ (hw _ (gw 82 rfl))) (Cond.privateMethod_at (mvP hZ (hw _ (gw 81 rfl)) (args := #[]))) (mvT hZ (hw _ (gw 80 rfl))) (by decide)) (Cond.privateMethod_at (mvP hZ (hw _ (gw 81 rfl)) (args := #[]))) (mvT hZ (hw _ (gw 83 rfl))) (by decide) (backOf (W := 0) (rm11_19 l Z a0 hw [] a1 a19 k21 h0 n0  O0 F20 V22 F23) hZ (hw _ (gw 83 rfl)) (hw _ (gw 35 rfl)) (by decide) (by decide)) (g := (mkF m 21 #[.val (.ref a1), .val (.ref a2), .val (.int (2 : Int32))] [(.int (6 : Int32)), (.ref a1)])) rfl (by rw [hml]; rfl) (Steps.refl _) (a := a1) (by rw [e17]; exact q24) q24' (argsL := [(.int (6 : Int32))]) (rest := []) (lenOf pd_3 rfl) rfl (by show 2 * 0 + _ ≤ _; exact Nat.le_of_eq rfl) (hb hby d10_21) (fun _ _ => ⟨rfl, e17, (by decide : 0 + 0 ≤ _), (by decide : 0 + 0 ≤ _)⟩)
  dsimp only [Pt.U, Pt.locs, Pt.cells, Pt.slots] at X24 l24 y24 z24 st24 hQ24
  subst l24 y24 z24
  obtain ⟨rfl, u26, u27⟩ := hQ24
  have N24 := Fr.app N12 u26
  obtain ⟨T28, X28, e28, st28⟩ := getF X24 hx hZ hown (host := "") (Or.inl (hw _ (gw 77 rfl))) Via.refl u27 F16 (g := (mkF m 26 #[.val (.ref a1), .val (.ref a2), .val (.int (2 : Int32))] [(.ref a1), (.ref a1)])) rfl rfl (hb hby d10_26)
  obtain ⟨cq30, q30, q30'⟩ := E_18.cell
  obtain ⟨_, _, ⟨T30, L30, k30, n30⟩, -, X30, ⟨Lc30, hQ30, l30, y30, z30⟩, st30⟩ := X28.privateBack hx (y := M_6) hown (mvT hZ (hw _ (gw 84 rfl))) (mvT hZ (hw _ (gw 85 rfl))) (own_selSelf (args := #[]) (mvT hZ (hw _ (gw 87 rfl))) (Cond.privateMethod_at (mvP hZ (hw _ (gw 86 rfl)) (args := #[]))) (mvT hZ (hw _ (gw 85 rfl))) (by decide)) (Cond.privateMethod_at (mvP hZ (hw _ (gw 86 rfl)) (args := #[]))) (mvT hZ (hw _ (gw 88 rfl))) (by decide) (backOf (W := 0) (rm12_20 l Z a0 hw [] a1 a2 p8 a19 a4 k6 k21 h0 n0  O0 E_18 S_9 hk10 F23 E_3 F11 F20 F5 V7 V22 E_29 g_a19) hZ (hw _ (gw 88 rfl)) (hw _ (gw 35 rfl)) (by decide) (by decide)) (g := (mkF m 30 #[.val (.ref a1), .val (.ref a2), .val (.int (2 : Int32))] [(.ref a2), (.int (4 : Int32)), (.ref a1)])) rfl (by rw [hml]; rfl) (Steps.refl _) (a := a1) (by rw [e28]; exact q30) q30' (argsL := [(.int (4 : Int32)), (.ref a2)]) (rest := []) (lenOf pd_6 rfl) rfl (by show 2 * 0 + _ ≤ _; exact Nat.le_of_eq rfl) (hb hby d10_30) (fun _ _ => ⟨rfl, e28, (by decide : 0 + 0 ≤ _), (by decide : 0 + 0 ≤ _)⟩)
  dsimp only [Pt.U, Pt.locs, Pt.cells, Pt.slots] at X30 l30 y30 z30 st30 hQ30
  subst l30 y30 z30
  obtain ⟨rfl, u32, Ku33, u34, u35⟩ := hQ30
  have Ou33 : Old Z n0 T30.heap := O0.keep Ku33 (allS g_a19 all0)
  have N30 := Fr.app N24 u32
  have f37 : Fld Z T30.heap a1 C_2 "count" "I" (.int (4 : Int32)) := (F16.keep Ku33 (ninS hne36 nin0))
  obtain ⟨T38, X38, e38, st38⟩ := getF X30 hx hZ hown (host := "") (Or.inl (hw _ (gw 77 rfl))) Via.refl rfl f37 (g := (mkF m 35 #[.val (.ref a1), .val (.ref a2), .val (.int (2 : Int32))] [(.ref a1), (.ref a1)])) rfl rfl (hb hby d10_35)
  have f39 : Exa Z T30.heap a1 C_5 := (E_18.keep Ku33)
  obtain ⟨T40, h40, X40, e40, W40, st40⟩ := putF X38 hx hZ hown (host := "") (Or.inl (hw _ (gw 77 rfl))) Via.refl e38 f37 f39 (Or.inl (hw _ (gw 78 rfl))) (hw _ (gw 24 rfl)) (ty := .int) (by decide) rfl rfl (g := (mkF m 40 #[.val (.ref a1), .val (.ref a2), .val (.int (2 : Int32))] [(.int (6 : Int32)), (.ref a1)])) rfl rfl (hb hby d10_40)
  have O40 : Old Z n0 h40 := Ou33.wr W40 g_a1
  have Fw40 : Fld Z h40 a1 C_2 "count" "I" (.int (6 : Int32)) := Fld.same W40 f37
  have N40 := Fr.snoc X40 N30 g_a1
  obtain ⟨fs, hr, hrun, hended, hW, hsame⟩ := X40.leave (v := some (.ref a1)) (fun h => by rw [Bd.returns] at h; cases h)
  have f41 : Exa Z h40 a1 C_5 := (Exa.wr W40 f39)
  have f42 : Fld Z h40 a1 C_2 "coder" "B" (.int (0 : Int32)) := (Fld.other W40 (F23.keep Ku33 (ninS hne36 nin0)) (Or.inr (slot_ne (Or.inl (hw _ (gw 59 rfl))) (Or.inl (hw _ (gw 78 rfl))) (by decide) (t := .byte) (t' := .int) (by decide) (by decide))))
  have f43 : Fld Z h40 a1 C_2 "value" "[B" (.ref a19) := (Fld.other W40 (F20.keep Ku33 (ninS hne36 nin0)) (Or.inr (slot_ne (Or.inl (hw _ (gw 62 rfl))) (Or.inl (hw _ (gw 78 rfl))) (by decide) (t := (.array .byte)) (t' := .int) (by decide) (by decide))))
  have f44 : Exa Z h40 a19 "[B" := (Exa.wr W40 u34)
  have f45 : Arv Z h40 a19 k21 .byte (20 : Int32) [(.int (82 : Int32)), (.int (101 : Int32)), (.int (97 : Int32)), (.int (100 : Int32)), (.int (44 : Int32)), (.int (32 : Int32))] (.int (0 : Int32)) := (u35.other W40 (Ne.symm hne36))
  refine ⟨_, _, pre0 _ ?_, hrun, hended, _, _, rfl, ?_, ⟨_, rfl⟩, hW, hsame.mono (by decide) (by decide)⟩
  · show Steps p.tables e below (s₁.setTop (mkF m 0 #[.val (.ref a1), .val (.ref a2), .unset] [])) _
    refine XS.aloadN X0.here hx rfl (hb hby d10_0) rfl rfl ?_
    refine XS.ifnonnullYes X0.here hx rfl (pc0 := 1) (pc' := 9) rfl (hb hby d10_1) rfl (by decide) (by decide) ?_
    refine XS.aloadN X0.here hx rfl (hb hby d10_9) rfl rfl ?_
    refine st12.trans ?_
    refine XS.istoreN X12.here hx rfl (hb hby d10_13) rfl (l' := #[.val (.ref a1), .val (.ref a2), .val (.int (2 : Int32))]) rfl ?_
    refine XS.aloadN X12.here hx rfl (hb hby d10_14) rfl rfl ?_
    refine XS.aloadN X12.here hx rfl (hb hby d10_15) rfl rfl ?_
    refine st17 _ ?_
    refine XS.iloadN X17.here hx rfl (hb hby d10_19) rfl ?_
    show Steps p.tables e below (T17.setTop (mkF m 20 #[.val (.ref a1), .val (.ref a2), .val (.int (2 : Int32))] [(.int (2 : Int32)), (.int (4 : Int32)), (.ref a1)])) _
    refine XS.iadd X17.here hx rfl (hb hby d10_20) rfl ?_
    show Steps p.tables e below (T17.setTop (mkF m 21 #[.val (.ref a1), .val (.ref a2), .val (.int (2 : Int32))] [(.int ((4 : Int32) + (2 : Int32))), (.ref a1)])) _
    rw [(by decide +kernel : ((4 : Int32) + (2 : Int32)) = (6 : Int32))]
    refine st24.trans ?_
    refine XS.aloadN X24.here hx rfl (hb hby d10_24) rfl rfl ?_
    refine XS.aloadN X24.here hx rfl (hb hby d10_25) rfl rfl ?_
    refine st28 _ ?_
    refine XS.aloadN X28.here hx rfl (hb hby d10_29) rfl rfl ?_
    refine st30.trans ?_
    refine XS.aloadN X30.here hx rfl (hb hby d10_33) rfl rfl ?_
    refine XS.dup X30.here hx rfl (hb hby d10_34) rfl rfl ?_
    show Steps p.tables e below (T30.setTop (mkF m 35 #[.val (.ref a1), .val (.ref a2), .val (.int (2 : Int32))] [(.ref a1), (.ref a1)])) _
    refine st38 _ ?_
    refine XS.iloadN X38.here hx rfl (hb hby d10_38) rfl ?_
    refine XS.iadd X38.here hx rfl (hb hby d10_39) rfl ?_
    show Steps p.tables e below (T38.setTop (mkF m 40 #[.val (.ref a1), .val (.ref a2), .val (.int (2 : Int32))] [(.int ((4 : Int32) + (2 : Int32))), (.ref a1)])) _
    rw [(by decide +kernel : ((4 : Int32) + (2 : Int32)) = (6 : Int32))]
    refine st40 _ ?_
    refine XS.aloadN X40.here hx rfl (hb hby d10_43) rfl rfl ?_
    show Steps p.tables e below (T40.setTop (mkF m 44 #[.val (.ref a1), .val (.ref a2), .val (.int (2 : Int32))] [(.ref a1)])) _
    jvm_step X40.here [X40.here.top, hx, (hb hby d10_44), X40.method', Bd.returns, Value.isRef, FieldType.isReference]
    first | (intro acts; rw [hr _ acts rfl rfl rfl]) | rw [hr _ _ rfl rfl rfl]
    exact Steps.refl _
  · show Q10_16 Z _ _ _ _ _ _ _ h0 n0 _ T40.heap _
    rw [e40]
    exact ⟨rfl, N40, (((Keep.refl h0 [a19, a1]).trans Ku33 (allS (Or.inl (List.mem_of_getElem? (i := 0) rfl)) all0)).wr W40 (Or.inl (List.mem_of_getElem? (i := 1) rfl))), f41, f42, Fw40, f43, f44, f45⟩
theorem ef_rm9_15 (m : MethodId) (x0 : Addr) (x1 : Addr) : entryFrame m #[(.ref x0), (.ref x1)] 2 = mkF m 0 #[.val (.ref x0), .val (.ref x1)] [] := by first | (simp [entryFrame, mkF, argsToLocals, Value.category]; done) | rfl
def Q9_15 (Z : State) (a1 : Addr) (a2 : Addr) (a5 : Addr) (k7 : ClassId) (p9 : Int32) (a14 : Addr) (k16 : ClassId) (h0 : Heap) (n0 : Nat) (v : Option Value) (h : Heap) (L : List Loc) : Prop := (v = some (.ref a1) ∧ Fr n0 L ∧ Keep h0 h [a14, a1] ∧ Exa Z h a1 C_5 ∧ Fld Z h a1 C_2 "coder" "B" (.int (0 : Int32)) ∧ Fld Z h a1 C_2 "count" "I" (.int (6 : Int32)) ∧ Fld Z h a1 C_2 "value" "[B" (.ref a14) ∧ Exa Z h a14 "[B" ∧ Arv Z h a14 k16 .byte (20 : Int32) [(.int (82 : Int32)), (.int (101 : Int32)), (.int (97 : Int32)), (.int (100 : Int32)), (.int (44 : Int32)), (.int (32 : Int32))] (.int (0 : Int32)))
set_option maxRecDepth 65536 in
set_option maxHeartbeats 40000000 in
theorem rm9_15 (l : Launch) (Z : State) (a0 : Array Value) (hw : ∀ d ∈ own_ws, d.before a0 Z = true) (ws : List Jvm.Cond) (a1 : Addr) (a2 : Addr) (a5 : Addr) (k7 : ClassId) (p9 : Int32) (a14 : Addr) (k16 : ClassId) (h0 : Heap) (n0 : Nat) (O0 : Old Z n0 h0) (E_3 : Exa Z h0 a1 C_5) (E_4 : Exa Z h0 a2 C_4) (F6 : Fld Z h0 a2 C_4 "value" "[B" (.ref a5)) (V8 : Arv Z h0 a5 k7 .byte (2 : Int32) [(.int (44 : Int32)), (.int (32 : Int32))] (.int 0)) (S_10 : Sta Z Z.heap C_4 "COMPACT_STRINGS" "Z" (.int p9)) (hk11 : ¬ (p9 = (0 : Int32))) (F12 : Fld Z h0 a2 C_4 "coder" "B" (.int (0 : Int32))) (F13 : Fld Z h0 a1 C_2 "count" "I" (.int (4 : Int32))) (F15 : Fld Z h0 a1 C_2 "value" "[B" (.ref a14)) (V17 : Arv Z h0 a14 k16 .byte (20 : Int32) [(.int (82 : Int32)), (.int (101 : Int32)), (.int (97 : Int32)), (.int (100 : Int32))] (.int (0 : Int32))) (F18 : Fld Z h0 a1 C_2 "coder" "B" (.int (0 : Int32))) (E_19 : Exa Z h0 a14 "[B") (hne20 : a1 ≠ a14) (g_a14 : n0 ≤ a14) (g_a1 : n0 ≤ a1) :
    MetFree l M_8 (head1 (Jvm.Cond.code M_8 jdk_67_method_7_code 2 (some (.object "java/lang/StringBuilder")) :: ws) ({ frames := 4, cells := 0, slots := 0, locals := 61 } : Room)) (fun a U => a = #[(.ref a1), (.ref a2)] ∧ Z.Warmed39 U.vm ∧ U.heap = h0) (fun _ _ _ _ _ => True) (fun _ U o U' => ∃ v L, o = .returned v ∧ Q9_15 Z a1 a2 a5 k7 p9 a14 k16 h0 n0 v U'.heap L ∧ FrameEnd U o U' L ({ frames := 4, cells := 0, slots := 0, locals := 61 } : Room).cells ({ frames := 4, cells := 0, slots := 0, locals := 61 } : Room).slots) := by
  refine MetFree.of_bodySF (plainFor_of_name pn_3) hisR ?_
  intro p e s m args below meth c s₁ Bd hml0 hP hK
  obtain ⟨rfl, hZ, hh⟩ := hP
  have hx := Bd.exec
  have hby := Bd.bytes
  have hml : c.maxLocals = 2 := hml0
  have hown : s.vm.findClass "java/lang/StringBuilder" = some m.cls := findClass_of_methodNamed Bd.named
  have hnm := (name_of_methodNamed Bd.named Bd.method).1
  have X0 : Stand p l e ({ frames := 4, cells := 0, slots := 0, locals := 61 } : Room) s m #[(.ref a1), (.ref a2)] below meth c s₁ [] 0 0 := Stand.of_body Bd
  have e0 : s₁.heap = h0 := by rw [← hh, Bd.state]; rfl
  have N0 := Fr.nil n0
  have pre0 : ∀ t, Steps p.tables e below (s₁.setTop (mkF m 0 #[.val (.ref a1), .val (.ref a2)] [])) t → Steps p.tables e below (s₁.setTop (entryFrame m #[(.ref a1), (.ref a2)] 2)) t := fun t k => castTop (ef_rm9_15 m a1 a2) k
  obtain ⟨_, _, ⟨T21, L21, k21, n21⟩, -, X21, ⟨Lc21, hQ21, l21, y21, z21⟩, st21⟩ := superBack X0 hx hZ (y := M_7) hown (hw _ (gw 74 rfl)) (own_sameSelf (y := M_7) (y' := M_3) rfl (hw _ (gw 82 rfl)) (hw _ (gw 65 rfl)) (by decide)) (hw _ (gw 65 rfl)) (hw _ (gw 75 rfl)) (by decide) (backOf (W := 0) (rm10_16 l Z a0 hw [] a1 a2 a5 k7 p9 a14 k16 h0 n0  O0 E_4 F6 V8 S_10 hk11 F12 F13 E_3 F15 V17 F18 E_19 g_a14 hne20 g_a1) hZ (hw _ (gw 76 rfl)) (hw _ (gw 35 rfl)) (by decide) (by decide)) e0 (Ins.self E_3) (g := (mkF m 2 #[.val (.ref a1), .val (.ref a2)] [(.ref a2), (.ref a1)])) rfl (by rw [hml]; rfl) (hw _ (gw 76 rfl)) (argsL := [(.ref a2)]) (rest := []) (lenOf pd_7 rfl) rfl (by show 2 * 0 + _ ≤ _; exact Nat.le_of_eq rfl) (hb hby d9_2) (fun _ _ => ⟨rfl, e0, (by decide : 0 + 0 ≤ _), (by decide : 0 + 0 ≤ _)⟩)
  dsimp only [Pt.U, Pt.locs, Pt.cells, Pt.slots] at X21 l21 y21 z21 st21 hQ21
  subst l21 y21 z21
  obtain ⟨rfl, u23, Ku24, u25, u26, u27, u28, u29, u30⟩ := hQ21
  have Ou24 : Old Z n0 T21.heap := O0.keep Ku24 (allS g_a14 (allS g_a1 all0))
  have N21 := Fr.app N0 u23
  obtain ⟨fs, hr, hrun, hended, hW, hsame⟩ := X21.leave (v := some (.ref a1)) (fun h => by rw [Bd.returns] at h; cases h)
  refine ⟨_, _, pre0 _ ?_, hrun, hended, _, _, rfl, ?_, ⟨_, rfl⟩, hW, hsame.mono (by decide) (by decide)⟩
  · show Steps p.tables e below (s₁.setTop (mkF m 0 #[.val (.ref a1), .val (.ref a2)] [])) _
    refine XS.aloadN X0.here hx rfl (hb hby d9_0) rfl rfl ?_
    refine XS.aloadN X0.here hx rfl (hb hby d9_1) rfl rfl ?_
    refine st21.trans ?_
    refine XS.pop X21.here hx rfl (hb hby d9_5) rfl rfl ?_
    refine XS.aloadN X21.here hx rfl (hb hby d9_6) rfl rfl ?_
    show Steps p.tables e below (T21.setTop (mkF m 7 #[.val (.ref a1), .val (.ref a2)] [(.ref a1)])) _
    jvm_step X21.here [X21.here.top, hx, (hb hby d9_7), X21.method', Bd.returns, Value.isRef, FieldType.isReference]
    first | (intro acts; rw [hr _ acts rfl rfl rfl]) | rw [hr _ _ rfl rfl rfl]
    exact Steps.refl _
  · show Q9_15 Z _ _ _ _ _ _ _ h0 n0 _ T21.heap _
    exact ⟨rfl, N21, ((Keep.refl h0 [a14, a1]).trans Ku24 (allS (Or.inl (List.mem_of_getElem? (i := 0) rfl)) (allS (Or.inl (List.mem_of_getElem? (i := 1) rfl)) all0))), u25, u26, u27, u28, u29, u30⟩
theorem ef_rm6_25 (m : MethodId) (x0 : Addr) : entryFrame m #[(.ref x0)] 1 = mkF m 0 #[.val (.ref x0)] [] := by first | (simp [entryFrame, mkF, argsToLocals, Value.category]; done) | rfl
def Q6_25 (Z : State) (a1 : Addr) (a2 : Addr) (k5 : ClassId) (p9 : Int32) (h0 : Heap) (n0 : Nat) (v : Option Value) (h : Heap) (L : List Loc) : Prop := (v = some (.int (5 : Int32)) ∧ Fr n0 L ∧ h = h0)
set_option maxRecDepth 65536 in
set_option maxHeartbeats 40000000 in
theorem rm6_25 (l : Launch) (Z : State) (a0 : Array Value) (hw : ∀ d ∈ own_ws, d.before a0 Z = true) (ws : List Jvm.Cond) (a1 : Addr) (a2 : Addr) (k5 : ClassId) (p9 : Int32) (h0 : Heap) (n0 : Nat) (O0 : Old Z n0 h0) (F3 : Fld Z Z.heap a1 C_4 "value" "[B" (.ref a2)) (V6 : Arv Z Z.heap a2 k5 .byte (5 : Int32) [(.int (87 : Int32)), (.int (114 : Int32)), (.int (105 : Int32)), (.int (116 : Int32)), (.int (101 : Int32))] (.int (0 : Int32))) (E_8 : Exa Z Z.heap a1 C_4) (S_10 : Sta Z Z.heap C_4 "COMPACT_STRINGS" "Z" (.int p9)) (hk11 : ¬ (p9 = (0 : Int32))) (F12 : Fld Z Z.heap a1 C_4 "coder" "B" (.int (0 : Int32))) :
    MetFree l M_2 (head1 (Jvm.Cond.code M_2 jdk_42_method_54_code 1 (some .int) :: ws) ({ frames := 1, cells := 0, slots := 0, locals := 13 } : Room)) (fun a U => a = #[(.ref a1)] ∧ Z.Warmed39 U.vm ∧ U.heap = h0) (fun _ _ _ _ _ => True) (fun _ U o U' => ∃ v L, o = .returned v ∧ Q6_25 Z a1 a2 k5 p9 h0 n0 v U'.heap L ∧ FrameEnd U o U' L ({ frames := 1, cells := 0, slots := 0, locals := 13 } : Room).cells ({ frames := 1, cells := 0, slots := 0, locals := 13 } : Room).slots) := by
  refine MetFree.of_bodySF (plainFor_of_name pn_1) hisR ?_
  intro p e s m args below meth c s₁ Bd hml0 hP hK
  obtain ⟨rfl, hZ, hh⟩ := hP
  have hx := Bd.exec
  have hby := Bd.bytes
  have hml : c.maxLocals = 1 := hml0
  have hown : s.vm.findClass "java/lang/String" = some m.cls := findClass_of_methodNamed Bd.named
  have hnm := (name_of_methodNamed Bd.named Bd.method).1
  have X0 : Stand p l e ({ frames := 1, cells := 0, slots := 0, locals := 13 } : Room) s m #[(.ref a1)] below meth c s₁ [] 0 0 := Stand.of_body Bd
  have e0 : s₁.heap = h0 := by rw [← hh, Bd.state]; rfl
  have N0 := Fr.nil n0
  have pre0 : ∀ t, Steps p.tables e below (s₁.setTop (mkF m 0 #[.val (.ref a1)] [])) t → Steps p.tables e below (s₁.setTop (entryFrame m #[(.ref a1)] 1)) t := fun t k => castTop (ef_rm6_25 m a1) k
  obtain ⟨T4, X4, e4, st4⟩ := getF X0 hx hZ hown (host := "") (Or.inl (hw _ (gw 46 rfl))) Via.refl e0 (Fld.ext O0.2 F3) (g := (mkF m 1 #[.val (.ref a1)] [(.ref a1)])) rfl rfl (hb hby d6_1)
  obtain ⟨cl7, Ar7, -, Sz7, Nn7, -, -⟩ := id (V6.ext O0.2)
  obtain ⟨cq13, kq13, q13a, q13b, q13c⟩ := isOf hZ e4 (Exa.ext O0.2 E_8)
  obtain ⟨_, _, ⟨T13, L13, k13, n13⟩, -, X13, ⟨Lc13, hQ13, l13, y13, z13⟩, st13⟩ := X4.virtualBack hx (y := M_1) (z := M_1) hown (mvT hZ (hw _ (gw 48 rfl))) (mvT hZ (hw _ (gw 49 rfl))) (notFace_of_selects (args := #[]) (mvT hZ (hw _ (gw 51 rfl)))) (mvT hZ (hw _ (gw 51 rfl))) (mvT hZ (hw _ (gw 50 rfl))) (by decide) (backOf (W := 1) (rm7_7 l Z a0 hw [] a1 p9 h0 n0  O0 S_10 hk11 F12) hZ (hw _ (gw 52 rfl)) (hw _ (gw 44 rfl)) (by decide) (by decide)) q13a q13c (g := (mkF m 6 #[.val (.ref a1)] [(.ref a1), (.int (5 : Int32))])) rfl (by rw [hml]; rfl) (Steps.refl _) (argsL := []) (rest := [(.int (5 : Int32))]) (lenOf pd_1 rfl) rfl (by show 2 * 0 + _ ≤ _; exact Nat.le_of_eq rfl) (hb hby d6_6) (fun _ _ => ⟨rfl, e4, (by decide : 0 + 0 ≤ _), (by decide : 0 + 0 ≤ _)⟩)
  dsimp only [Pt.U, Pt.locs, Pt.cells, Pt.slots] at X13 l13 y13 z13 st13 hQ13
  subst l13 y13 z13
  obtain ⟨rfl, u15, u16⟩ := hQ13
  have N13 := Fr.app N0 u15
  obtain ⟨fs, hr, hrun, hended, hW, hsame⟩ := X13.leave (v := some (.int (5 : Int32))) (fun h => by rw [Bd.returns] at h; cases h)
  refine ⟨_, _, pre0 _ ?_, hrun, hended, _, _, rfl, ?_, ⟨_, rfl⟩, hW, hsame.mono (by decide) (by decide)⟩
  · show Steps p.tables e below (s₁.setTop (mkF m 0 #[.val (.ref a1)] [])) _
    refine XS.aloadN X0.here hx rfl (hb hby d6_0) rfl rfl ?_
    refine st4 _ ?_
    refine X4.arraylength hx (by rw [e4]; exact Ar7.1) (State.isArrayOf_alike hZ.alike Ar7.2.1) (g := (mkF m 4 #[.val (.ref a1)] [(.ref a2)])) rfl rfl (hb hby d6_4) _ ?_
    rw [len_of Sz7 Nn7]
    refine XS.aloadN X4.here hx rfl (hb hby d6_5) rfl rfl ?_
    refine st13.trans ?_
    refine XS.ishr X13.here hx rfl (hb hby d6_9) rfl ?_
    show Steps p.tables e below (T13.setTop (mkF m 10 #[.val (.ref a1)] [(.int ((5 : Int32) >>> ((0 : Int32) &&& 31)))])) _
    rw [(by decide +kernel : ((5 : Int32) >>> ((0 : Int32) &&& 31)) = (5 : Int32))]
    show Steps p.tables e below (T13.setTop (mkF m 10 #[.val (.ref a1)] [(.int (5 : Int32))])) _
    exact retI X13 hx Bd.returns (hb hby d6_10) hr
  · show Q6_25 Z _ _ _ _ h0 n0 _ T13.heap _
    rw [u16]
    exact ⟨rfl, N13, rfl⟩
theorem ef_rm11_26 (m : MethodId) (x0 : Addr) : entryFrame m #[(.ref x0), (.int (11 : Int32))] 3 = mkF m 0 #[.val (.ref x0), .val (.int (11 : Int32)), .unset] [] := by first | (simp [entryFrame, mkF, argsToLocals, Value.category]; done) | rfl
def Q11_26 (Z : State) (a1 : Addr) (a2 : Addr) (k5 : ClassId) (h0 : Heap) (n0 : Nat) (v : Option Value) (h : Heap) (L : List Loc) : Prop := (v = none ∧ Fr n0 L ∧ h = h0)
set_option maxRecDepth 65536 in
set_option maxHeartbeats 40000000 in
theorem rm11_26 (l : Launch) (Z : State) (a0 : Array Value) (hw : ∀ d ∈ own_ws, d.before a0 Z = true) (ws : List Jvm.Cond) (a1 : Addr) (a2 : Addr) (k5 : ClassId) (h0 : Heap) (n0 : Nat) (O0 : Old Z n0 h0) (F3 : Fld Z h0 a1 C_2 "value" "[B" (.ref a2)) (V6 : Arv Z h0 a2 k5 .byte (20 : Int32) [(.int (82 : Int32)), (.int (101 : Int32)), (.int (97 : Int32)), (.int (100 : Int32)), (.int (44 : Int32)), (.int (32 : Int32))] (.int (0 : Int32))) (F8 : Fld Z h0 a1 C_2 "coder" "B" (.int (0 : Int32))) :
    MetFree l M_3 (head1 (Jvm.Cond.code M_3 jdk_68_method_9_code 3 none :: ws) ({ frames := 0, cells := 0, slots := 0, locals := 0 } : Room)) (fun a U => a = #[(.ref a1), (.int (11 : Int32))] ∧ Z.Warmed39 U.vm ∧ U.heap = h0) (fun _ _ _ _ _ => True) (fun _ U o U' => ∃ v L, o = .returned v ∧ Q11_26 Z a1 a2 k5 h0 n0 v U'.heap L ∧ FrameEnd U o U' L ({ frames := 0, cells := 0, slots := 0, locals := 0 } : Room).cells ({ frames := 0, cells := 0, slots := 0, locals := 0 } : Room).slots) := by
  refine MetFree.of_bodySF (plainFor_of_name pn_2) hisR ?_
  intro p e s m args below meth c s₁ Bd hml0 hP hK
  obtain ⟨rfl, hZ, hh⟩ := hP
  have hx := Bd.exec
  have hby := Bd.bytes
  have hml : c.maxLocals = 3 := hml0
  have hown : s.vm.findClass "java/lang/AbstractStringBuilder" = some m.cls := findClass_of_methodNamed Bd.named
  have hnm := (name_of_methodNamed Bd.named Bd.method).1
  have X0 : Stand p l e ({ frames := 0, cells := 0, slots := 0, locals := 0 } : Room) s m #[(.ref a1), (.int (11 : Int32))] below meth c s₁ [] 0 0 := Stand.of_body Bd
  have e0 : s₁.heap = h0 := by rw [← hh, Bd.state]; rfl
  have N0 := Fr.nil n0
  have pre0 : ∀ t, Steps p.tables e below (s₁.setTop (mkF m 0 #[.val (.ref a1), .val (.int (11 : Int32)), .unset] [])) t → Steps p.tables e below (s₁.setTop (entryFrame m #[(.ref a1), (.int (11 : Int32))] 3)) t := fun t k => castTop (ef_rm11_26 m a1) k
  obtain ⟨T4, X4, e4, st4⟩ := getF X0 hx hZ hown (host := "") (Or.inl (hw _ (gw 61 rfl))) Via.refl e0 F3 (g := (mkF m 1 #[.val (.ref a1), .val (.int (11 : Int32)), .unset] [(.ref a1)])) rfl rfl (hb hby d11_1)
  obtain ⟨cl7, Ar7, -, Sz7, Nn7, -, -⟩ := id V6
  obtain ⟨T9, X9, e9, st9⟩ := getF X4 hx hZ hown (host := "") (Or.inl (hw _ (gw 58 rfl))) Via.refl e4 F8 (g := (mkF m 6 #[.val (.ref a1), .val (.int (11 : Int32)), .unset] [(.ref a1), (.int (20 : Int32))])) rfl rfl (hb hby d11_6)
  obtain ⟨fs, hr, hrun, hended, hW, hsame⟩ := X9.leave (v := none) (fun _ => rfl)
  refine ⟨_, _, pre0 _ ?_, hrun, hended, _, _, rfl, ?_, ⟨_, rfl⟩, hW, hsame.mono (by decide) (by decide)⟩
  · show Steps p.tables e below (s₁.setTop (mkF m 0 #[.val (.ref a1), .val (.int (11 : Int32)), .unset] [])) _
    refine XS.aloadN X0.here hx rfl (hb hby d11_0) rfl rfl ?_
    refine st4 _ ?_
    refine X4.arraylength hx (by rw [e4]; exact Ar7.1) (State.isArrayOf_alike hZ.alike Ar7.2.1) (g := (mkF m 4 #[.val (.ref a1), .val (.int (11 : Int32)), .unset] [(.ref a2)])) rfl rfl (hb hby d11_4) _ ?_
    rw [len_of Sz7 Nn7]
    refine XS.aloadN X4.here hx rfl (hb hby d11_5) rfl rfl ?_
    refine st9 _ ?_
    refine XS.ishr X9.here hx rfl (hb hby d11_9) rfl ?_
    show Steps p.tables e below (T9.setTop (mkF m 10 #[.val (.ref a1), .val (.int (11 : Int32)), .unset] [(.int ((20 : Int32) >>> ((0 : Int32) &&& 31)))])) _
    rw [(by decide +kernel : ((20 : Int32) >>> ((0 : Int32) &&& 31)) = (20 : Int32))]
    refine XS.istoreN X9.here hx rfl (hb hby d11_10) rfl (l' := #[.val (.ref a1), .val (.int (11 : Int32)), .val (.int (20 : Int32))]) rfl ?_
    refine XS.iloadN X9.here hx rfl (hb hby d11_11) rfl ?_
    refine XS.iloadN X9.here hx rfl (hb hby d11_12) rfl ?_
    refine XS.isub X9.here hx rfl (hb hby d11_13) rfl ?_
    show Steps p.tables e below (T9.setTop (mkF m 14 #[.val (.ref a1), .val (.int (11 : Int32)), .val (.int (20 : Int32))] [(.int ((11 : Int32) - (20 : Int32)))])) _
    rw [(by decide +kernel : ((11 : Int32) - (20 : Int32)) = (-9 : Int32))]
    refine XS.ifYes X9.here hx rfl (pc0 := 14) (pc' := 38) rfl (hb hby d11_14) rfl ((if0 _ _).trans (flt (by decide +kernel : ¬ ((0 : Int32) < (-9 : Int32)))).2.2.2) (by decide) (by decide) ?_
    show Steps p.tables e below (T9.setTop (mkF m 38 #[.val (.ref a1), .val (.int (11 : Int32)), .val (.int (20 : Int32))] [])) _
    exact X9.returnOut hx Bd.returns (hb hby d11_38) hr
  · show Q11_26 Z _ _ _ h0 n0 _ T9.heap _
    rw [e9]
    exact ⟨rfl, N0, rfl⟩
theorem ef_rm14_28 (m : MethodId) (x0 : Addr) (x1 : Addr) : entryFrame m #[(.ref x0), (.ref x1), (.int (6 : Int32)), (.int (0 : Int32))] 4 = mkF m 0 #[.val (.ref x0), .val (.ref x1), .val (.int (6 : Int32)), .val (.int (0 : Int32))] [] := by first | (simp [entryFrame, mkF, argsToLocals, Value.category]; done) | rfl
def Q14_28 (Z : State) (a1 : Addr) (a2 : Addr) (p4 : Int32) (a12 : Addr) (k16 : ClassId) (k19 : ClassId) (h0 : Heap) (n0 : Nat) (v : Option Value) (h : Heap) (L : List Loc) : Prop := (v = none ∧ Fr n0 L ∧ Keep h0 h [a2] ∧ Exa Z h a2 "[B" ∧ Arv Z h a2 k19 .byte (20 : Int32) [(.int (82 : Int32)), (.int (101 : Int32)), (.int (97 : Int32)), (.int (100 : Int32)), (.int (44 : Int32)), (.int (32 : Int32)), (.int (87 : Int32)), (.int (114 : Int32)), (.int (105 : Int32)), (.int (116 : Int32)), (.int (101 : Int32))] (.int (0 : Int32)))
set_option maxRecDepth 65536 in
set_option maxHeartbeats 40000000 in
theorem rm14_28 (l : Launch) (Z : State) (a0 : Array Value) (hw : ∀ d ∈ own_ws, d.before a0 Z = true) (ws : List Jvm.Cond) (a1 : Addr) (a2 : Addr) (p4 : Int32) (a12 : Addr) (k16 : ClassId) (k19 : ClassId) (h0 : Heap) (n0 : Nat) (O0 : Old Z n0 h0) (E_3 : Exa Z Z.heap a1 C_4) (S_5 : Sta Z Z.heap C_4 "COMPACT_STRINGS" "Z" (.int p4)) (hk6 : ¬ (p4 = (0 : Int32))) (F7 : Fld Z Z.heap a1 C_4 "coder" "B" (.int (0 : Int32))) (F13 : Fld Z Z.heap a1 C_4 "value" "[B" (.ref a12)) (V17 : Arv Z Z.heap a12 k16 .byte (5 : Int32) [(.int (87 : Int32)), (.int (114 : Int32)), (.int (105 : Int32)), (.int (116 : Int32)), (.int (101 : Int32))] (.int (0 : Int32))) (V20 : Arv Z h0 a2 k19 .byte (20 : Int32) [(.int (82 : Int32)), (.int (101 : Int32)), (.int (97 : Int32)), (.int (100 : Int32)), (.int (44 : Int32)), (.int (32 : Int32))] (.int (0 : Int32))) (E_21 : Exa Z h0 a2 "[B") (g_a2 : n0 ≤ a2) :
    MetFree l M_5 (head1 (Jvm.Cond.code M_5 jdk_42_method_147_code 4 none :: ws) ({ frames := 1, cells := 0, slots := 0, locals := 18 } : Room)) (fun a U => a = #[(.ref a1), (.ref a2), (.int (6 : Int32)), (.int (0 : Int32))] ∧ Z.Warmed39 U.vm ∧ U.heap = h0) (fun _ _ _ _ _ => True) (fun _ U o U' => ∃ v L, o = .returned v ∧ Q14_28 Z a1 a2 p4 a12 k16 k19 h0 n0 v U'.heap L ∧ FrameEnd U o U' L ({ frames := 1, cells := 0, slots := 0, locals := 18 } : Room).cells ({ frames := 1, cells := 0, slots := 0, locals := 18 } : Room).slots) := by
  refine MetFree.of_bodySF (plainFor_of_name pn_1) hisR ?_
  intro p e s m args below meth c s₁ Bd hml0 hP hK
  obtain ⟨rfl, hZ, hh⟩ := hP
  have hx := Bd.exec
  have hby := Bd.bytes
  have hml : c.maxLocals = 4 := hml0
  have hown : s.vm.findClass "java/lang/String" = some m.cls := findClass_of_methodNamed Bd.named
  have hnm := (name_of_methodNamed Bd.named Bd.method).1
  have X0 : Stand p l e ({ frames := 1, cells := 0, slots := 0, locals := 18 } : Room) s m #[(.ref a1), (.ref a2), (.int (6 : Int32)), (.int (0 : Int32))] below meth c s₁ [] 0 0 := Stand.of_body Bd
  have e0 : s₁.heap = h0 := by rw [← hh, Bd.state]; rfl
  have N0 := Fr.nil n0
  have pre0 : ∀ t, Steps p.tables e below (s₁.setTop (mkF m 0 #[.val (.ref a1), .val (.ref a2), .val (.int (6 : Int32)), .val (.int (0 : Int32))] [])) t → Steps p.tables e below (s₁.setTop (entryFrame m #[(.ref a1), (.ref a2), (.int (6 : Int32)), (.int (0 : Int32))] 4)) t := fun t k => castTop (ef_rm14_28 m a1 a2) k
  obtain ⟨cq8, kq8, q8a, q8b, q8c⟩ := isOf hZ e0 (Exa.ext O0.2 E_3)
  obtain ⟨_, _, ⟨T8, L8, k8, n8⟩, -, X8, ⟨Lc8, hQ8, l8, y8, z8⟩, st8⟩ := X0.virtualBack hx (y := M_1) (z := M_1) hown (mvT hZ (hw _ (gw 48 rfl))) (mvT hZ (hw _ (gw 49 rfl))) (notFace_of_selects (args := #[]) (mvT hZ (hw _ (gw 51 rfl)))) (mvT hZ (hw _ (gw 51 rfl))) (mvT hZ (hw _ (gw 50 rfl))) (by decide) (backOf (W := 0) (rm7_7 l Z a0 hw [] a1 p4 h0 n0  O0 S_5 hk6 F7) hZ (hw _ (gw 52 rfl)) (hw _ (gw 44 rfl)) (by decide) (by decide)) q8a q8c (g := (mkF m 1 #[.val (.ref a1), .val (.ref a2), .val (.int (6 : Int32)), .val (.int (0 : Int32))] [(.ref a1)])) rfl (by rw [hml]; rfl) (Steps.refl _) (argsL := []) (rest := []) (lenOf pd_1 rfl) rfl (by show 2 * 0 + _ ≤ _; exact Nat.le_of_eq rfl) (hb hby d14_1) (fun _ _ => ⟨rfl, e0, (by decide : 0 + 0 ≤ _), (by decide : 0 + 0 ≤ _)⟩)
  dsimp only [Pt.U, Pt.locs, Pt.cells, Pt.slots] at X8 l8 y8 z8 st8 hQ8
  subst l8 y8 z8
  obtain ⟨rfl, u10, u11⟩ := hQ8
  have N8 := Fr.app N0 u10
  obtain ⟨T14, X14, e14, st14⟩ := getF X8 hx hZ hown (host := "") (Or.inl (hw _ (gw 46 rfl))) Via.refl u11 (Fld.ext O0.2 F13) (g := (mkF m 9 #[.val (.ref a1), .val (.ref a2), .val (.int (6 : Int32)), .val (.int (0 : Int32))] [(.ref a1)])) rfl rfl (hb hby d14_9)
  obtain ⟨T15, X15, e15, st15⟩ := getF X14 hx hZ hown (host := "") (Or.inl (hw _ (gw 46 rfl))) Via.refl e14 (Fld.ext O0.2 F13) (g := (mkF m 18 #[.val (.ref a1), .val (.ref a2), .val (.int (6 : Int32)), .val (.int (0 : Int32))] [(.ref a1), (.int (6 : Int32)), (.ref a2), (.int (0 : Int32)), (.ref a12)])) rfl rfl (hb hby d14_18)
  obtain ⟨cl18, Ar18, -, Sz18, Nn18, -, -⟩ := id (V17.ext O0.2)
  have Vp22 : Arv Z h0 a2 k19 .byte (20 : Int32) [(.int (82 : Int32)), (.int (101 : Int32)), (.int (97 : Int32)), (.int (100 : Int32)), (.int (44 : Int32)), (.int (32 : Int32)), (.int (0 : Int32)), (.int (0 : Int32)), (.int (0 : Int32)), (.int (0 : Int32)), (.int (0 : Int32))] (.int (0 : Int32)) := V20.pad (pad_rep [(.int (82 : Int32)), (.int (101 : Int32)), (.int (97 : Int32)), (.int (100 : Int32)), (.int (44 : Int32)), (.int (32 : Int32))] (.int (0 : Int32)) 5)
  obtain ⟨T23, h23, L23, X23, e23, N23, Ku23, V23, st23⟩ := cpA X15 hx hZ hown (hw _ (gw 100 rfl)) (hw _ (gw 103 rfl)) (hw _ (gw 101 rfl)) (hw _ (gw 102 rfl)) e15 (sp := (0 : Int32)) (dp := (6 : Int32)) (nn := (5 : Int32)) (us := [(.int (87 : Int32)), (.int (114 : Int32)), (.int (105 : Int32)), (.int (116 : Int32)), (.int (101 : Int32))]) (V17.ext O0.2) Vp22 (Or.inl ⟨rfl, rfl⟩) (by decide +kernel) (by decide +kernel) (by decide +kernel) (by decide +kernel) (by decide +kernel) rfl (Nat.le_of_ble_eq_true rfl) N8 g_a2 (g := (mkF m 22 #[.val (.ref a1), .val (.ref a2), .val (.int (6 : Int32)), .val (.int (0 : Int32))] [(.int (5 : Int32)), (.int (6 : Int32)), (.ref a2), (.int (0 : Int32)), (.ref a12)])) rfl (by rw [hml]; rfl) rfl (hb hby d14_22) (by decide) (W := 0) (by show 2 * 0 + _ ≤ _; exact Nat.le_of_eq rfl) (by decide +kernel)
  have Ou23 : Old Z n0 h23 := O0.keep Ku23 (allS g_a2 all0)
  have Vc23 : Arv Z h23 a2 k19 .byte (20 : Int32) [(.int (82 : Int32)), (.int (101 : Int32)), (.int (97 : Int32)), (.int (100 : Int32)), (.int (44 : Int32)), (.int (32 : Int32)), (.int (87 : Int32)), (.int (114 : Int32)), (.int (105 : Int32)), (.int (116 : Int32)), (.int (101 : Int32))] (.int (0 : Int32)) := V23
  obtain ⟨fs, hr, hrun, hended, hW, hsame⟩ := X23.leave (v := none) (fun _ => rfl)
  have f24 : Exa Z h23 a2 "[B" := (E_21.keep Ku23)
  refine ⟨_, _, pre0 _ ?_, hrun, hended, _, _, rfl, ?_, ⟨_, rfl⟩, hW, hsame.mono (by decide) (by decide)⟩
  · show Steps p.tables e below (s₁.setTop (mkF m 0 #[.val (.ref a1), .val (.ref a2), .val (.int (6 : Int32)), .val (.int (0 : Int32))] [])) _
    refine XS.aloadN X0.here hx rfl (hb hby d14_0) rfl rfl ?_
    refine st8.trans ?_
    refine XS.iloadN X8.here hx rfl (hb hby d14_4) rfl ?_
    refine XS.icmpNo X8.here hx rfl (hb hby d14_5) rfl (teq (by decide +kernel : (0 : Int32) = (0 : Int32))).2 ?_
    refine XS.aloadN X8.here hx rfl (hb hby d14_8) rfl rfl ?_
    refine st14 _ ?_
    refine XS.iconst X14.here hx rfl (hb hby d14_12) ?_
    refine XS.aloadN X14.here hx rfl (hb hby d14_13) rfl rfl ?_
    refine XS.iloadN X14.here hx rfl (hb hby d14_14) rfl ?_
    show Steps p.tables e below (T14.setTop (mkF m 15 #[.val (.ref a1), .val (.ref a2), .val (.int (6 : Int32)), .val (.int (0 : Int32))] [(.int (6 : Int32)), (.ref a2), (.int (0 : Int32)), (.ref a12)])) _
    refine XS.iloadN X14.here hx rfl (hb hby d14_15) rfl ?_
    refine XS.ishl X14.here hx rfl (hb hby d14_16) rfl ?_
    show Steps p.tables e below (T14.setTop (mkF m 17 #[.val (.ref a1), .val (.ref a2), .val (.int (6 : Int32)), .val (.int (0 : Int32))] [(.int ((6 : Int32) <<< ((0 : Int32) &&& 31))), (.ref a2), (.int (0 : Int32)), (.ref a12)])) _
    rw [(by decide +kernel : ((6 : Int32) <<< ((0 : Int32) &&& 31)) = (6 : Int32))]
    refine XS.aloadN X14.here hx rfl (hb hby d14_17) rfl rfl ?_
    refine st15 _ ?_
    refine X15.arraylength hx (by rw [e15]; exact Ar18.1) (State.isArrayOf_alike hZ.alike Ar18.2.1) (g := (mkF m 21 #[.val (.ref a1), .val (.ref a2), .val (.int (6 : Int32)), .val (.int (0 : Int32))] [(.ref a12), (.int (6 : Int32)), (.ref a2), (.int (0 : Int32)), (.ref a12)])) rfl rfl (hb hby d14_21) _ ?_
    rw [len_of Sz18 Nn18]
    refine st23 _ ?_
    refine XS.goto X23.here hx rfl (pc0 := 25) (pc' := 43) rfl (hb hby d14_25) (by decide) (by decide) ?_
    show Steps p.tables e below (T23.setTop (mkF m 43 #[.val (.ref a1), .val (.ref a2), .val (.int (6 : Int32)), .val (.int (0 : Int32))] [])) _
    exact X23.returnOut hx Bd.returns (hb hby d14_43) hr
  · show Q14_28 Z _ _ _ _ _ _ h0 n0 _ T23.heap _
    rw [e23]
    exact ⟨rfl, N23, ((Keep.refl h0 [a2]).trans Ku23 (allS (Or.inl (List.mem_of_getElem? (i := 0) rfl)) all0)), f24, Vc23⟩
theorem ef_rm12_27 (m : MethodId) (x0 : Addr) (x2 : Addr) : entryFrame m #[(.ref x0), (.int (6 : Int32)), (.ref x2)] 3 = mkF m 0 #[.val (.ref x0), .val (.int (6 : Int32)), .val (.ref x2)] [] := by first | (simp [entryFrame, mkF, argsToLocals, Value.category]; done) | rfl
def Q12_27 (Z : State) (a1 : Addr) (a2 : Addr) (p4 : Int32) (a14 : Addr) (a18 : Addr) (k20 : ClassId) (k22 : ClassId) (h0 : Heap) (n0 : Nat) (v : Option Value) (h : Heap) (L : List Loc) : Prop := (v = none ∧ Fr n0 L ∧ Keep h0 h [a14] ∧ Exa Z h a14 "[B" ∧ Arv Z h a14 k22 .byte (20 : Int32) [(.int (82 : Int32)), (.int (101 : Int32)), (.int (97 : Int32)), (.int (100 : Int32)), (.int (44 : Int32)), (.int (32 : Int32)), (.int (87 : Int32)), (.int (114 : Int32)), (.int (105 : Int32)), (.int (116 : Int32)), (.int (101 : Int32))] (.int (0 : Int32)))
set_option maxRecDepth 65536 in
set_option maxHeartbeats 40000000 in
theorem rm12_27 (l : Launch) (Z : State) (a0 : Array Value) (hw : ∀ d ∈ own_ws, d.before a0 Z = true) (ws : List Jvm.Cond) (a1 : Addr) (a2 : Addr) (p4 : Int32) (a14 : Addr) (a18 : Addr) (k20 : ClassId) (k22 : ClassId) (h0 : Heap) (n0 : Nat) (O0 : Old Z n0 h0) (E_3 : Exa Z h0 a1 C_5) (S_5 : Sta Z Z.heap C_4 "COMPACT_STRINGS" "Z" (.int p4)) (hk6 : ¬ (p4 = (0 : Int32))) (F7 : Fld Z h0 a1 C_2 "coder" "B" (.int (0 : Int32))) (E_8 : Exa Z Z.heap a2 C_4) (F9 : Fld Z Z.heap a2 C_4 "coder" "B" (.int (0 : Int32))) (F15 : Fld Z h0 a1 C_2 "value" "[B" (.ref a14)) (F19 : Fld Z Z.heap a2 C_4 "value" "[B" (.ref a18)) (V21 : Arv Z Z.heap a18 k20 .byte (5 : Int32) [(.int (87 : Int32)), (.int (114 : Int32)), (.int (105 : Int32)), (.int (116 : Int32)), (.int (101 : Int32))] (.int (0 : Int32))) (V23 : Arv Z h0 a14 k22 .byte (20 : Int32) [(.int (82 : Int32)), (.int (101 : Int32)), (.int (97 : Int32)), (.int (100 : Int32)), (.int (44 : Int32)), (.int (32 : Int32))] (.int (0 : Int32))) (E_24 : Exa Z h0 a14 "[B") (g_a14 : n0 ≤ a14) :
    MetFree l M_6 (head1 (Jvm.Cond.code M_6 jdk_68_method_73_code 3 none :: ws) ({ frames := 2, cells := 0, slots := 0, locals := 33 } : Room)) (fun a U => a = #[(.ref a1), (.int (6 : Int32)), (.ref a2)] ∧ Z.Warmed39 U.vm ∧ U.heap = h0) (fun _ _ _ _ _ => True) (fun _ U o U' => ∃ v L, o = .returned v ∧ Q12_27 Z a1 a2 p4 a14 a18 k20 k22 h0 n0 v U'.heap L ∧ FrameEnd U o U' L ({ frames := 2, cells := 0, slots := 0, locals := 33 } : Room).cells ({ frames := 2, cells := 0, slots := 0, locals := 33 } : Room).slots) := by
  refine MetFree.of_bodySF (plainFor_of_name pn_2) hisR ?_
  intro p e s m args below meth c s₁ Bd hml0 hP hK
  obtain ⟨rfl, hZ, hh⟩ := hP
  have hx := Bd.exec
  have hby := Bd.bytes
  have hml : c.maxLocals = 3 := hml0
  have hown : s.vm.findClass "java/lang/AbstractStringBuilder" = some m.cls := findClass_of_methodNamed Bd.named
  have hnm := (name_of_methodNamed Bd.named Bd.method).1
  have X0 : Stand p l e ({ frames := 2, cells := 0, slots := 0, locals := 33 } : Room) s m #[(.ref a1), (.int (6 : Int32)), (.ref a2)] below meth c s₁ [] 0 0 := Stand.of_body Bd
  have e0 : s₁.heap = h0 := by rw [← hh, Bd.state]; rfl
  have N0 := Fr.nil n0
  have pre0 : ∀ t, Steps p.tables e below (s₁.setTop (mkF m 0 #[.val (.ref a1), .val (.int (6 : Int32)), .val (.ref a2)] [])) t → Steps p.tables e below (s₁.setTop (entryFrame m #[(.ref a1), (.int (6 : Int32)), (.ref a2)] 3)) t := fun t k => castTop (ef_rm12_27 m a1 a2) k
  obtain ⟨cq10, q10, q10'⟩ := E_3.cell
  obtain ⟨_, _, ⟨T10, L10, k10, n10⟩, -, X10, ⟨Lc10, hQ10, l10, y10, z10⟩, st10⟩ := X0.privateBack hx (y := M_4) hown (mvT hZ (hw _ (gw 89 rfl))) (mvT hZ (hw _ (gw 90 rfl))) (own_selSelf (args := #[]) (mvT hZ (hw _ (gw 92 rfl))) (Cond.privateMethod_at (mvP hZ (hw _ (gw 91 rfl)) (args := #[]))) (mvT hZ (hw _ (gw 90 rfl))) (by decide)) (Cond.privateMethod_at (mvP hZ (hw _ (gw 91 rfl)) (args := #[]))) (mvT hZ (hw _ (gw 93 rfl))) (by decide) (backOf (W := 0) (rm13_13 l Z a0 hw [] a1 a2 p4 h0 n0  O0 S_5 hk6 F7 E_8 F9) hZ (hw _ (gw 93 rfl)) (hw _ (gw 35 rfl)) (by decide) (by decide)) (g := (mkF m 2 #[.val (.ref a1), .val (.int (6 : Int32)), .val (.ref a2)] [(.ref a2), (.ref a1)])) rfl (by rw [hml]; rfl) (Steps.refl _) (a := a1) (by rw [e0]; exact q10) q10' (argsL := [(.ref a2)]) (rest := []) (lenOf pd_4 rfl) rfl (by show 2 * 0 + _ ≤ _; exact Nat.le_of_eq rfl) (hb hby d12_2) (fun _ _ => ⟨rfl, e0, (by decide : 0 + 0 ≤ _), (by decide : 0 + 0 ≤ _)⟩)
  dsimp only [Pt.U, Pt.locs, Pt.cells, Pt.slots] at X10 l10 y10 z10 st10 hQ10
  subst l10 y10 z10
  obtain ⟨rfl, u12, u13⟩ := hQ10
  have N10 := Fr.app N0 u12
  obtain ⟨T16, X16, e16, st16⟩ := getF X10 hx hZ hown (host := "") (Or.inl (hw _ (gw 61 rfl))) Via.refl u13 F15 (g := (mkF m 7 #[.val (.ref a1), .val (.int (6 : Int32)), .val (.ref a2)] [(.ref a1), (.ref a2)])) rfl rfl (hb hby d12_7)
  obtain ⟨T17, X17, e17, st17⟩ := getF X16 hx hZ hown (host := "") (Or.inl (hw _ (gw 58 rfl))) Via.refl e16 F7 (g := (mkF m 12 #[.val (.ref a1), .val (.int (6 : Int32)), .val (.ref a2)] [(.ref a1), (.int (6 : Int32)), (.ref a14), (.ref a2)])) rfl rfl (hb hby d12_12)
  obtain ⟨cq25, kq25, q25a, q25b, q25c⟩ := isOf hZ e17 (Exa.ext O0.2 E_8)
  obtain ⟨_, _, ⟨T25, L25, k25, n25⟩, -, X25, ⟨Lc25, hQ25, l25, y25, z25⟩, st25⟩ := X17.virtualBack hx (y := M_5) (z := M_5) hown (mvT hZ (hw _ (gw 95 rfl))) (mvT hZ (hw _ (gw 96 rfl))) (notFace_of_selects (args := #[]) (mvT hZ (hw _ (gw 98 rfl)))) (mvT hZ (hw _ (gw 98 rfl))) (mvT hZ (hw _ (gw 97 rfl))) (by decide) (backOf (W := 0) (rm14_28 l Z a0 hw [] a2 a14 p4 a18 k20 k22 h0 n0  O0 E_8 S_5 hk6 F9 F19 V21 V23 E_24 g_a14) hZ (hw _ (gw 99 rfl)) (hw _ (gw 44 rfl)) (by decide) (by decide)) q25a q25c (g := (mkF m 15 #[.val (.ref a1), .val (.int (6 : Int32)), .val (.ref a2)] [(.int (0 : Int32)), (.int (6 : Int32)), (.ref a14), (.ref a2)])) rfl (by rw [hml]; rfl) (Steps.refl _) (argsL := [(.ref a14), (.int (6 : Int32)), (.int (0 : Int32))]) (rest := []) (lenOf pd_5 rfl) rfl (by show 2 * 0 + _ ≤ _; exact Nat.le_of_eq rfl) (hb hby d12_15) (fun _ _ => ⟨rfl, e17, (by decide : 0 + 0 ≤ _), (by decide : 0 + 0 ≤ _)⟩)
  dsimp only [Pt.U, Pt.locs, Pt.cells, Pt.slots] at X25 l25 y25 z25 st25 hQ25
  subst l25 y25 z25
  obtain ⟨rfl, u27, Ku28, u29, u30⟩ := hQ25
  have Ou28 : Old Z n0 T25.heap := O0.keep Ku28 (allS g_a14 all0)
  have N25 := Fr.app N10 u27
  obtain ⟨fs, hr, hrun, hended, hW, hsame⟩ := X25.leave (v := none) (fun _ => rfl)
  refine ⟨_, _, pre0 _ ?_, hrun, hended, _, _, rfl, ?_, ⟨_, rfl⟩, hW, hsame.mono (by decide) (by decide)⟩
  · show Steps p.tables e below (s₁.setTop (mkF m 0 #[.val (.ref a1), .val (.int (6 : Int32)), .val (.ref a2)] [])) _
    refine XS.aloadN X0.here hx rfl (hb hby d12_0) rfl rfl ?_
    refine XS.aloadN X0.here hx rfl (hb hby d12_1) rfl rfl ?_
    refine st10.trans ?_
    refine XS.aloadN X10.here hx rfl (hb hby d12_5) rfl rfl ?_
    refine XS.aloadN X10.here hx rfl (hb hby d12_6) rfl rfl ?_
    refine st16 _ ?_
    refine XS.iloadN X16.here hx rfl (hb hby d12_10) rfl ?_
    refine XS.aloadN X16.here hx rfl (hb hby d12_11) rfl rfl ?_
    refine st17 _ ?_
    show Steps p.tables e below (T17.setTop (mkF m 15 #[.val (.ref a1), .val (.int (6 : Int32)), .val (.ref a2)] [(.int (0 : Int32)), (.int (6 : Int32)), (.ref a14), (.ref a2)])) _
    refine st25.trans ?_
    show Steps p.tables e below (T25.setTop (mkF m 18 #[.val (.ref a1), .val (.int (6 : Int32)), .val (.ref a2)] [])) _
    exact X25.returnOut hx Bd.returns (hb hby d12_18) hr
  · show Q12_27 Z _ _ _ _ _ _ _ h0 n0 _ T25.heap _
    exact ⟨rfl, N25, ((Keep.refl h0 [a14]).trans Ku28 (allS (Or.inl (List.mem_of_getElem? (i := 0) rfl)) all0)), u29, u30⟩
theorem ef_rm10_24 (m : MethodId) (x0 : Addr) (x1 : Addr) : entryFrame m #[(.ref x0), (.ref x1)] 3 = mkF m 0 #[.val (.ref x0), .val (.ref x1), .unset] [] := by first | (simp [entryFrame, mkF, argsToLocals, Value.category]; done) | rfl
def Q10_24 (Z : State) (a1 : Addr) (a2 : Addr) (a4 : Addr) (k6 : ClassId) (p8 : Int32) (a19 : Addr) (k21 : ClassId) (h0 : Heap) (n0 : Nat) (v : Option Value) (h : Heap) (L : List Loc) : Prop := (v = some (.ref a1) ∧ Fr n0 L ∧ Keep h0 h [a19, a1] ∧ Exa Z h a1 C_5 ∧ Fld Z h a1 C_2 "coder" "B" (.int (0 : Int32)) ∧ Fld Z h a1 C_2 "count" "I" (.int (11 : Int32)) ∧ Fld Z h a1 C_2 "value" "[B" (.ref a19) ∧ Exa Z h a19 "[B" ∧ Arv Z h a19 k21 .byte (20 : Int32) [(.int (82 : Int32)), (.int (101 : Int32)), (.int (97 : Int32)), (.int (100 : Int32)), (.int (44 : Int32)), (.int (32 : Int32)), (.int (87 : Int32)), (.int (114 : Int32)), (.int (105 : Int32)), (.int (116 : Int32)), (.int (101 : Int32))] (.int (0 : Int32)))
set_option maxRecDepth 65536 in
set_option maxHeartbeats 40000000 in
theorem rm10_24 (l : Launch) (Z : State) (a0 : Array Value) (hw : ∀ d ∈ own_ws, d.before a0 Z = true) (ws : List Jvm.Cond) (a1 : Addr) (a2 : Addr) (a4 : Addr) (k6 : ClassId) (p8 : Int32) (a19 : Addr) (k21 : ClassId) (h0 : Heap) (n0 : Nat) (O0 : Old Z n0 h0) (E_3 : Exa Z Z.heap a2 C_4) (F5 : Fld Z Z.heap a2 C_4 "value" "[B" (.ref a4)) (V7 : Arv Z Z.heap a4 k6 .byte (5 : Int32) [(.int (87 : Int32)), (.int (114 : Int32)), (.int (105 : Int32)), (.int (116 : Int32)), (.int (101 : Int32))] (.int (0 : Int32))) (S_9 : Sta Z Z.heap C_4 "COMPACT_STRINGS" "Z" (.int p8)) (hk10 : ¬ (p8 = (0 : Int32))) (F11 : Fld Z Z.heap a2 C_4 "coder" "B" (.int (0 : Int32))) (F16 : Fld Z h0 a1 C_2 "count" "I" (.int (6 : Int32))) (E_18 : Exa Z h0 a1 C_5) (F20 : Fld Z h0 a1 C_2 "value" "[B" (.ref a19)) (V22 : Arv Z h0 a19 k21 .byte (20 : Int32) [(.int (82 : Int32)), (.int (101 : Int32)), (.int (97 : Int32)), (.int (100 : Int32)), (.int (44 : Int32)), (.int (32 : Int32))] (.int (0 : Int32))) (F23 : Fld Z h0 a1 C_2 "coder" "B" (.int (0 : Int32))) (E_29 : Exa Z h0 a19 "[B") (g_a19 : n0 ≤ a19) (hne36 : a1 ≠ a19) (g_a1 : n0 ≤ a1) :
    MetFree l M_7 (head1 (Jvm.Cond.code M_7 jdk_68_method_22_code 3 (some (.object "java/lang/AbstractStringBuilder")) :: ws) ({ frames := 3, cells := 0, slots := 0, locals := 47 } : Room)) (fun a U => a = #[(.ref a1), (.ref a2)] ∧ Z.Warmed39 U.vm ∧ U.heap = h0) (fun _ _ _ _ _ => True) (fun _ U o U' => ∃ v L, o = .returned v ∧ Q10_24 Z a1 a2 a4 k6 p8 a19 k21 h0 n0 v U'.heap L ∧ FrameEnd U o U' L ({ frames := 3, cells := 0, slots := 0, locals := 47 } : Room).cells ({ frames := 3, cells := 0, slots := 0, locals := 47 } : Room).slots) := by
  refine MetFree.of_bodySF (plainFor_of_name pn_2) hisR ?_
  intro p e s m args below meth c s₁ Bd hml0 hP hK
  obtain ⟨rfl, hZ, hh⟩ := hP
  have hx := Bd.exec
  have hby := Bd.bytes
  have hml : c.maxLocals = 3 := hml0
  have hown : s.vm.findClass "java/lang/AbstractStringBuilder" = some m.cls := findClass_of_methodNamed Bd.named
  have hnm := (name_of_methodNamed Bd.named Bd.method).1
  have X0 : Stand p l e ({ frames := 3, cells := 0, slots := 0, locals := 47 } : Room) s m #[(.ref a1), (.ref a2)] below meth c s₁ [] 0 0 := Stand.of_body Bd
  have e0 : s₁.heap = h0 := by rw [← hh, Bd.state]; rfl
  have N0 := Fr.nil n0
  have pre0 : ∀ t, Steps p.tables e below (s₁.setTop (mkF m 0 #[.val (.ref a1), .val (.ref a2), .unset] [])) t → Steps p.tables e below (s₁.setTop (entryFrame m #[(.ref a1), (.ref a2)] 3)) t := fun t k => castTop (ef_rm10_24 m a1 a2) k
  obtain ⟨cq12, kq12, q12a, q12b, q12c⟩ := isOf hZ e0 (Exa.ext O0.2 E_3)
  obtain ⟨_, _, ⟨T12, L12, k12, n12⟩, -, X12, ⟨Lc12, hQ12, l12, y12, z12⟩, st12⟩ := X0.virtualBack hx (y := M_2) (z := M_2) hown (mvT hZ (hw _ (gw 40 rfl))) (mvT hZ (hw _ (gw 41 rfl))) (notFace_of_selects (args := #[]) (mvT hZ (hw _ (gw 43 rfl)))) (mvT hZ (hw _ (gw 43 rfl))) (mvT hZ (hw _ (gw 42 rfl))) (by decide) (backOf (W := 0) (rm6_25 l Z a0 hw [] a2 a4 k6 p8 h0 n0  O0 F5 V7 E_3 S_9 hk10 F11) hZ (hw _ (gw 45 rfl)) (hw _ (gw 44 rfl)) (by decide) (by decide)) q12a q12c (g := (mkF m 10 #[.val (.ref a1), .val (.ref a2), .unset] [(.ref a2)])) rfl (by rw [hml]; rfl) (Steps.refl _) (argsL := []) (rest := []) (lenOf pd_2 rfl) rfl (by show 2 * 0 + _ ≤ _; exact Nat.le_of_eq rfl) (hb hby d10_10) (fun _ _ => ⟨rfl, e0, (by decide : 0 + 0 ≤ _), (by decide : 0 + 0 ≤ _)⟩)
  dsimp only [Pt.U, Pt.locs, Pt.cells, Pt.slots] at X12 l12 y12 z12 st12 hQ12
  subst l12 y12 z12
  obtain ⟨rfl, u14, u15⟩ := hQ12
  have N12 := Fr.app N0 u14
  obtain ⟨T17, X17, e17, st17⟩ := getF X12 hx hZ hown (host := "") (Or.inl (hw _ (gw 77 rfl))) Via.refl u15 F16 (g := (mkF m 16 #[.val (.ref a1), .val (.ref a2), .val (.int (5 : Int32))] [(.ref a1), (.ref a1)])) rfl rfl (hb hby d10_16)
  obtain ⟨cq24, q24, q24'⟩ := E_18.cell
  obtain ⟨_, _, ⟨T24, L24, k24, n24⟩, -, X24, ⟨Lc24, hQ24, l24, y24, z24⟩, st24⟩ := X17.privateBack hx (y := M_3) hown (mvT hZ (hw _ (gw 79 rfl))) (mvT hZ (hw _ (gw 80 rfl))) (own_selSelf (args := #[]) (mvT hZ (hw _ (gw 82 rfl))) (Cond.privateMethod_at (mvP hZ (hw _ (gw 81 rfl)) (args := #[]))) (mvT hZ (hw _ (gw 80 rfl))) (by decide)) (Cond.privateMethod_at (mvP hZ (hw _ (gw 81 rfl)) (args := #[]))) (mvT hZ (hw _ (gw 83 rfl))) (by decide) (backOf (W := 0) (rm11_26 l Z a0 hw [] a1 a19 k21 h0 n0  O0 F20 V22 F23) hZ (hw _ (gw 83 rfl)) (hw _ (gw 35 rfl)) (by decide) (by decide)) (g := (mkF m 21 #[.val (.ref a1), .val (.ref a2), .val (.int (5 : Int32))] [(.int (11 : Int32)), (.ref a1)])) rfl (by rw [hml]; rfl) (Steps.refl _) (a := a1) (by rw [e17]; exact q24) q24' (argsL := [(.int (11 : Int32))]) (rest := []) (lenOf pd_3 rfl) rfl (by show 2 * 0 + _ ≤ _; exact Nat.le_of_eq rfl) (hb hby d10_21) (fun _ _ => ⟨rfl, e17, (by decide : 0 + 0 ≤ _), (by decide : 0 + 0 ≤ _)⟩)
  dsimp only [Pt.U, Pt.locs, Pt.cells, Pt.slots] at X24 l24 y24 z24 st24 hQ24
  subst l24 y24 z24
  obtain ⟨rfl, u26, u27⟩ := hQ24
  have N24 := Fr.app N12 u26
  obtain ⟨T28, X28, e28, st28⟩ := getF X24 hx hZ hown (host := "") (Or.inl (hw _ (gw 77 rfl))) Via.refl u27 F16 (g := (mkF m 26 #[.val (.ref a1), .val (.ref a2), .val (.int (5 : Int32))] [(.ref a1), (.ref a1)])) rfl rfl (hb hby d10_26)
  obtain ⟨cq30, q30, q30'⟩ := E_18.cell
  obtain ⟨_, _, ⟨T30, L30, k30, n30⟩, -, X30, ⟨Lc30, hQ30, l30, y30, z30⟩, st30⟩ := X28.privateBack hx (y := M_6) hown (mvT hZ (hw _ (gw 84 rfl))) (mvT hZ (hw _ (gw 85 rfl))) (own_selSelf (args := #[]) (mvT hZ (hw _ (gw 87 rfl))) (Cond.privateMethod_at (mvP hZ (hw _ (gw 86 rfl)) (args := #[]))) (mvT hZ (hw _ (gw 85 rfl))) (by decide)) (Cond.privateMethod_at (mvP hZ (hw _ (gw 86 rfl)) (args := #[]))) (mvT hZ (hw _ (gw 88 rfl))) (by decide) (backOf (W := 0) (rm12_27 l Z a0 hw [] a1 a2 p8 a19 a4 k6 k21 h0 n0  O0 E_18 S_9 hk10 F23 E_3 F11 F20 F5 V7 V22 E_29 g_a19) hZ (hw _ (gw 88 rfl)) (hw _ (gw 35 rfl)) (by decide) (by decide)) (g := (mkF m 30 #[.val (.ref a1), .val (.ref a2), .val (.int (5 : Int32))] [(.ref a2), (.int (6 : Int32)), (.ref a1)])) rfl (by rw [hml]; rfl) (Steps.refl _) (a := a1) (by rw [e28]; exact q30) q30' (argsL := [(.int (6 : Int32)), (.ref a2)]) (rest := []) (lenOf pd_6 rfl) rfl (by show 2 * 0 + _ ≤ _; exact Nat.le_of_eq rfl) (hb hby d10_30) (fun _ _ => ⟨rfl, e28, (by decide : 0 + 0 ≤ _), (by decide : 0 + 0 ≤ _)⟩)
  dsimp only [Pt.U, Pt.locs, Pt.cells, Pt.slots] at X30 l30 y30 z30 st30 hQ30
  subst l30 y30 z30
  obtain ⟨rfl, u32, Ku33, u34, u35⟩ := hQ30
  have Ou33 : Old Z n0 T30.heap := O0.keep Ku33 (allS g_a19 all0)
  have N30 := Fr.app N24 u32
  have f37 : Fld Z T30.heap a1 C_2 "count" "I" (.int (6 : Int32)) := (F16.keep Ku33 (ninS hne36 nin0))
  obtain ⟨T38, X38, e38, st38⟩ := getF X30 hx hZ hown (host := "") (Or.inl (hw _ (gw 77 rfl))) Via.refl rfl f37 (g := (mkF m 35 #[.val (.ref a1), .val (.ref a2), .val (.int (5 : Int32))] [(.ref a1), (.ref a1)])) rfl rfl (hb hby d10_35)
  have f39 : Exa Z T30.heap a1 C_5 := (E_18.keep Ku33)
  obtain ⟨T40, h40, X40, e40, W40, st40⟩ := putF X38 hx hZ hown (host := "") (Or.inl (hw _ (gw 77 rfl))) Via.refl e38 f37 f39 (Or.inl (hw _ (gw 78 rfl))) (hw _ (gw 24 rfl)) (ty := .int) (by decide) rfl rfl (g := (mkF m 40 #[.val (.ref a1), .val (.ref a2), .val (.int (5 : Int32))] [(.int (11 : Int32)), (.ref a1)])) rfl rfl (hb hby d10_40)
  have O40 : Old Z n0 h40 := Ou33.wr W40 g_a1
  have Fw40 : Fld Z h40 a1 C_2 "count" "I" (.int (11 : Int32)) := Fld.same W40 f37
  have N40 := Fr.snoc X40 N30 g_a1
  obtain ⟨fs, hr, hrun, hended, hW, hsame⟩ := X40.leave (v := some (.ref a1)) (fun h => by rw [Bd.returns] at h; cases h)
  have f41 : Exa Z h40 a1 C_5 := (Exa.wr W40 f39)
  have f42 : Fld Z h40 a1 C_2 "coder" "B" (.int (0 : Int32)) := (Fld.other W40 (F23.keep Ku33 (ninS hne36 nin0)) (Or.inr (slot_ne (Or.inl (hw _ (gw 59 rfl))) (Or.inl (hw _ (gw 78 rfl))) (by decide) (t := .byte) (t' := .int) (by decide) (by decide))))
  have f43 : Fld Z h40 a1 C_2 "value" "[B" (.ref a19) := (Fld.other W40 (F20.keep Ku33 (ninS hne36 nin0)) (Or.inr (slot_ne (Or.inl (hw _ (gw 62 rfl))) (Or.inl (hw _ (gw 78 rfl))) (by decide) (t := (.array .byte)) (t' := .int) (by decide) (by decide))))
  have f44 : Exa Z h40 a19 "[B" := (Exa.wr W40 u34)
  have f45 : Arv Z h40 a19 k21 .byte (20 : Int32) [(.int (82 : Int32)), (.int (101 : Int32)), (.int (97 : Int32)), (.int (100 : Int32)), (.int (44 : Int32)), (.int (32 : Int32)), (.int (87 : Int32)), (.int (114 : Int32)), (.int (105 : Int32)), (.int (116 : Int32)), (.int (101 : Int32))] (.int (0 : Int32)) := (u35.other W40 (Ne.symm hne36))
  refine ⟨_, _, pre0 _ ?_, hrun, hended, _, _, rfl, ?_, ⟨_, rfl⟩, hW, hsame.mono (by decide) (by decide)⟩
  · show Steps p.tables e below (s₁.setTop (mkF m 0 #[.val (.ref a1), .val (.ref a2), .unset] [])) _
    refine XS.aloadN X0.here hx rfl (hb hby d10_0) rfl rfl ?_
    refine XS.ifnonnullYes X0.here hx rfl (pc0 := 1) (pc' := 9) rfl (hb hby d10_1) rfl (by decide) (by decide) ?_
    refine XS.aloadN X0.here hx rfl (hb hby d10_9) rfl rfl ?_
    refine st12.trans ?_
    refine XS.istoreN X12.here hx rfl (hb hby d10_13) rfl (l' := #[.val (.ref a1), .val (.ref a2), .val (.int (5 : Int32))]) rfl ?_
    refine XS.aloadN X12.here hx rfl (hb hby d10_14) rfl rfl ?_
    refine XS.aloadN X12.here hx rfl (hb hby d10_15) rfl rfl ?_
    refine st17 _ ?_
    refine XS.iloadN X17.here hx rfl (hb hby d10_19) rfl ?_
    show Steps p.tables e below (T17.setTop (mkF m 20 #[.val (.ref a1), .val (.ref a2), .val (.int (5 : Int32))] [(.int (5 : Int32)), (.int (6 : Int32)), (.ref a1)])) _
    refine XS.iadd X17.here hx rfl (hb hby d10_20) rfl ?_
    show Steps p.tables e below (T17.setTop (mkF m 21 #[.val (.ref a1), .val (.ref a2), .val (.int (5 : Int32))] [(.int ((6 : Int32) + (5 : Int32))), (.ref a1)])) _
    rw [(by decide +kernel : ((6 : Int32) + (5 : Int32)) = (11 : Int32))]
    refine st24.trans ?_
    refine XS.aloadN X24.here hx rfl (hb hby d10_24) rfl rfl ?_
    refine XS.aloadN X24.here hx rfl (hb hby d10_25) rfl rfl ?_
    refine st28 _ ?_
    refine XS.aloadN X28.here hx rfl (hb hby d10_29) rfl rfl ?_
    refine st30.trans ?_
    refine XS.aloadN X30.here hx rfl (hb hby d10_33) rfl rfl ?_
    refine XS.dup X30.here hx rfl (hb hby d10_34) rfl rfl ?_
    show Steps p.tables e below (T30.setTop (mkF m 35 #[.val (.ref a1), .val (.ref a2), .val (.int (5 : Int32))] [(.ref a1), (.ref a1)])) _
    refine st38 _ ?_
    refine XS.iloadN X38.here hx rfl (hb hby d10_38) rfl ?_
    refine XS.iadd X38.here hx rfl (hb hby d10_39) rfl ?_
    show Steps p.tables e below (T38.setTop (mkF m 40 #[.val (.ref a1), .val (.ref a2), .val (.int (5 : Int32))] [(.int ((6 : Int32) + (5 : Int32))), (.ref a1)])) _
    rw [(by decide +kernel : ((6 : Int32) + (5 : Int32)) = (11 : Int32))]
    refine st40 _ ?_
    refine XS.aloadN X40.here hx rfl (hb hby d10_43) rfl rfl ?_
    show Steps p.tables e below (T40.setTop (mkF m 44 #[.val (.ref a1), .val (.ref a2), .val (.int (5 : Int32))] [(.ref a1)])) _
    jvm_step X40.here [X40.here.top, hx, (hb hby d10_44), X40.method', Bd.returns, Value.isRef, FieldType.isReference]
    first | (intro acts; rw [hr _ acts rfl rfl rfl]) | rw [hr _ _ rfl rfl rfl]
    exact Steps.refl _
  · show Q10_24 Z _ _ _ _ _ _ _ h0 n0 _ T40.heap _
    rw [e40]
    exact ⟨rfl, N40, (((Keep.refl h0 [a19, a1]).trans Ku33 (allS (Or.inl (List.mem_of_getElem? (i := 0) rfl)) all0)).wr W40 (Or.inl (List.mem_of_getElem? (i := 1) rfl))), f41, f42, Fw40, f43, f44, f45⟩
theorem ef_rm9_23 (m : MethodId) (x0 : Addr) (x1 : Addr) : entryFrame m #[(.ref x0), (.ref x1)] 2 = mkF m 0 #[.val (.ref x0), .val (.ref x1)] [] := by first | (simp [entryFrame, mkF, argsToLocals, Value.category]; done) | rfl
def Q9_23 (Z : State) (a1 : Addr) (a2 : Addr) (a5 : Addr) (k7 : ClassId) (p9 : Int32) (a14 : Addr) (k16 : ClassId) (h0 : Heap) (n0 : Nat) (v : Option Value) (h : Heap) (L : List Loc) : Prop := (v = some (.ref a1) ∧ Fr n0 L ∧ Keep h0 h [a14, a1] ∧ Exa Z h a1 C_5 ∧ Fld Z h a1 C_2 "coder" "B" (.int (0 : Int32)) ∧ Fld Z h a1 C_2 "count" "I" (.int (11 : Int32)) ∧ Fld Z h a1 C_2 "value" "[B" (.ref a14) ∧ Exa Z h a14 "[B" ∧ Arv Z h a14 k16 .byte (20 : Int32) [(.int (82 : Int32)), (.int (101 : Int32)), (.int (97 : Int32)), (.int (100 : Int32)), (.int (44 : Int32)), (.int (32 : Int32)), (.int (87 : Int32)), (.int (114 : Int32)), (.int (105 : Int32)), (.int (116 : Int32)), (.int (101 : Int32))] (.int (0 : Int32)))
set_option maxRecDepth 65536 in
set_option maxHeartbeats 40000000 in
theorem rm9_23 (l : Launch) (Z : State) (a0 : Array Value) (hw : ∀ d ∈ own_ws, d.before a0 Z = true) (ws : List Jvm.Cond) (a1 : Addr) (a2 : Addr) (a5 : Addr) (k7 : ClassId) (p9 : Int32) (a14 : Addr) (k16 : ClassId) (h0 : Heap) (n0 : Nat) (O0 : Old Z n0 h0) (E_3 : Exa Z h0 a1 C_5) (E_4 : Exa Z Z.heap a2 C_4) (F6 : Fld Z Z.heap a2 C_4 "value" "[B" (.ref a5)) (V8 : Arv Z Z.heap a5 k7 .byte (5 : Int32) [(.int (87 : Int32)), (.int (114 : Int32)), (.int (105 : Int32)), (.int (116 : Int32)), (.int (101 : Int32))] (.int (0 : Int32))) (S_10 : Sta Z Z.heap C_4 "COMPACT_STRINGS" "Z" (.int p9)) (hk11 : ¬ (p9 = (0 : Int32))) (F12 : Fld Z Z.heap a2 C_4 "coder" "B" (.int (0 : Int32))) (F13 : Fld Z h0 a1 C_2 "count" "I" (.int (6 : Int32))) (F15 : Fld Z h0 a1 C_2 "value" "[B" (.ref a14)) (V17 : Arv Z h0 a14 k16 .byte (20 : Int32) [(.int (82 : Int32)), (.int (101 : Int32)), (.int (97 : Int32)), (.int (100 : Int32)), (.int (44 : Int32)), (.int (32 : Int32))] (.int (0 : Int32))) (F18 : Fld Z h0 a1 C_2 "coder" "B" (.int (0 : Int32))) (E_19 : Exa Z h0 a14 "[B") (hne20 : a1 ≠ a14) (g_a14 : n0 ≤ a14) (g_a1 : n0 ≤ a1) :
    MetFree l M_8 (head1 (Jvm.Cond.code M_8 jdk_67_method_7_code 2 (some (.object "java/lang/StringBuilder")) :: ws) ({ frames := 4, cells := 0, slots := 0, locals := 61 } : Room)) (fun a U => a = #[(.ref a1), (.ref a2)] ∧ Z.Warmed39 U.vm ∧ U.heap = h0) (fun _ _ _ _ _ => True) (fun _ U o U' => ∃ v L, o = .returned v ∧ Q9_23 Z a1 a2 a5 k7 p9 a14 k16 h0 n0 v U'.heap L ∧ FrameEnd U o U' L ({ frames := 4, cells := 0, slots := 0, locals := 61 } : Room).cells ({ frames := 4, cells := 0, slots := 0, locals := 61 } : Room).slots) := by
  refine MetFree.of_bodySF (plainFor_of_name pn_3) hisR ?_
  intro p e s m args below meth c s₁ Bd hml0 hP hK
  obtain ⟨rfl, hZ, hh⟩ := hP
  have hx := Bd.exec
  have hby := Bd.bytes
  have hml : c.maxLocals = 2 := hml0
  have hown : s.vm.findClass "java/lang/StringBuilder" = some m.cls := findClass_of_methodNamed Bd.named
  have hnm := (name_of_methodNamed Bd.named Bd.method).1
  have X0 : Stand p l e ({ frames := 4, cells := 0, slots := 0, locals := 61 } : Room) s m #[(.ref a1), (.ref a2)] below meth c s₁ [] 0 0 := Stand.of_body Bd
  have e0 : s₁.heap = h0 := by rw [← hh, Bd.state]; rfl
  have N0 := Fr.nil n0
  have pre0 : ∀ t, Steps p.tables e below (s₁.setTop (mkF m 0 #[.val (.ref a1), .val (.ref a2)] [])) t → Steps p.tables e below (s₁.setTop (entryFrame m #[(.ref a1), (.ref a2)] 2)) t := fun t k => castTop (ef_rm9_23 m a1 a2) k
  obtain ⟨_, _, ⟨T21, L21, k21, n21⟩, -, X21, ⟨Lc21, hQ21, l21, y21, z21⟩, st21⟩ := superBack X0 hx hZ (y := M_7) hown (hw _ (gw 74 rfl)) (own_sameSelf (y := M_7) (y' := M_3) rfl (hw _ (gw 82 rfl)) (hw _ (gw 65 rfl)) (by decide)) (hw _ (gw 65 rfl)) (hw _ (gw 75 rfl)) (by decide) (backOf (W := 0) (rm10_24 l Z a0 hw [] a1 a2 a5 k7 p9 a14 k16 h0 n0  O0 E_4 F6 V8 S_10 hk11 F12 F13 E_3 F15 V17 F18 E_19 g_a14 hne20 g_a1) hZ (hw _ (gw 76 rfl)) (hw _ (gw 35 rfl)) (by decide) (by decide)) e0 (Ins.self E_3) (g := (mkF m 2 #[.val (.ref a1), .val (.ref a2)] [(.ref a2), (.ref a1)])) rfl (by rw [hml]; rfl) (hw _ (gw 76 rfl)) (argsL := [(.ref a2)]) (rest := []) (lenOf pd_7 rfl) rfl (by show 2 * 0 + _ ≤ _; exact Nat.le_of_eq rfl) (hb hby d9_2) (fun _ _ => ⟨rfl, e0, (by decide : 0 + 0 ≤ _), (by decide : 0 + 0 ≤ _)⟩)
  dsimp only [Pt.U, Pt.locs, Pt.cells, Pt.slots] at X21 l21 y21 z21 st21 hQ21
  subst l21 y21 z21
  obtain ⟨rfl, u23, Ku24, u25, u26, u27, u28, u29, u30⟩ := hQ21
  have Ou24 : Old Z n0 T21.heap := O0.keep Ku24 (allS g_a14 (allS g_a1 all0))
  have N21 := Fr.app N0 u23
  obtain ⟨fs, hr, hrun, hended, hW, hsame⟩ := X21.leave (v := some (.ref a1)) (fun h => by rw [Bd.returns] at h; cases h)
  refine ⟨_, _, pre0 _ ?_, hrun, hended, _, _, rfl, ?_, ⟨_, rfl⟩, hW, hsame.mono (by decide) (by decide)⟩
  · show Steps p.tables e below (s₁.setTop (mkF m 0 #[.val (.ref a1), .val (.ref a2)] [])) _
    refine XS.aloadN X0.here hx rfl (hb hby d9_0) rfl rfl ?_
    refine XS.aloadN X0.here hx rfl (hb hby d9_1) rfl rfl ?_
    refine st21.trans ?_
    refine XS.pop X21.here hx rfl (hb hby d9_5) rfl rfl ?_
    refine XS.aloadN X21.here hx rfl (hb hby d9_6) rfl rfl ?_
    show Steps p.tables e below (T21.setTop (mkF m 7 #[.val (.ref a1), .val (.ref a2)] [(.ref a1)])) _
    jvm_step X21.here [X21.here.top, hx, (hb hby d9_7), X21.method', Bd.returns, Value.isRef, FieldType.isReference]
    first | (intro acts; rw [hr _ acts rfl rfl rfl]) | rw [hr _ _ rfl rfl rfl]
    exact Steps.refl _
  · show Q9_23 Z _ _ _ _ _ _ _ h0 n0 _ T21.heap _
    exact ⟨rfl, N21, ((Keep.refl h0 [a14, a1]).trans Ku24 (allS (Or.inl (List.mem_of_getElem? (i := 0) rfl)) (allS (Or.inl (List.mem_of_getElem? (i := 1) rfl)) all0))), u25, u26, u27, u28, u29, u30⟩
theorem ef_rm11_31 (m : MethodId) (x0 : Addr) : entryFrame m #[(.ref x0), (.int (13 : Int32))] 3 = mkF m 0 #[.val (.ref x0), .val (.int (13 : Int32)), .unset] [] := by first | (simp [entryFrame, mkF, argsToLocals, Value.category]; done) | rfl
def Q11_31 (Z : State) (a1 : Addr) (a2 : Addr) (k5 : ClassId) (h0 : Heap) (n0 : Nat) (v : Option Value) (h : Heap) (L : List Loc) : Prop := (v = none ∧ Fr n0 L ∧ h = h0)
set_option maxRecDepth 65536 in
set_option maxHeartbeats 40000000 in
theorem rm11_31 (l : Launch) (Z : State) (a0 : Array Value) (hw : ∀ d ∈ own_ws, d.before a0 Z = true) (ws : List Jvm.Cond) (a1 : Addr) (a2 : Addr) (k5 : ClassId) (h0 : Heap) (n0 : Nat) (O0 : Old Z n0 h0) (F3 : Fld Z h0 a1 C_2 "value" "[B" (.ref a2)) (V6 : Arv Z h0 a2 k5 .byte (20 : Int32) [(.int (82 : Int32)), (.int (101 : Int32)), (.int (97 : Int32)), (.int (100 : Int32)), (.int (44 : Int32)), (.int (32 : Int32)), (.int (87 : Int32)), (.int (114 : Int32)), (.int (105 : Int32)), (.int (116 : Int32)), (.int (101 : Int32))] (.int (0 : Int32))) (F8 : Fld Z h0 a1 C_2 "coder" "B" (.int (0 : Int32))) :
    MetFree l M_3 (head1 (Jvm.Cond.code M_3 jdk_68_method_9_code 3 none :: ws) ({ frames := 0, cells := 0, slots := 0, locals := 0 } : Room)) (fun a U => a = #[(.ref a1), (.int (13 : Int32))] ∧ Z.Warmed39 U.vm ∧ U.heap = h0) (fun _ _ _ _ _ => True) (fun _ U o U' => ∃ v L, o = .returned v ∧ Q11_31 Z a1 a2 k5 h0 n0 v U'.heap L ∧ FrameEnd U o U' L ({ frames := 0, cells := 0, slots := 0, locals := 0 } : Room).cells ({ frames := 0, cells := 0, slots := 0, locals := 0 } : Room).slots) := by
  refine MetFree.of_bodySF (plainFor_of_name pn_2) hisR ?_
  intro p e s m args below meth c s₁ Bd hml0 hP hK
  obtain ⟨rfl, hZ, hh⟩ := hP
  have hx := Bd.exec
  have hby := Bd.bytes
  have hml : c.maxLocals = 3 := hml0
  have hown : s.vm.findClass "java/lang/AbstractStringBuilder" = some m.cls := findClass_of_methodNamed Bd.named
  have hnm := (name_of_methodNamed Bd.named Bd.method).1
  have X0 : Stand p l e ({ frames := 0, cells := 0, slots := 0, locals := 0 } : Room) s m #[(.ref a1), (.int (13 : Int32))] below meth c s₁ [] 0 0 := Stand.of_body Bd
  have e0 : s₁.heap = h0 := by rw [← hh, Bd.state]; rfl
  have N0 := Fr.nil n0
  have pre0 : ∀ t, Steps p.tables e below (s₁.setTop (mkF m 0 #[.val (.ref a1), .val (.int (13 : Int32)), .unset] [])) t → Steps p.tables e below (s₁.setTop (entryFrame m #[(.ref a1), (.int (13 : Int32))] 3)) t := fun t k => castTop (ef_rm11_31 m a1) k
  obtain ⟨T4, X4, e4, st4⟩ := getF X0 hx hZ hown (host := "") (Or.inl (hw _ (gw 61 rfl))) Via.refl e0 F3 (g := (mkF m 1 #[.val (.ref a1), .val (.int (13 : Int32)), .unset] [(.ref a1)])) rfl rfl (hb hby d11_1)
  obtain ⟨cl7, Ar7, -, Sz7, Nn7, -, -⟩ := id V6
  obtain ⟨T9, X9, e9, st9⟩ := getF X4 hx hZ hown (host := "") (Or.inl (hw _ (gw 58 rfl))) Via.refl e4 F8 (g := (mkF m 6 #[.val (.ref a1), .val (.int (13 : Int32)), .unset] [(.ref a1), (.int (20 : Int32))])) rfl rfl (hb hby d11_6)
  obtain ⟨fs, hr, hrun, hended, hW, hsame⟩ := X9.leave (v := none) (fun _ => rfl)
  refine ⟨_, _, pre0 _ ?_, hrun, hended, _, _, rfl, ?_, ⟨_, rfl⟩, hW, hsame.mono (by decide) (by decide)⟩
  · show Steps p.tables e below (s₁.setTop (mkF m 0 #[.val (.ref a1), .val (.int (13 : Int32)), .unset] [])) _
    refine XS.aloadN X0.here hx rfl (hb hby d11_0) rfl rfl ?_
    refine st4 _ ?_
    refine X4.arraylength hx (by rw [e4]; exact Ar7.1) (State.isArrayOf_alike hZ.alike Ar7.2.1) (g := (mkF m 4 #[.val (.ref a1), .val (.int (13 : Int32)), .unset] [(.ref a2)])) rfl rfl (hb hby d11_4) _ ?_
    rw [len_of Sz7 Nn7]
    refine XS.aloadN X4.here hx rfl (hb hby d11_5) rfl rfl ?_
    refine st9 _ ?_
    refine XS.ishr X9.here hx rfl (hb hby d11_9) rfl ?_
    show Steps p.tables e below (T9.setTop (mkF m 10 #[.val (.ref a1), .val (.int (13 : Int32)), .unset] [(.int ((20 : Int32) >>> ((0 : Int32) &&& 31)))])) _
    rw [(by decide +kernel : ((20 : Int32) >>> ((0 : Int32) &&& 31)) = (20 : Int32))]
    refine XS.istoreN X9.here hx rfl (hb hby d11_10) rfl (l' := #[.val (.ref a1), .val (.int (13 : Int32)), .val (.int (20 : Int32))]) rfl ?_
    refine XS.iloadN X9.here hx rfl (hb hby d11_11) rfl ?_
    refine XS.iloadN X9.here hx rfl (hb hby d11_12) rfl ?_
    refine XS.isub X9.here hx rfl (hb hby d11_13) rfl ?_
    show Steps p.tables e below (T9.setTop (mkF m 14 #[.val (.ref a1), .val (.int (13 : Int32)), .val (.int (20 : Int32))] [(.int ((13 : Int32) - (20 : Int32)))])) _
    rw [(by decide +kernel : ((13 : Int32) - (20 : Int32)) = (-7 : Int32))]
    refine XS.ifYes X9.here hx rfl (pc0 := 14) (pc' := 38) rfl (hb hby d11_14) rfl ((if0 _ _).trans (flt (by decide +kernel : ¬ ((0 : Int32) < (-7 : Int32)))).2.2.2) (by decide) (by decide) ?_
    show Steps p.tables e below (T9.setTop (mkF m 38 #[.val (.ref a1), .val (.int (13 : Int32)), .val (.int (20 : Int32))] [])) _
    exact X9.returnOut hx Bd.returns (hb hby d11_38) hr
  · show Q11_31 Z _ _ _ h0 n0 _ T9.heap _
    rw [e9]
    exact ⟨rfl, N0, rfl⟩
theorem ef_rm14_33 (m : MethodId) (x0 : Addr) (x1 : Addr) : entryFrame m #[(.ref x0), (.ref x1), (.int (11 : Int32)), (.int (0 : Int32))] 4 = mkF m 0 #[.val (.ref x0), .val (.ref x1), .val (.int (11 : Int32)), .val (.int (0 : Int32))] [] := by first | (simp [entryFrame, mkF, argsToLocals, Value.category]; done) | rfl
def Q14_33 (Z : State) (a1 : Addr) (a2 : Addr) (p4 : Int32) (a12 : Addr) (k16 : ClassId) (k19 : ClassId) (h0 : Heap) (n0 : Nat) (v : Option Value) (h : Heap) (L : List Loc) : Prop := (v = none ∧ Fr n0 L ∧ Keep h0 h [a2] ∧ Exa Z h a2 "[B" ∧ Arv Z h a2 k19 .byte (20 : Int32) [(.int (82 : Int32)), (.int (101 : Int32)), (.int (97 : Int32)), (.int (100 : Int32)), (.int (44 : Int32)), (.int (32 : Int32)), (.int (87 : Int32)), (.int (114 : Int32)), (.int (105 : Int32)), (.int (116 : Int32)), (.int (101 : Int32)), (.int (44 : Int32)), (.int (32 : Int32))] (.int (0 : Int32)))
set_option maxRecDepth 65536 in
set_option maxHeartbeats 40000000 in
theorem rm14_33 (l : Launch) (Z : State) (a0 : Array Value) (hw : ∀ d ∈ own_ws, d.before a0 Z = true) (ws : List Jvm.Cond) (a1 : Addr) (a2 : Addr) (p4 : Int32) (a12 : Addr) (k16 : ClassId) (k19 : ClassId) (h0 : Heap) (n0 : Nat) (O0 : Old Z n0 h0) (E_3 : Exa Z h0 a1 C_4) (S_5 : Sta Z Z.heap C_4 "COMPACT_STRINGS" "Z" (.int p4)) (hk6 : ¬ (p4 = (0 : Int32))) (F7 : Fld Z h0 a1 C_4 "coder" "B" (.int (0 : Int32))) (F13 : Fld Z h0 a1 C_4 "value" "[B" (.ref a12)) (V17 : Arv Z h0 a12 k16 .byte (2 : Int32) [(.int (44 : Int32)), (.int (32 : Int32))] (.int 0)) (V20 : Arv Z h0 a2 k19 .byte (20 : Int32) [(.int (82 : Int32)), (.int (101 : Int32)), (.int (97 : Int32)), (.int (100 : Int32)), (.int (44 : Int32)), (.int (32 : Int32)), (.int (87 : Int32)), (.int (114 : Int32)), (.int (105 : Int32)), (.int (116 : Int32)), (.int (101 : Int32))] (.int (0 : Int32))) (E_21 : Exa Z h0 a2 "[B") (g_a2 : n0 ≤ a2) :
    MetFree l M_5 (head1 (Jvm.Cond.code M_5 jdk_42_method_147_code 4 none :: ws) ({ frames := 1, cells := 0, slots := 0, locals := 18 } : Room)) (fun a U => a = #[(.ref a1), (.ref a2), (.int (11 : Int32)), (.int (0 : Int32))] ∧ Z.Warmed39 U.vm ∧ U.heap = h0) (fun _ _ _ _ _ => True) (fun _ U o U' => ∃ v L, o = .returned v ∧ Q14_33 Z a1 a2 p4 a12 k16 k19 h0 n0 v U'.heap L ∧ FrameEnd U o U' L ({ frames := 1, cells := 0, slots := 0, locals := 18 } : Room).cells ({ frames := 1, cells := 0, slots := 0, locals := 18 } : Room).slots) := by
  refine MetFree.of_bodySF (plainFor_of_name pn_1) hisR ?_
  intro p e s m args below meth c s₁ Bd hml0 hP hK
  obtain ⟨rfl, hZ, hh⟩ := hP
  have hx := Bd.exec
  have hby := Bd.bytes
  have hml : c.maxLocals = 4 := hml0
  have hown : s.vm.findClass "java/lang/String" = some m.cls := findClass_of_methodNamed Bd.named
  have hnm := (name_of_methodNamed Bd.named Bd.method).1
  have X0 : Stand p l e ({ frames := 1, cells := 0, slots := 0, locals := 18 } : Room) s m #[(.ref a1), (.ref a2), (.int (11 : Int32)), (.int (0 : Int32))] below meth c s₁ [] 0 0 := Stand.of_body Bd
  have e0 : s₁.heap = h0 := by rw [← hh, Bd.state]; rfl
  have N0 := Fr.nil n0
  have pre0 : ∀ t, Steps p.tables e below (s₁.setTop (mkF m 0 #[.val (.ref a1), .val (.ref a2), .val (.int (11 : Int32)), .val (.int (0 : Int32))] [])) t → Steps p.tables e below (s₁.setTop (entryFrame m #[(.ref a1), (.ref a2), (.int (11 : Int32)), (.int (0 : Int32))] 4)) t := fun t k => castTop (ef_rm14_33 m a1 a2) k
  obtain ⟨cq8, kq8, q8a, q8b, q8c⟩ := isOf hZ e0 E_3
  obtain ⟨_, _, ⟨T8, L8, k8, n8⟩, -, X8, ⟨Lc8, hQ8, l8, y8, z8⟩, st8⟩ := X0.virtualBack hx (y := M_1) (z := M_1) hown (mvT hZ (hw _ (gw 48 rfl))) (mvT hZ (hw _ (gw 49 rfl))) (notFace_of_selects (args := #[]) (mvT hZ (hw _ (gw 51 rfl)))) (mvT hZ (hw _ (gw 51 rfl))) (mvT hZ (hw _ (gw 50 rfl))) (by decide) (backOf (W := 0) (rm7_18 l Z a0 hw [] a1 p4 h0 n0  O0 S_5 hk6 F7) hZ (hw _ (gw 52 rfl)) (hw _ (gw 44 rfl)) (by decide) (by decide)) q8a q8c (g := (mkF m 1 #[.val (.ref a1), .val (.ref a2), .val (.int (11 : Int32)), .val (.int (0 : Int32))] [(.ref a1)])) rfl (by rw [hml]; rfl) (Steps.refl _) (argsL := []) (rest := []) (lenOf pd_1 rfl) rfl (by show 2 * 0 + _ ≤ _; exact Nat.le_of_eq rfl) (hb hby d14_1) (fun _ _ => ⟨rfl, e0, (by decide : 0 + 0 ≤ _), (by decide : 0 + 0 ≤ _)⟩)
  dsimp only [Pt.U, Pt.locs, Pt.cells, Pt.slots] at X8 l8 y8 z8 st8 hQ8
  subst l8 y8 z8
  obtain ⟨rfl, u10, u11⟩ := hQ8
  have N8 := Fr.app N0 u10
  obtain ⟨T14, X14, e14, st14⟩ := getF X8 hx hZ hown (host := "") (Or.inl (hw _ (gw 46 rfl))) Via.refl u11 F13 (g := (mkF m 9 #[.val (.ref a1), .val (.ref a2), .val (.int (11 : Int32)), .val (.int (0 : Int32))] [(.ref a1)])) rfl rfl (hb hby d14_9)
  obtain ⟨T15, X15, e15, st15⟩ := getF X14 hx hZ hown (host := "") (Or.inl (hw _ (gw 46 rfl))) Via.refl e14 F13 (g := (mkF m 18 #[.val (.ref a1), .val (.ref a2), .val (.int (11 : Int32)), .val (.int (0 : Int32))] [(.ref a1), (.int (11 : Int32)), (.ref a2), (.int (0 : Int32)), (.ref a12)])) rfl rfl (hb hby d14_18)
  obtain ⟨cl18, Ar18, -, Sz18, Nn18, -, -⟩ := id V17
  have Vp22 : Arv Z h0 a2 k19 .byte (20 : Int32) [(.int (82 : Int32)), (.int (101 : Int32)), (.int (97 : Int32)), (.int (100 : Int32)), (.int (44 : Int32)), (.int (32 : Int32)), (.int (87 : Int32)), (.int (114 : Int32)), (.int (105 : Int32)), (.int (116 : Int32)), (.int (101 : Int32)), (.int (0 : Int32)), (.int (0 : Int32))] (.int (0 : Int32)) := V20.pad (pad_rep [(.int (82 : Int32)), (.int (101 : Int32)), (.int (97 : Int32)), (.int (100 : Int32)), (.int (44 : Int32)), (.int (32 : Int32)), (.int (87 : Int32)), (.int (114 : Int32)), (.int (105 : Int32)), (.int (116 : Int32)), (.int (101 : Int32))] (.int (0 : Int32)) 2)
  obtain ⟨T23, h23, L23, X23, e23, N23, Ku23, V23, st23⟩ := cpA X15 hx hZ hown (hw _ (gw 100 rfl)) (hw _ (gw 103 rfl)) (hw _ (gw 101 rfl)) (hw _ (gw 102 rfl)) e15 (sp := (0 : Int32)) (dp := (11 : Int32)) (nn := (2 : Int32)) (us := [(.int (44 : Int32)), (.int (32 : Int32))]) V17 Vp22 (Or.inl ⟨rfl, rfl⟩) (by decide +kernel) (by decide +kernel) (by decide +kernel) (by decide +kernel) (by decide +kernel) rfl (Nat.le_of_ble_eq_true rfl) N8 g_a2 (g := (mkF m 22 #[.val (.ref a1), .val (.ref a2), .val (.int (11 : Int32)), .val (.int (0 : Int32))] [(.int (2 : Int32)), (.int (11 : Int32)), (.ref a2), (.int (0 : Int32)), (.ref a12)])) rfl (by rw [hml]; rfl) rfl (hb hby d14_22) (by decide) (W := 0) (by show 2 * 0 + _ ≤ _; exact Nat.le_of_eq rfl) (by decide +kernel)
  have Ou23 : Old Z n0 h23 := O0.keep Ku23 (allS g_a2 all0)
  have Vc23 : Arv Z h23 a2 k19 .byte (20 : Int32) [(.int (82 : Int32)), (.int (101 : Int32)), (.int (97 : Int32)), (.int (100 : Int32)), (.int (44 : Int32)), (.int (32 : Int32)), (.int (87 : Int32)), (.int (114 : Int32)), (.int (105 : Int32)), (.int (116 : Int32)), (.int (101 : Int32)), (.int (44 : Int32)), (.int (32 : Int32))] (.int (0 : Int32)) := V23
  obtain ⟨fs, hr, hrun, hended, hW, hsame⟩ := X23.leave (v := none) (fun _ => rfl)
  have f24 : Exa Z h23 a2 "[B" := (E_21.keep Ku23)
  refine ⟨_, _, pre0 _ ?_, hrun, hended, _, _, rfl, ?_, ⟨_, rfl⟩, hW, hsame.mono (by decide) (by decide)⟩
  · show Steps p.tables e below (s₁.setTop (mkF m 0 #[.val (.ref a1), .val (.ref a2), .val (.int (11 : Int32)), .val (.int (0 : Int32))] [])) _
    refine XS.aloadN X0.here hx rfl (hb hby d14_0) rfl rfl ?_
    refine st8.trans ?_
    refine XS.iloadN X8.here hx rfl (hb hby d14_4) rfl ?_
    refine XS.icmpNo X8.here hx rfl (hb hby d14_5) rfl (teq (by decide +kernel : (0 : Int32) = (0 : Int32))).2 ?_
    refine XS.aloadN X8.here hx rfl (hb hby d14_8) rfl rfl ?_
    refine st14 _ ?_
    refine XS.iconst X14.here hx rfl (hb hby d14_12) ?_
    refine XS.aloadN X14.here hx rfl (hb hby d14_13) rfl rfl ?_
    refine XS.iloadN X14.here hx rfl (hb hby d14_14) rfl ?_
    show Steps p.tables e below (T14.setTop (mkF m 15 #[.val (.ref a1), .val (.ref a2), .val (.int (11 : Int32)), .val (.int (0 : Int32))] [(.int (11 : Int32)), (.ref a2), (.int (0 : Int32)), (.ref a12)])) _
    refine XS.iloadN X14.here hx rfl (hb hby d14_15) rfl ?_
    refine XS.ishl X14.here hx rfl (hb hby d14_16) rfl ?_
    show Steps p.tables e below (T14.setTop (mkF m 17 #[.val (.ref a1), .val (.ref a2), .val (.int (11 : Int32)), .val (.int (0 : Int32))] [(.int ((11 : Int32) <<< ((0 : Int32) &&& 31))), (.ref a2), (.int (0 : Int32)), (.ref a12)])) _
    rw [(by decide +kernel : ((11 : Int32) <<< ((0 : Int32) &&& 31)) = (11 : Int32))]
    refine XS.aloadN X14.here hx rfl (hb hby d14_17) rfl rfl ?_
    refine st15 _ ?_
    refine X15.arraylength hx (by rw [e15]; exact Ar18.1) (State.isArrayOf_alike hZ.alike Ar18.2.1) (g := (mkF m 21 #[.val (.ref a1), .val (.ref a2), .val (.int (11 : Int32)), .val (.int (0 : Int32))] [(.ref a12), (.int (11 : Int32)), (.ref a2), (.int (0 : Int32)), (.ref a12)])) rfl rfl (hb hby d14_21) _ ?_
    rw [len_of Sz18 Nn18]
    refine st23 _ ?_
    refine XS.goto X23.here hx rfl (pc0 := 25) (pc' := 43) rfl (hb hby d14_25) (by decide) (by decide) ?_
    show Steps p.tables e below (T23.setTop (mkF m 43 #[.val (.ref a1), .val (.ref a2), .val (.int (11 : Int32)), .val (.int (0 : Int32))] [])) _
    exact X23.returnOut hx Bd.returns (hb hby d14_43) hr
  · show Q14_33 Z _ _ _ _ _ _ h0 n0 _ T23.heap _
    rw [e23]
    exact ⟨rfl, N23, ((Keep.refl h0 [a2]).trans Ku23 (allS (Or.inl (List.mem_of_getElem? (i := 0) rfl)) all0)), f24, Vc23⟩
theorem ef_rm12_32 (m : MethodId) (x0 : Addr) (x2 : Addr) : entryFrame m #[(.ref x0), (.int (11 : Int32)), (.ref x2)] 3 = mkF m 0 #[.val (.ref x0), .val (.int (11 : Int32)), .val (.ref x2)] [] := by first | (simp [entryFrame, mkF, argsToLocals, Value.category]; done) | rfl
def Q12_32 (Z : State) (a1 : Addr) (a2 : Addr) (p4 : Int32) (a14 : Addr) (a18 : Addr) (k20 : ClassId) (k22 : ClassId) (h0 : Heap) (n0 : Nat) (v : Option Value) (h : Heap) (L : List Loc) : Prop := (v = none ∧ Fr n0 L ∧ Keep h0 h [a14] ∧ Exa Z h a14 "[B" ∧ Arv Z h a14 k22 .byte (20 : Int32) [(.int (82 : Int32)), (.int (101 : Int32)), (.int (97 : Int32)), (.int (100 : Int32)), (.int (44 : Int32)), (.int (32 : Int32)), (.int (87 : Int32)), (.int (114 : Int32)), (.int (105 : Int32)), (.int (116 : Int32)), (.int (101 : Int32)), (.int (44 : Int32)), (.int (32 : Int32))] (.int (0 : Int32)))
set_option maxRecDepth 65536 in
set_option maxHeartbeats 40000000 in
theorem rm12_32 (l : Launch) (Z : State) (a0 : Array Value) (hw : ∀ d ∈ own_ws, d.before a0 Z = true) (ws : List Jvm.Cond) (a1 : Addr) (a2 : Addr) (p4 : Int32) (a14 : Addr) (a18 : Addr) (k20 : ClassId) (k22 : ClassId) (h0 : Heap) (n0 : Nat) (O0 : Old Z n0 h0) (E_3 : Exa Z h0 a1 C_5) (S_5 : Sta Z Z.heap C_4 "COMPACT_STRINGS" "Z" (.int p4)) (hk6 : ¬ (p4 = (0 : Int32))) (F7 : Fld Z h0 a1 C_2 "coder" "B" (.int (0 : Int32))) (E_8 : Exa Z h0 a2 C_4) (F9 : Fld Z h0 a2 C_4 "coder" "B" (.int (0 : Int32))) (F15 : Fld Z h0 a1 C_2 "value" "[B" (.ref a14)) (F19 : Fld Z h0 a2 C_4 "value" "[B" (.ref a18)) (V21 : Arv Z h0 a18 k20 .byte (2 : Int32) [(.int (44 : Int32)), (.int (32 : Int32))] (.int 0)) (V23 : Arv Z h0 a14 k22 .byte (20 : Int32) [(.int (82 : Int32)), (.int (101 : Int32)), (.int (97 : Int32)), (.int (100 : Int32)), (.int (44 : Int32)), (.int (32 : Int32)), (.int (87 : Int32)), (.int (114 : Int32)), (.int (105 : Int32)), (.int (116 : Int32)), (.int (101 : Int32))] (.int (0 : Int32))) (E_24 : Exa Z h0 a14 "[B") (g_a14 : n0 ≤ a14) :
    MetFree l M_6 (head1 (Jvm.Cond.code M_6 jdk_68_method_73_code 3 none :: ws) ({ frames := 2, cells := 0, slots := 0, locals := 33 } : Room)) (fun a U => a = #[(.ref a1), (.int (11 : Int32)), (.ref a2)] ∧ Z.Warmed39 U.vm ∧ U.heap = h0) (fun _ _ _ _ _ => True) (fun _ U o U' => ∃ v L, o = .returned v ∧ Q12_32 Z a1 a2 p4 a14 a18 k20 k22 h0 n0 v U'.heap L ∧ FrameEnd U o U' L ({ frames := 2, cells := 0, slots := 0, locals := 33 } : Room).cells ({ frames := 2, cells := 0, slots := 0, locals := 33 } : Room).slots) := by
  refine MetFree.of_bodySF (plainFor_of_name pn_2) hisR ?_
  intro p e s m args below meth c s₁ Bd hml0 hP hK
  obtain ⟨rfl, hZ, hh⟩ := hP
  have hx := Bd.exec
  have hby := Bd.bytes
  have hml : c.maxLocals = 3 := hml0
  have hown : s.vm.findClass "java/lang/AbstractStringBuilder" = some m.cls := findClass_of_methodNamed Bd.named
  have hnm := (name_of_methodNamed Bd.named Bd.method).1
  have X0 : Stand p l e ({ frames := 2, cells := 0, slots := 0, locals := 33 } : Room) s m #[(.ref a1), (.int (11 : Int32)), (.ref a2)] below meth c s₁ [] 0 0 := Stand.of_body Bd
  have e0 : s₁.heap = h0 := by rw [← hh, Bd.state]; rfl
  have N0 := Fr.nil n0
  have pre0 : ∀ t, Steps p.tables e below (s₁.setTop (mkF m 0 #[.val (.ref a1), .val (.int (11 : Int32)), .val (.ref a2)] [])) t → Steps p.tables e below (s₁.setTop (entryFrame m #[(.ref a1), (.int (11 : Int32)), (.ref a2)] 3)) t := fun t k => castTop (ef_rm12_32 m a1 a2) k
  obtain ⟨cq10, q10, q10'⟩ := E_3.cell
  obtain ⟨_, _, ⟨T10, L10, k10, n10⟩, -, X10, ⟨Lc10, hQ10, l10, y10, z10⟩, st10⟩ := X0.privateBack hx (y := M_4) hown (mvT hZ (hw _ (gw 89 rfl))) (mvT hZ (hw _ (gw 90 rfl))) (own_selSelf (args := #[]) (mvT hZ (hw _ (gw 92 rfl))) (Cond.privateMethod_at (mvP hZ (hw _ (gw 91 rfl)) (args := #[]))) (mvT hZ (hw _ (gw 90 rfl))) (by decide)) (Cond.privateMethod_at (mvP hZ (hw _ (gw 91 rfl)) (args := #[]))) (mvT hZ (hw _ (gw 93 rfl))) (by decide) (backOf (W := 0) (rm13_21 l Z a0 hw [] a1 a2 p4 h0 n0  O0 S_5 hk6 F7 E_8 F9) hZ (hw _ (gw 93 rfl)) (hw _ (gw 35 rfl)) (by decide) (by decide)) (g := (mkF m 2 #[.val (.ref a1), .val (.int (11 : Int32)), .val (.ref a2)] [(.ref a2), (.ref a1)])) rfl (by rw [hml]; rfl) (Steps.refl _) (a := a1) (by rw [e0]; exact q10) q10' (argsL := [(.ref a2)]) (rest := []) (lenOf pd_4 rfl) rfl (by show 2 * 0 + _ ≤ _; exact Nat.le_of_eq rfl) (hb hby d12_2) (fun _ _ => ⟨rfl, e0, (by decide : 0 + 0 ≤ _), (by decide : 0 + 0 ≤ _)⟩)
  dsimp only [Pt.U, Pt.locs, Pt.cells, Pt.slots] at X10 l10 y10 z10 st10 hQ10
  subst l10 y10 z10
  obtain ⟨rfl, u12, u13⟩ := hQ10
  have N10 := Fr.app N0 u12
  obtain ⟨T16, X16, e16, st16⟩ := getF X10 hx hZ hown (host := "") (Or.inl (hw _ (gw 61 rfl))) Via.refl u13 F15 (g := (mkF m 7 #[.val (.ref a1), .val (.int (11 : Int32)), .val (.ref a2)] [(.ref a1), (.ref a2)])) rfl rfl (hb hby d12_7)
  obtain ⟨T17, X17, e17, st17⟩ := getF X16 hx hZ hown (host := "") (Or.inl (hw _ (gw 58 rfl))) Via.refl e16 F7 (g := (mkF m 12 #[.val (.ref a1), .val (.int (11 : Int32)), .val (.ref a2)] [(.ref a1), (.int (11 : Int32)), (.ref a14), (.ref a2)])) rfl rfl (hb hby d12_12)
  obtain ⟨cq25, kq25, q25a, q25b, q25c⟩ := isOf hZ e17 E_8
  obtain ⟨_, _, ⟨T25, L25, k25, n25⟩, -, X25, ⟨Lc25, hQ25, l25, y25, z25⟩, st25⟩ := X17.virtualBack hx (y := M_5) (z := M_5) hown (mvT hZ (hw _ (gw 95 rfl))) (mvT hZ (hw _ (gw 96 rfl))) (notFace_of_selects (args := #[]) (mvT hZ (hw _ (gw 98 rfl)))) (mvT hZ (hw _ (gw 98 rfl))) (mvT hZ (hw _ (gw 97 rfl))) (by decide) (backOf (W := 0) (rm14_33 l Z a0 hw [] a2 a14 p4 a18 k20 k22 h0 n0  O0 E_8 S_5 hk6 F9 F19 V21 V23 E_24 g_a14) hZ (hw _ (gw 99 rfl)) (hw _ (gw 44 rfl)) (by decide) (by decide)) q25a q25c (g := (mkF m 15 #[.val (.ref a1), .val (.int (11 : Int32)), .val (.ref a2)] [(.int (0 : Int32)), (.int (11 : Int32)), (.ref a14), (.ref a2)])) rfl (by rw [hml]; rfl) (Steps.refl _) (argsL := [(.ref a14), (.int (11 : Int32)), (.int (0 : Int32))]) (rest := []) (lenOf pd_5 rfl) rfl (by show 2 * 0 + _ ≤ _; exact Nat.le_of_eq rfl) (hb hby d12_15) (fun _ _ => ⟨rfl, e17, (by decide : 0 + 0 ≤ _), (by decide : 0 + 0 ≤ _)⟩)
  dsimp only [Pt.U, Pt.locs, Pt.cells, Pt.slots] at X25 l25 y25 z25 st25 hQ25
  subst l25 y25 z25
  obtain ⟨rfl, u27, Ku28, u29, u30⟩ := hQ25
  have Ou28 : Old Z n0 T25.heap := O0.keep Ku28 (allS g_a14 all0)
  have N25 := Fr.app N10 u27
  obtain ⟨fs, hr, hrun, hended, hW, hsame⟩ := X25.leave (v := none) (fun _ => rfl)
  refine ⟨_, _, pre0 _ ?_, hrun, hended, _, _, rfl, ?_, ⟨_, rfl⟩, hW, hsame.mono (by decide) (by decide)⟩
  · show Steps p.tables e below (s₁.setTop (mkF m 0 #[.val (.ref a1), .val (.int (11 : Int32)), .val (.ref a2)] [])) _
    refine XS.aloadN X0.here hx rfl (hb hby d12_0) rfl rfl ?_
    refine XS.aloadN X0.here hx rfl (hb hby d12_1) rfl rfl ?_
    refine st10.trans ?_
    refine XS.aloadN X10.here hx rfl (hb hby d12_5) rfl rfl ?_
    refine XS.aloadN X10.here hx rfl (hb hby d12_6) rfl rfl ?_
    refine st16 _ ?_
    refine XS.iloadN X16.here hx rfl (hb hby d12_10) rfl ?_
    refine XS.aloadN X16.here hx rfl (hb hby d12_11) rfl rfl ?_
    refine st17 _ ?_
    show Steps p.tables e below (T17.setTop (mkF m 15 #[.val (.ref a1), .val (.int (11 : Int32)), .val (.ref a2)] [(.int (0 : Int32)), (.int (11 : Int32)), (.ref a14), (.ref a2)])) _
    refine st25.trans ?_
    show Steps p.tables e below (T25.setTop (mkF m 18 #[.val (.ref a1), .val (.int (11 : Int32)), .val (.ref a2)] [])) _
    exact X25.returnOut hx Bd.returns (hb hby d12_18) hr
  · show Q12_32 Z _ _ _ _ _ _ _ h0 n0 _ T25.heap _
    exact ⟨rfl, N25, ((Keep.refl h0 [a14]).trans Ku28 (allS (Or.inl (List.mem_of_getElem? (i := 0) rfl)) all0)), u29, u30⟩
theorem ef_rm10_30 (m : MethodId) (x0 : Addr) (x1 : Addr) : entryFrame m #[(.ref x0), (.ref x1)] 3 = mkF m 0 #[.val (.ref x0), .val (.ref x1), .unset] [] := by first | (simp [entryFrame, mkF, argsToLocals, Value.category]; done) | rfl
def Q10_30 (Z : State) (a1 : Addr) (a2 : Addr) (a4 : Addr) (k6 : ClassId) (p8 : Int32) (a19 : Addr) (k21 : ClassId) (h0 : Heap) (n0 : Nat) (v : Option Value) (h : Heap) (L : List Loc) : Prop := (v = some (.ref a1) ∧ Fr n0 L ∧ Keep h0 h [a19, a1] ∧ Exa Z h a1 C_5 ∧ Fld Z h a1 C_2 "coder" "B" (.int (0 : Int32)) ∧ Fld Z h a1 C_2 "count" "I" (.int (13 : Int32)) ∧ Fld Z h a1 C_2 "value" "[B" (.ref a19) ∧ Exa Z h a19 "[B" ∧ Arv Z h a19 k21 .byte (20 : Int32) [(.int (82 : Int32)), (.int (101 : Int32)), (.int (97 : Int32)), (.int (100 : Int32)), (.int (44 : Int32)), (.int (32 : Int32)), (.int (87 : Int32)), (.int (114 : Int32)), (.int (105 : Int32)), (.int (116 : Int32)), (.int (101 : Int32)), (.int (44 : Int32)), (.int (32 : Int32))] (.int (0 : Int32)))
set_option maxRecDepth 65536 in
set_option maxHeartbeats 40000000 in
theorem rm10_30 (l : Launch) (Z : State) (a0 : Array Value) (hw : ∀ d ∈ own_ws, d.before a0 Z = true) (ws : List Jvm.Cond) (a1 : Addr) (a2 : Addr) (a4 : Addr) (k6 : ClassId) (p8 : Int32) (a19 : Addr) (k21 : ClassId) (h0 : Heap) (n0 : Nat) (O0 : Old Z n0 h0) (E_3 : Exa Z h0 a2 C_4) (F5 : Fld Z h0 a2 C_4 "value" "[B" (.ref a4)) (V7 : Arv Z h0 a4 k6 .byte (2 : Int32) [(.int (44 : Int32)), (.int (32 : Int32))] (.int 0)) (S_9 : Sta Z Z.heap C_4 "COMPACT_STRINGS" "Z" (.int p8)) (hk10 : ¬ (p8 = (0 : Int32))) (F11 : Fld Z h0 a2 C_4 "coder" "B" (.int (0 : Int32))) (F16 : Fld Z h0 a1 C_2 "count" "I" (.int (11 : Int32))) (E_18 : Exa Z h0 a1 C_5) (F20 : Fld Z h0 a1 C_2 "value" "[B" (.ref a19)) (V22 : Arv Z h0 a19 k21 .byte (20 : Int32) [(.int (82 : Int32)), (.int (101 : Int32)), (.int (97 : Int32)), (.int (100 : Int32)), (.int (44 : Int32)), (.int (32 : Int32)), (.int (87 : Int32)), (.int (114 : Int32)), (.int (105 : Int32)), (.int (116 : Int32)), (.int (101 : Int32))] (.int (0 : Int32))) (F23 : Fld Z h0 a1 C_2 "coder" "B" (.int (0 : Int32))) (E_29 : Exa Z h0 a19 "[B") (g_a19 : n0 ≤ a19) (hne36 : a1 ≠ a19) (g_a1 : n0 ≤ a1) :
    MetFree l M_7 (head1 (Jvm.Cond.code M_7 jdk_68_method_22_code 3 (some (.object "java/lang/AbstractStringBuilder")) :: ws) ({ frames := 3, cells := 0, slots := 0, locals := 47 } : Room)) (fun a U => a = #[(.ref a1), (.ref a2)] ∧ Z.Warmed39 U.vm ∧ U.heap = h0) (fun _ _ _ _ _ => True) (fun _ U o U' => ∃ v L, o = .returned v ∧ Q10_30 Z a1 a2 a4 k6 p8 a19 k21 h0 n0 v U'.heap L ∧ FrameEnd U o U' L ({ frames := 3, cells := 0, slots := 0, locals := 47 } : Room).cells ({ frames := 3, cells := 0, slots := 0, locals := 47 } : Room).slots) := by
  refine MetFree.of_bodySF (plainFor_of_name pn_2) hisR ?_
  intro p e s m args below meth c s₁ Bd hml0 hP hK
  obtain ⟨rfl, hZ, hh⟩ := hP
  have hx := Bd.exec
  have hby := Bd.bytes
  have hml : c.maxLocals = 3 := hml0
  have hown : s.vm.findClass "java/lang/AbstractStringBuilder" = some m.cls := findClass_of_methodNamed Bd.named
  have hnm := (name_of_methodNamed Bd.named Bd.method).1
  have X0 : Stand p l e ({ frames := 3, cells := 0, slots := 0, locals := 47 } : Room) s m #[(.ref a1), (.ref a2)] below meth c s₁ [] 0 0 := Stand.of_body Bd
  have e0 : s₁.heap = h0 := by rw [← hh, Bd.state]; rfl
  have N0 := Fr.nil n0
  have pre0 : ∀ t, Steps p.tables e below (s₁.setTop (mkF m 0 #[.val (.ref a1), .val (.ref a2), .unset] [])) t → Steps p.tables e below (s₁.setTop (entryFrame m #[(.ref a1), (.ref a2)] 3)) t := fun t k => castTop (ef_rm10_30 m a1 a2) k
  obtain ⟨cq12, kq12, q12a, q12b, q12c⟩ := isOf hZ e0 E_3
  obtain ⟨_, _, ⟨T12, L12, k12, n12⟩, -, X12, ⟨Lc12, hQ12, l12, y12, z12⟩, st12⟩ := X0.virtualBack hx (y := M_2) (z := M_2) hown (mvT hZ (hw _ (gw 40 rfl))) (mvT hZ (hw _ (gw 41 rfl))) (notFace_of_selects (args := #[]) (mvT hZ (hw _ (gw 43 rfl)))) (mvT hZ (hw _ (gw 43 rfl))) (mvT hZ (hw _ (gw 42 rfl))) (by decide) (backOf (W := 0) (rm6_17 l Z a0 hw [] a2 a4 k6 p8 h0 n0  O0 F5 V7 E_3 S_9 hk10 F11) hZ (hw _ (gw 45 rfl)) (hw _ (gw 44 rfl)) (by decide) (by decide)) q12a q12c (g := (mkF m 10 #[.val (.ref a1), .val (.ref a2), .unset] [(.ref a2)])) rfl (by rw [hml]; rfl) (Steps.refl _) (argsL := []) (rest := []) (lenOf pd_2 rfl) rfl (by show 2 * 0 + _ ≤ _; exact Nat.le_of_eq rfl) (hb hby d10_10) (fun _ _ => ⟨rfl, e0, (by decide : 0 + 0 ≤ _), (by decide : 0 + 0 ≤ _)⟩)
  dsimp only [Pt.U, Pt.locs, Pt.cells, Pt.slots] at X12 l12 y12 z12 st12 hQ12
  subst l12 y12 z12
  obtain ⟨rfl, u14, u15⟩ := hQ12
  have N12 := Fr.app N0 u14
  obtain ⟨T17, X17, e17, st17⟩ := getF X12 hx hZ hown (host := "") (Or.inl (hw _ (gw 77 rfl))) Via.refl u15 F16 (g := (mkF m 16 #[.val (.ref a1), .val (.ref a2), .val (.int (2 : Int32))] [(.ref a1), (.ref a1)])) rfl rfl (hb hby d10_16)
  obtain ⟨cq24, q24, q24'⟩ := E_18.cell
  obtain ⟨_, _, ⟨T24, L24, k24, n24⟩, -, X24, ⟨Lc24, hQ24, l24, y24, z24⟩, st24⟩ := X17.privateBack hx (y := M_3) hown (mvT hZ (hw _ (gw 79 rfl))) (mvT hZ (hw _ (gw 80 rfl))) (own_selSelf (args := #[]) (mvT hZ (hw _ (gw 82 rfl))) (Cond.privateMethod_at (mvP hZ (hw _ (gw 81 rfl)) (args := #[]))) (mvT hZ (hw _ (gw 80 rfl))) (by decide)) (Cond.privateMethod_at (mvP hZ (hw _ (gw 81 rfl)) (args := #[]))) (mvT hZ (hw _ (gw 83 rfl))) (by decide) (backOf (W := 0) (rm11_31 l Z a0 hw [] a1 a19 k21 h0 n0  O0 F20 V22 F23) hZ (hw _ (gw 83 rfl)) (hw _ (gw 35 rfl)) (by decide) (by decide)) (g := (mkF m 21 #[.val (.ref a1), .val (.ref a2), .val (.int (2 : Int32))] [(.int (13 : Int32)), (.ref a1)])) rfl (by rw [hml]; rfl) (Steps.refl _) (a := a1) (by rw [e17]; exact q24) q24' (argsL := [(.int (13 : Int32))]) (rest := []) (lenOf pd_3 rfl) rfl (by show 2 * 0 + _ ≤ _; exact Nat.le_of_eq rfl) (hb hby d10_21) (fun _ _ => ⟨rfl, e17, (by decide : 0 + 0 ≤ _), (by decide : 0 + 0 ≤ _)⟩)
  dsimp only [Pt.U, Pt.locs, Pt.cells, Pt.slots] at X24 l24 y24 z24 st24 hQ24
  subst l24 y24 z24
  obtain ⟨rfl, u26, u27⟩ := hQ24
  have N24 := Fr.app N12 u26
  obtain ⟨T28, X28, e28, st28⟩ := getF X24 hx hZ hown (host := "") (Or.inl (hw _ (gw 77 rfl))) Via.refl u27 F16 (g := (mkF m 26 #[.val (.ref a1), .val (.ref a2), .val (.int (2 : Int32))] [(.ref a1), (.ref a1)])) rfl rfl (hb hby d10_26)
  obtain ⟨cq30, q30, q30'⟩ := E_18.cell
  obtain ⟨_, _, ⟨T30, L30, k30, n30⟩, -, X30, ⟨Lc30, hQ30, l30, y30, z30⟩, st30⟩ := X28.privateBack hx (y := M_6) hown (mvT hZ (hw _ (gw 84 rfl))) (mvT hZ (hw _ (gw 85 rfl))) (own_selSelf (args := #[]) (mvT hZ (hw _ (gw 87 rfl))) (Cond.privateMethod_at (mvP hZ (hw _ (gw 86 rfl)) (args := #[]))) (mvT hZ (hw _ (gw 85 rfl))) (by decide)) (Cond.privateMethod_at (mvP hZ (hw _ (gw 86 rfl)) (args := #[]))) (mvT hZ (hw _ (gw 88 rfl))) (by decide) (backOf (W := 0) (rm12_32 l Z a0 hw [] a1 a2 p8 a19 a4 k6 k21 h0 n0  O0 E_18 S_9 hk10 F23 E_3 F11 F20 F5 V7 V22 E_29 g_a19) hZ (hw _ (gw 88 rfl)) (hw _ (gw 35 rfl)) (by decide) (by decide)) (g := (mkF m 30 #[.val (.ref a1), .val (.ref a2), .val (.int (2 : Int32))] [(.ref a2), (.int (11 : Int32)), (.ref a1)])) rfl (by rw [hml]; rfl) (Steps.refl _) (a := a1) (by rw [e28]; exact q30) q30' (argsL := [(.int (11 : Int32)), (.ref a2)]) (rest := []) (lenOf pd_6 rfl) rfl (by show 2 * 0 + _ ≤ _; exact Nat.le_of_eq rfl) (hb hby d10_30) (fun _ _ => ⟨rfl, e28, (by decide : 0 + 0 ≤ _), (by decide : 0 + 0 ≤ _)⟩)
  dsimp only [Pt.U, Pt.locs, Pt.cells, Pt.slots] at X30 l30 y30 z30 st30 hQ30
  subst l30 y30 z30
  obtain ⟨rfl, u32, Ku33, u34, u35⟩ := hQ30
  have Ou33 : Old Z n0 T30.heap := O0.keep Ku33 (allS g_a19 all0)
  have N30 := Fr.app N24 u32
  have f37 : Fld Z T30.heap a1 C_2 "count" "I" (.int (11 : Int32)) := (F16.keep Ku33 (ninS hne36 nin0))
  obtain ⟨T38, X38, e38, st38⟩ := getF X30 hx hZ hown (host := "") (Or.inl (hw _ (gw 77 rfl))) Via.refl rfl f37 (g := (mkF m 35 #[.val (.ref a1), .val (.ref a2), .val (.int (2 : Int32))] [(.ref a1), (.ref a1)])) rfl rfl (hb hby d10_35)
  have f39 : Exa Z T30.heap a1 C_5 := (E_18.keep Ku33)
  obtain ⟨T40, h40, X40, e40, W40, st40⟩ := putF X38 hx hZ hown (host := "") (Or.inl (hw _ (gw 77 rfl))) Via.refl e38 f37 f39 (Or.inl (hw _ (gw 78 rfl))) (hw _ (gw 24 rfl)) (ty := .int) (by decide) rfl rfl (g := (mkF m 40 #[.val (.ref a1), .val (.ref a2), .val (.int (2 : Int32))] [(.int (13 : Int32)), (.ref a1)])) rfl rfl (hb hby d10_40)
  have O40 : Old Z n0 h40 := Ou33.wr W40 g_a1
  have Fw40 : Fld Z h40 a1 C_2 "count" "I" (.int (13 : Int32)) := Fld.same W40 f37
  have N40 := Fr.snoc X40 N30 g_a1
  obtain ⟨fs, hr, hrun, hended, hW, hsame⟩ := X40.leave (v := some (.ref a1)) (fun h => by rw [Bd.returns] at h; cases h)
  have f41 : Exa Z h40 a1 C_5 := (Exa.wr W40 f39)
  have f42 : Fld Z h40 a1 C_2 "coder" "B" (.int (0 : Int32)) := (Fld.other W40 (F23.keep Ku33 (ninS hne36 nin0)) (Or.inr (slot_ne (Or.inl (hw _ (gw 59 rfl))) (Or.inl (hw _ (gw 78 rfl))) (by decide) (t := .byte) (t' := .int) (by decide) (by decide))))
  have f43 : Fld Z h40 a1 C_2 "value" "[B" (.ref a19) := (Fld.other W40 (F20.keep Ku33 (ninS hne36 nin0)) (Or.inr (slot_ne (Or.inl (hw _ (gw 62 rfl))) (Or.inl (hw _ (gw 78 rfl))) (by decide) (t := (.array .byte)) (t' := .int) (by decide) (by decide))))
  have f44 : Exa Z h40 a19 "[B" := (Exa.wr W40 u34)
  have f45 : Arv Z h40 a19 k21 .byte (20 : Int32) [(.int (82 : Int32)), (.int (101 : Int32)), (.int (97 : Int32)), (.int (100 : Int32)), (.int (44 : Int32)), (.int (32 : Int32)), (.int (87 : Int32)), (.int (114 : Int32)), (.int (105 : Int32)), (.int (116 : Int32)), (.int (101 : Int32)), (.int (44 : Int32)), (.int (32 : Int32))] (.int (0 : Int32)) := (u35.other W40 (Ne.symm hne36))
  refine ⟨_, _, pre0 _ ?_, hrun, hended, _, _, rfl, ?_, ⟨_, rfl⟩, hW, hsame.mono (by decide) (by decide)⟩
  · show Steps p.tables e below (s₁.setTop (mkF m 0 #[.val (.ref a1), .val (.ref a2), .unset] [])) _
    refine XS.aloadN X0.here hx rfl (hb hby d10_0) rfl rfl ?_
    refine XS.ifnonnullYes X0.here hx rfl (pc0 := 1) (pc' := 9) rfl (hb hby d10_1) rfl (by decide) (by decide) ?_
    refine XS.aloadN X0.here hx rfl (hb hby d10_9) rfl rfl ?_
    refine st12.trans ?_
    refine XS.istoreN X12.here hx rfl (hb hby d10_13) rfl (l' := #[.val (.ref a1), .val (.ref a2), .val (.int (2 : Int32))]) rfl ?_
    refine XS.aloadN X12.here hx rfl (hb hby d10_14) rfl rfl ?_
    refine XS.aloadN X12.here hx rfl (hb hby d10_15) rfl rfl ?_
    refine st17 _ ?_
    refine XS.iloadN X17.here hx rfl (hb hby d10_19) rfl ?_
    show Steps p.tables e below (T17.setTop (mkF m 20 #[.val (.ref a1), .val (.ref a2), .val (.int (2 : Int32))] [(.int (2 : Int32)), (.int (11 : Int32)), (.ref a1)])) _
    refine XS.iadd X17.here hx rfl (hb hby d10_20) rfl ?_
    show Steps p.tables e below (T17.setTop (mkF m 21 #[.val (.ref a1), .val (.ref a2), .val (.int (2 : Int32))] [(.int ((11 : Int32) + (2 : Int32))), (.ref a1)])) _
    rw [(by decide +kernel : ((11 : Int32) + (2 : Int32)) = (13 : Int32))]
    refine st24.trans ?_
    refine XS.aloadN X24.here hx rfl (hb hby d10_24) rfl rfl ?_
    refine XS.aloadN X24.here hx rfl (hb hby d10_25) rfl rfl ?_
    refine st28 _ ?_
    refine XS.aloadN X28.here hx rfl (hb hby d10_29) rfl rfl ?_
    refine st30.trans ?_
    refine XS.aloadN X30.here hx rfl (hb hby d10_33) rfl rfl ?_
    refine XS.dup X30.here hx rfl (hb hby d10_34) rfl rfl ?_
    show Steps p.tables e below (T30.setTop (mkF m 35 #[.val (.ref a1), .val (.ref a2), .val (.int (2 : Int32))] [(.ref a1), (.ref a1)])) _
    refine st38 _ ?_
    refine XS.iloadN X38.here hx rfl (hb hby d10_38) rfl ?_
    refine XS.iadd X38.here hx rfl (hb hby d10_39) rfl ?_
    show Steps p.tables e below (T38.setTop (mkF m 40 #[.val (.ref a1), .val (.ref a2), .val (.int (2 : Int32))] [(.int ((11 : Int32) + (2 : Int32))), (.ref a1)])) _
    rw [(by decide +kernel : ((11 : Int32) + (2 : Int32)) = (13 : Int32))]
    refine st40 _ ?_
    refine XS.aloadN X40.here hx rfl (hb hby d10_43) rfl rfl ?_
    show Steps p.tables e below (T40.setTop (mkF m 44 #[.val (.ref a1), .val (.ref a2), .val (.int (2 : Int32))] [(.ref a1)])) _
    jvm_step X40.here [X40.here.top, hx, (hb hby d10_44), X40.method', Bd.returns, Value.isRef, FieldType.isReference]
    first | (intro acts; rw [hr _ acts rfl rfl rfl]) | rw [hr _ _ rfl rfl rfl]
    exact Steps.refl _
  · show Q10_30 Z _ _ _ _ _ _ _ h0 n0 _ T40.heap _
    rw [e40]
    exact ⟨rfl, N40, (((Keep.refl h0 [a19, a1]).trans Ku33 (allS (Or.inl (List.mem_of_getElem? (i := 0) rfl)) all0)).wr W40 (Or.inl (List.mem_of_getElem? (i := 1) rfl))), f41, f42, Fw40, f43, f44, f45⟩
theorem ef_rm9_29 (m : MethodId) (x0 : Addr) (x1 : Addr) : entryFrame m #[(.ref x0), (.ref x1)] 2 = mkF m 0 #[.val (.ref x0), .val (.ref x1)] [] := by first | (simp [entryFrame, mkF, argsToLocals, Value.category]; done) | rfl
def Q9_29 (Z : State) (a1 : Addr) (a2 : Addr) (a5 : Addr) (k7 : ClassId) (p9 : Int32) (a14 : Addr) (k16 : ClassId) (h0 : Heap) (n0 : Nat) (v : Option Value) (h : Heap) (L : List Loc) : Prop := (v = some (.ref a1) ∧ Fr n0 L ∧ Keep h0 h [a14, a1] ∧ Exa Z h a1 C_5 ∧ Fld Z h a1 C_2 "coder" "B" (.int (0 : Int32)) ∧ Fld Z h a1 C_2 "count" "I" (.int (13 : Int32)) ∧ Fld Z h a1 C_2 "value" "[B" (.ref a14) ∧ Exa Z h a14 "[B" ∧ Arv Z h a14 k16 .byte (20 : Int32) [(.int (82 : Int32)), (.int (101 : Int32)), (.int (97 : Int32)), (.int (100 : Int32)), (.int (44 : Int32)), (.int (32 : Int32)), (.int (87 : Int32)), (.int (114 : Int32)), (.int (105 : Int32)), (.int (116 : Int32)), (.int (101 : Int32)), (.int (44 : Int32)), (.int (32 : Int32))] (.int (0 : Int32)))
set_option maxRecDepth 65536 in
set_option maxHeartbeats 40000000 in
theorem rm9_29 (l : Launch) (Z : State) (a0 : Array Value) (hw : ∀ d ∈ own_ws, d.before a0 Z = true) (ws : List Jvm.Cond) (a1 : Addr) (a2 : Addr) (a5 : Addr) (k7 : ClassId) (p9 : Int32) (a14 : Addr) (k16 : ClassId) (h0 : Heap) (n0 : Nat) (O0 : Old Z n0 h0) (E_3 : Exa Z h0 a1 C_5) (E_4 : Exa Z h0 a2 C_4) (F6 : Fld Z h0 a2 C_4 "value" "[B" (.ref a5)) (V8 : Arv Z h0 a5 k7 .byte (2 : Int32) [(.int (44 : Int32)), (.int (32 : Int32))] (.int 0)) (S_10 : Sta Z Z.heap C_4 "COMPACT_STRINGS" "Z" (.int p9)) (hk11 : ¬ (p9 = (0 : Int32))) (F12 : Fld Z h0 a2 C_4 "coder" "B" (.int (0 : Int32))) (F13 : Fld Z h0 a1 C_2 "count" "I" (.int (11 : Int32))) (F15 : Fld Z h0 a1 C_2 "value" "[B" (.ref a14)) (V17 : Arv Z h0 a14 k16 .byte (20 : Int32) [(.int (82 : Int32)), (.int (101 : Int32)), (.int (97 : Int32)), (.int (100 : Int32)), (.int (44 : Int32)), (.int (32 : Int32)), (.int (87 : Int32)), (.int (114 : Int32)), (.int (105 : Int32)), (.int (116 : Int32)), (.int (101 : Int32))] (.int (0 : Int32))) (F18 : Fld Z h0 a1 C_2 "coder" "B" (.int (0 : Int32))) (E_19 : Exa Z h0 a14 "[B") (hne20 : a1 ≠ a14) (g_a14 : n0 ≤ a14) (g_a1 : n0 ≤ a1) :
    MetFree l M_8 (head1 (Jvm.Cond.code M_8 jdk_67_method_7_code 2 (some (.object "java/lang/StringBuilder")) :: ws) ({ frames := 4, cells := 0, slots := 0, locals := 61 } : Room)) (fun a U => a = #[(.ref a1), (.ref a2)] ∧ Z.Warmed39 U.vm ∧ U.heap = h0) (fun _ _ _ _ _ => True) (fun _ U o U' => ∃ v L, o = .returned v ∧ Q9_29 Z a1 a2 a5 k7 p9 a14 k16 h0 n0 v U'.heap L ∧ FrameEnd U o U' L ({ frames := 4, cells := 0, slots := 0, locals := 61 } : Room).cells ({ frames := 4, cells := 0, slots := 0, locals := 61 } : Room).slots) := by
  refine MetFree.of_bodySF (plainFor_of_name pn_3) hisR ?_
  intro p e s m args below meth c s₁ Bd hml0 hP hK
  obtain ⟨rfl, hZ, hh⟩ := hP
  have hx := Bd.exec
  have hby := Bd.bytes
  have hml : c.maxLocals = 2 := hml0
  have hown : s.vm.findClass "java/lang/StringBuilder" = some m.cls := findClass_of_methodNamed Bd.named
  have hnm := (name_of_methodNamed Bd.named Bd.method).1
  have X0 : Stand p l e ({ frames := 4, cells := 0, slots := 0, locals := 61 } : Room) s m #[(.ref a1), (.ref a2)] below meth c s₁ [] 0 0 := Stand.of_body Bd
  have e0 : s₁.heap = h0 := by rw [← hh, Bd.state]; rfl
  have N0 := Fr.nil n0
  have pre0 : ∀ t, Steps p.tables e below (s₁.setTop (mkF m 0 #[.val (.ref a1), .val (.ref a2)] [])) t → Steps p.tables e below (s₁.setTop (entryFrame m #[(.ref a1), (.ref a2)] 2)) t := fun t k => castTop (ef_rm9_29 m a1 a2) k
  obtain ⟨_, _, ⟨T21, L21, k21, n21⟩, -, X21, ⟨Lc21, hQ21, l21, y21, z21⟩, st21⟩ := superBack X0 hx hZ (y := M_7) hown (hw _ (gw 74 rfl)) (own_sameSelf (y := M_7) (y' := M_3) rfl (hw _ (gw 82 rfl)) (hw _ (gw 65 rfl)) (by decide)) (hw _ (gw 65 rfl)) (hw _ (gw 75 rfl)) (by decide) (backOf (W := 0) (rm10_30 l Z a0 hw [] a1 a2 a5 k7 p9 a14 k16 h0 n0  O0 E_4 F6 V8 S_10 hk11 F12 F13 E_3 F15 V17 F18 E_19 g_a14 hne20 g_a1) hZ (hw _ (gw 76 rfl)) (hw _ (gw 35 rfl)) (by decide) (by decide)) e0 (Ins.self E_3) (g := (mkF m 2 #[.val (.ref a1), .val (.ref a2)] [(.ref a2), (.ref a1)])) rfl (by rw [hml]; rfl) (hw _ (gw 76 rfl)) (argsL := [(.ref a2)]) (rest := []) (lenOf pd_7 rfl) rfl (by show 2 * 0 + _ ≤ _; exact Nat.le_of_eq rfl) (hb hby d9_2) (fun _ _ => ⟨rfl, e0, (by decide : 0 + 0 ≤ _), (by decide : 0 + 0 ≤ _)⟩)
  dsimp only [Pt.U, Pt.locs, Pt.cells, Pt.slots] at X21 l21 y21 z21 st21 hQ21
  subst l21 y21 z21
  obtain ⟨rfl, u23, Ku24, u25, u26, u27, u28, u29, u30⟩ := hQ21
  have Ou24 : Old Z n0 T21.heap := O0.keep Ku24 (allS g_a14 (allS g_a1 all0))
  have N21 := Fr.app N0 u23
  obtain ⟨fs, hr, hrun, hended, hW, hsame⟩ := X21.leave (v := some (.ref a1)) (fun h => by rw [Bd.returns] at h; cases h)
  refine ⟨_, _, pre0 _ ?_, hrun, hended, _, _, rfl, ?_, ⟨_, rfl⟩, hW, hsame.mono (by decide) (by decide)⟩
  · show Steps p.tables e below (s₁.setTop (mkF m 0 #[.val (.ref a1), .val (.ref a2)] [])) _
    refine XS.aloadN X0.here hx rfl (hb hby d9_0) rfl rfl ?_
    refine XS.aloadN X0.here hx rfl (hb hby d9_1) rfl rfl ?_
    refine st21.trans ?_
    refine XS.pop X21.here hx rfl (hb hby d9_5) rfl rfl ?_
    refine XS.aloadN X21.here hx rfl (hb hby d9_6) rfl rfl ?_
    show Steps p.tables e below (T21.setTop (mkF m 7 #[.val (.ref a1), .val (.ref a2)] [(.ref a1)])) _
    jvm_step X21.here [X21.here.top, hx, (hb hby d9_7), X21.method', Bd.returns, Value.isRef, FieldType.isReference]
    first | (intro acts; rw [hr _ acts rfl rfl rfl]) | rw [hr _ _ rfl rfl rfl]
    exact Steps.refl _
  · show Q9_29 Z _ _ _ _ _ _ _ h0 n0 _ T21.heap _
    exact ⟨rfl, N21, ((Keep.refl h0 [a14, a1]).trans Ku24 (allS (Or.inl (List.mem_of_getElem? (i := 0) rfl)) (allS (Or.inl (List.mem_of_getElem? (i := 1) rfl)) all0))), u25, u26, u27, u28, u29, u30⟩
theorem ef_rm6_36 (m : MethodId) (x0 : Addr) : entryFrame m #[(.ref x0)] 1 = mkF m 0 #[.val (.ref x0)] [] := by first | (simp [entryFrame, mkF, argsToLocals, Value.category]; done) | rfl
def Q6_36 (Z : State) (a1 : Addr) (a2 : Addr) (k5 : ClassId) (p9 : Int32) (h0 : Heap) (n0 : Nat) (v : Option Value) (h : Heap) (L : List Loc) : Prop := (v = some (.int (6 : Int32)) ∧ Fr n0 L ∧ h = h0)
set_option maxRecDepth 65536 in
set_option maxHeartbeats 40000000 in
theorem rm6_36 (l : Launch) (Z : State) (a0 : Array Value) (hw : ∀ d ∈ own_ws, d.before a0 Z = true) (ws : List Jvm.Cond) (a1 : Addr) (a2 : Addr) (k5 : ClassId) (p9 : Int32) (h0 : Heap) (n0 : Nat) (O0 : Old Z n0 h0) (F3 : Fld Z Z.heap a1 C_4 "value" "[B" (.ref a2)) (V6 : Arv Z Z.heap a2 k5 .byte (6 : Int32) [(.int (65 : Int32)), (.int (112 : Int32)), (.int (112 : Int32)), (.int (101 : Int32)), (.int (110 : Int32)), (.int (100 : Int32))] (.int (0 : Int32))) (E_8 : Exa Z Z.heap a1 C_4) (S_10 : Sta Z Z.heap C_4 "COMPACT_STRINGS" "Z" (.int p9)) (hk11 : ¬ (p9 = (0 : Int32))) (F12 : Fld Z Z.heap a1 C_4 "coder" "B" (.int (0 : Int32))) :
    MetFree l M_2 (head1 (Jvm.Cond.code M_2 jdk_42_method_54_code 1 (some .int) :: ws) ({ frames := 1, cells := 0, slots := 0, locals := 13 } : Room)) (fun a U => a = #[(.ref a1)] ∧ Z.Warmed39 U.vm ∧ U.heap = h0) (fun _ _ _ _ _ => True) (fun _ U o U' => ∃ v L, o = .returned v ∧ Q6_36 Z a1 a2 k5 p9 h0 n0 v U'.heap L ∧ FrameEnd U o U' L ({ frames := 1, cells := 0, slots := 0, locals := 13 } : Room).cells ({ frames := 1, cells := 0, slots := 0, locals := 13 } : Room).slots) := by
  refine MetFree.of_bodySF (plainFor_of_name pn_1) hisR ?_
  intro p e s m args below meth c s₁ Bd hml0 hP hK
  obtain ⟨rfl, hZ, hh⟩ := hP
  have hx := Bd.exec
  have hby := Bd.bytes
  have hml : c.maxLocals = 1 := hml0
  have hown : s.vm.findClass "java/lang/String" = some m.cls := findClass_of_methodNamed Bd.named
  have hnm := (name_of_methodNamed Bd.named Bd.method).1
  have X0 : Stand p l e ({ frames := 1, cells := 0, slots := 0, locals := 13 } : Room) s m #[(.ref a1)] below meth c s₁ [] 0 0 := Stand.of_body Bd
  have e0 : s₁.heap = h0 := by rw [← hh, Bd.state]; rfl
  have N0 := Fr.nil n0
  have pre0 : ∀ t, Steps p.tables e below (s₁.setTop (mkF m 0 #[.val (.ref a1)] [])) t → Steps p.tables e below (s₁.setTop (entryFrame m #[(.ref a1)] 1)) t := fun t k => castTop (ef_rm6_36 m a1) k
  obtain ⟨T4, X4, e4, st4⟩ := getF X0 hx hZ hown (host := "") (Or.inl (hw _ (gw 46 rfl))) Via.refl e0 (Fld.ext O0.2 F3) (g := (mkF m 1 #[.val (.ref a1)] [(.ref a1)])) rfl rfl (hb hby d6_1)
  obtain ⟨cl7, Ar7, -, Sz7, Nn7, -, -⟩ := id (V6.ext O0.2)
  obtain ⟨cq13, kq13, q13a, q13b, q13c⟩ := isOf hZ e4 (Exa.ext O0.2 E_8)
  obtain ⟨_, _, ⟨T13, L13, k13, n13⟩, -, X13, ⟨Lc13, hQ13, l13, y13, z13⟩, st13⟩ := X4.virtualBack hx (y := M_1) (z := M_1) hown (mvT hZ (hw _ (gw 48 rfl))) (mvT hZ (hw _ (gw 49 rfl))) (notFace_of_selects (args := #[]) (mvT hZ (hw _ (gw 51 rfl)))) (mvT hZ (hw _ (gw 51 rfl))) (mvT hZ (hw _ (gw 50 rfl))) (by decide) (backOf (W := 1) (rm7_7 l Z a0 hw [] a1 p9 h0 n0  O0 S_10 hk11 F12) hZ (hw _ (gw 52 rfl)) (hw _ (gw 44 rfl)) (by decide) (by decide)) q13a q13c (g := (mkF m 6 #[.val (.ref a1)] [(.ref a1), (.int (6 : Int32))])) rfl (by rw [hml]; rfl) (Steps.refl _) (argsL := []) (rest := [(.int (6 : Int32))]) (lenOf pd_1 rfl) rfl (by show 2 * 0 + _ ≤ _; exact Nat.le_of_eq rfl) (hb hby d6_6) (fun _ _ => ⟨rfl, e4, (by decide : 0 + 0 ≤ _), (by decide : 0 + 0 ≤ _)⟩)
  dsimp only [Pt.U, Pt.locs, Pt.cells, Pt.slots] at X13 l13 y13 z13 st13 hQ13
  subst l13 y13 z13
  obtain ⟨rfl, u15, u16⟩ := hQ13
  have N13 := Fr.app N0 u15
  obtain ⟨fs, hr, hrun, hended, hW, hsame⟩ := X13.leave (v := some (.int (6 : Int32))) (fun h => by rw [Bd.returns] at h; cases h)
  refine ⟨_, _, pre0 _ ?_, hrun, hended, _, _, rfl, ?_, ⟨_, rfl⟩, hW, hsame.mono (by decide) (by decide)⟩
  · show Steps p.tables e below (s₁.setTop (mkF m 0 #[.val (.ref a1)] [])) _
    refine XS.aloadN X0.here hx rfl (hb hby d6_0) rfl rfl ?_
    refine st4 _ ?_
    refine X4.arraylength hx (by rw [e4]; exact Ar7.1) (State.isArrayOf_alike hZ.alike Ar7.2.1) (g := (mkF m 4 #[.val (.ref a1)] [(.ref a2)])) rfl rfl (hb hby d6_4) _ ?_
    rw [len_of Sz7 Nn7]
    refine XS.aloadN X4.here hx rfl (hb hby d6_5) rfl rfl ?_
    refine st13.trans ?_
    refine XS.ishr X13.here hx rfl (hb hby d6_9) rfl ?_
    show Steps p.tables e below (T13.setTop (mkF m 10 #[.val (.ref a1)] [(.int ((6 : Int32) >>> ((0 : Int32) &&& 31)))])) _
    rw [(by decide +kernel : ((6 : Int32) >>> ((0 : Int32) &&& 31)) = (6 : Int32))]
    show Steps p.tables e below (T13.setTop (mkF m 10 #[.val (.ref a1)] [(.int (6 : Int32))])) _
    exact retI X13 hx Bd.returns (hb hby d6_10) hr
  · show Q6_36 Z _ _ _ _ h0 n0 _ T13.heap _
    rw [u16]
    exact ⟨rfl, N13, rfl⟩
theorem ef_rm11_37 (m : MethodId) (x0 : Addr) : entryFrame m #[(.ref x0), (.int (19 : Int32))] 3 = mkF m 0 #[.val (.ref x0), .val (.int (19 : Int32)), .unset] [] := by first | (simp [entryFrame, mkF, argsToLocals, Value.category]; done) | rfl
def Q11_37 (Z : State) (a1 : Addr) (a2 : Addr) (k5 : ClassId) (h0 : Heap) (n0 : Nat) (v : Option Value) (h : Heap) (L : List Loc) : Prop := (v = none ∧ Fr n0 L ∧ h = h0)
set_option maxRecDepth 65536 in
set_option maxHeartbeats 40000000 in
theorem rm11_37 (l : Launch) (Z : State) (a0 : Array Value) (hw : ∀ d ∈ own_ws, d.before a0 Z = true) (ws : List Jvm.Cond) (a1 : Addr) (a2 : Addr) (k5 : ClassId) (h0 : Heap) (n0 : Nat) (O0 : Old Z n0 h0) (F3 : Fld Z h0 a1 C_2 "value" "[B" (.ref a2)) (V6 : Arv Z h0 a2 k5 .byte (20 : Int32) [(.int (82 : Int32)), (.int (101 : Int32)), (.int (97 : Int32)), (.int (100 : Int32)), (.int (44 : Int32)), (.int (32 : Int32)), (.int (87 : Int32)), (.int (114 : Int32)), (.int (105 : Int32)), (.int (116 : Int32)), (.int (101 : Int32)), (.int (44 : Int32)), (.int (32 : Int32))] (.int (0 : Int32))) (F8 : Fld Z h0 a1 C_2 "coder" "B" (.int (0 : Int32))) :
    MetFree l M_3 (head1 (Jvm.Cond.code M_3 jdk_68_method_9_code 3 none :: ws) ({ frames := 0, cells := 0, slots := 0, locals := 0 } : Room)) (fun a U => a = #[(.ref a1), (.int (19 : Int32))] ∧ Z.Warmed39 U.vm ∧ U.heap = h0) (fun _ _ _ _ _ => True) (fun _ U o U' => ∃ v L, o = .returned v ∧ Q11_37 Z a1 a2 k5 h0 n0 v U'.heap L ∧ FrameEnd U o U' L ({ frames := 0, cells := 0, slots := 0, locals := 0 } : Room).cells ({ frames := 0, cells := 0, slots := 0, locals := 0 } : Room).slots) := by
  refine MetFree.of_bodySF (plainFor_of_name pn_2) hisR ?_
  intro p e s m args below meth c s₁ Bd hml0 hP hK
  obtain ⟨rfl, hZ, hh⟩ := hP
  have hx := Bd.exec
  have hby := Bd.bytes
  have hml : c.maxLocals = 3 := hml0
  have hown : s.vm.findClass "java/lang/AbstractStringBuilder" = some m.cls := findClass_of_methodNamed Bd.named
  have hnm := (name_of_methodNamed Bd.named Bd.method).1
  have X0 : Stand p l e ({ frames := 0, cells := 0, slots := 0, locals := 0 } : Room) s m #[(.ref a1), (.int (19 : Int32))] below meth c s₁ [] 0 0 := Stand.of_body Bd
  have e0 : s₁.heap = h0 := by rw [← hh, Bd.state]; rfl
  have N0 := Fr.nil n0
  have pre0 : ∀ t, Steps p.tables e below (s₁.setTop (mkF m 0 #[.val (.ref a1), .val (.int (19 : Int32)), .unset] [])) t → Steps p.tables e below (s₁.setTop (entryFrame m #[(.ref a1), (.int (19 : Int32))] 3)) t := fun t k => castTop (ef_rm11_37 m a1) k
  obtain ⟨T4, X4, e4, st4⟩ := getF X0 hx hZ hown (host := "") (Or.inl (hw _ (gw 61 rfl))) Via.refl e0 F3 (g := (mkF m 1 #[.val (.ref a1), .val (.int (19 : Int32)), .unset] [(.ref a1)])) rfl rfl (hb hby d11_1)
  obtain ⟨cl7, Ar7, -, Sz7, Nn7, -, -⟩ := id V6
  obtain ⟨T9, X9, e9, st9⟩ := getF X4 hx hZ hown (host := "") (Or.inl (hw _ (gw 58 rfl))) Via.refl e4 F8 (g := (mkF m 6 #[.val (.ref a1), .val (.int (19 : Int32)), .unset] [(.ref a1), (.int (20 : Int32))])) rfl rfl (hb hby d11_6)
  obtain ⟨fs, hr, hrun, hended, hW, hsame⟩ := X9.leave (v := none) (fun _ => rfl)
  refine ⟨_, _, pre0 _ ?_, hrun, hended, _, _, rfl, ?_, ⟨_, rfl⟩, hW, hsame.mono (by decide) (by decide)⟩
  · show Steps p.tables e below (s₁.setTop (mkF m 0 #[.val (.ref a1), .val (.int (19 : Int32)), .unset] [])) _
    refine XS.aloadN X0.here hx rfl (hb hby d11_0) rfl rfl ?_
    refine st4 _ ?_
    refine X4.arraylength hx (by rw [e4]; exact Ar7.1) (State.isArrayOf_alike hZ.alike Ar7.2.1) (g := (mkF m 4 #[.val (.ref a1), .val (.int (19 : Int32)), .unset] [(.ref a2)])) rfl rfl (hb hby d11_4) _ ?_
    rw [len_of Sz7 Nn7]
    refine XS.aloadN X4.here hx rfl (hb hby d11_5) rfl rfl ?_
    refine st9 _ ?_
    refine XS.ishr X9.here hx rfl (hb hby d11_9) rfl ?_
    show Steps p.tables e below (T9.setTop (mkF m 10 #[.val (.ref a1), .val (.int (19 : Int32)), .unset] [(.int ((20 : Int32) >>> ((0 : Int32) &&& 31)))])) _
    rw [(by decide +kernel : ((20 : Int32) >>> ((0 : Int32) &&& 31)) = (20 : Int32))]
    refine XS.istoreN X9.here hx rfl (hb hby d11_10) rfl (l' := #[.val (.ref a1), .val (.int (19 : Int32)), .val (.int (20 : Int32))]) rfl ?_
    refine XS.iloadN X9.here hx rfl (hb hby d11_11) rfl ?_
    refine XS.iloadN X9.here hx rfl (hb hby d11_12) rfl ?_
    refine XS.isub X9.here hx rfl (hb hby d11_13) rfl ?_
    show Steps p.tables e below (T9.setTop (mkF m 14 #[.val (.ref a1), .val (.int (19 : Int32)), .val (.int (20 : Int32))] [(.int ((19 : Int32) - (20 : Int32)))])) _
    rw [(by decide +kernel : ((19 : Int32) - (20 : Int32)) = (-1 : Int32))]
    refine XS.ifYes X9.here hx rfl (pc0 := 14) (pc' := 38) rfl (hb hby d11_14) rfl ((if0 _ _).trans (flt (by decide +kernel : ¬ ((0 : Int32) < (-1 : Int32)))).2.2.2) (by decide) (by decide) ?_
    show Steps p.tables e below (T9.setTop (mkF m 38 #[.val (.ref a1), .val (.int (19 : Int32)), .val (.int (20 : Int32))] [])) _
    exact X9.returnOut hx Bd.returns (hb hby d11_38) hr
  · show Q11_37 Z _ _ _ h0 n0 _ T9.heap _
    rw [e9]
    exact ⟨rfl, N0, rfl⟩
theorem ef_rm14_39 (m : MethodId) (x0 : Addr) (x1 : Addr) : entryFrame m #[(.ref x0), (.ref x1), (.int (13 : Int32)), (.int (0 : Int32))] 4 = mkF m 0 #[.val (.ref x0), .val (.ref x1), .val (.int (13 : Int32)), .val (.int (0 : Int32))] [] := by first | (simp [entryFrame, mkF, argsToLocals, Value.category]; done) | rfl
def Q14_39 (Z : State) (a1 : Addr) (a2 : Addr) (p4 : Int32) (a12 : Addr) (k16 : ClassId) (k19 : ClassId) (h0 : Heap) (n0 : Nat) (v : Option Value) (h : Heap) (L : List Loc) : Prop := (v = none ∧ Fr n0 L ∧ Keep h0 h [a2] ∧ Exa Z h a2 "[B" ∧ Arv Z h a2 k19 .byte (20 : Int32) [(.int (82 : Int32)), (.int (101 : Int32)), (.int (97 : Int32)), (.int (100 : Int32)), (.int (44 : Int32)), (.int (32 : Int32)), (.int (87 : Int32)), (.int (114 : Int32)), (.int (105 : Int32)), (.int (116 : Int32)), (.int (101 : Int32)), (.int (44 : Int32)), (.int (32 : Int32)), (.int (65 : Int32)), (.int (112 : Int32)), (.int (112 : Int32)), (.int (101 : Int32)), (.int (110 : Int32)), (.int (100 : Int32))] (.int (0 : Int32)))
set_option maxRecDepth 65536 in
set_option maxHeartbeats 40000000 in
theorem rm14_39 (l : Launch) (Z : State) (a0 : Array Value) (hw : ∀ d ∈ own_ws, d.before a0 Z = true) (ws : List Jvm.Cond) (a1 : Addr) (a2 : Addr) (p4 : Int32) (a12 : Addr) (k16 : ClassId) (k19 : ClassId) (h0 : Heap) (n0 : Nat) (O0 : Old Z n0 h0) (E_3 : Exa Z Z.heap a1 C_4) (S_5 : Sta Z Z.heap C_4 "COMPACT_STRINGS" "Z" (.int p4)) (hk6 : ¬ (p4 = (0 : Int32))) (F7 : Fld Z Z.heap a1 C_4 "coder" "B" (.int (0 : Int32))) (F13 : Fld Z Z.heap a1 C_4 "value" "[B" (.ref a12)) (V17 : Arv Z Z.heap a12 k16 .byte (6 : Int32) [(.int (65 : Int32)), (.int (112 : Int32)), (.int (112 : Int32)), (.int (101 : Int32)), (.int (110 : Int32)), (.int (100 : Int32))] (.int (0 : Int32))) (V20 : Arv Z h0 a2 k19 .byte (20 : Int32) [(.int (82 : Int32)), (.int (101 : Int32)), (.int (97 : Int32)), (.int (100 : Int32)), (.int (44 : Int32)), (.int (32 : Int32)), (.int (87 : Int32)), (.int (114 : Int32)), (.int (105 : Int32)), (.int (116 : Int32)), (.int (101 : Int32)), (.int (44 : Int32)), (.int (32 : Int32))] (.int (0 : Int32))) (E_21 : Exa Z h0 a2 "[B") (g_a2 : n0 ≤ a2) :
    MetFree l M_5 (head1 (Jvm.Cond.code M_5 jdk_42_method_147_code 4 none :: ws) ({ frames := 1, cells := 0, slots := 0, locals := 18 } : Room)) (fun a U => a = #[(.ref a1), (.ref a2), (.int (13 : Int32)), (.int (0 : Int32))] ∧ Z.Warmed39 U.vm ∧ U.heap = h0) (fun _ _ _ _ _ => True) (fun _ U o U' => ∃ v L, o = .returned v ∧ Q14_39 Z a1 a2 p4 a12 k16 k19 h0 n0 v U'.heap L ∧ FrameEnd U o U' L ({ frames := 1, cells := 0, slots := 0, locals := 18 } : Room).cells ({ frames := 1, cells := 0, slots := 0, locals := 18 } : Room).slots) := by
  refine MetFree.of_bodySF (plainFor_of_name pn_1) hisR ?_
  intro p e s m args below meth c s₁ Bd hml0 hP hK
  obtain ⟨rfl, hZ, hh⟩ := hP
  have hx := Bd.exec
  have hby := Bd.bytes
  have hml : c.maxLocals = 4 := hml0
  have hown : s.vm.findClass "java/lang/String" = some m.cls := findClass_of_methodNamed Bd.named
  have hnm := (name_of_methodNamed Bd.named Bd.method).1
  have X0 : Stand p l e ({ frames := 1, cells := 0, slots := 0, locals := 18 } : Room) s m #[(.ref a1), (.ref a2), (.int (13 : Int32)), (.int (0 : Int32))] below meth c s₁ [] 0 0 := Stand.of_body Bd
  have e0 : s₁.heap = h0 := by rw [← hh, Bd.state]; rfl
  have N0 := Fr.nil n0
  have pre0 : ∀ t, Steps p.tables e below (s₁.setTop (mkF m 0 #[.val (.ref a1), .val (.ref a2), .val (.int (13 : Int32)), .val (.int (0 : Int32))] [])) t → Steps p.tables e below (s₁.setTop (entryFrame m #[(.ref a1), (.ref a2), (.int (13 : Int32)), (.int (0 : Int32))] 4)) t := fun t k => castTop (ef_rm14_39 m a1 a2) k
  obtain ⟨cq8, kq8, q8a, q8b, q8c⟩ := isOf hZ e0 (Exa.ext O0.2 E_3)
  obtain ⟨_, _, ⟨T8, L8, k8, n8⟩, -, X8, ⟨Lc8, hQ8, l8, y8, z8⟩, st8⟩ := X0.virtualBack hx (y := M_1) (z := M_1) hown (mvT hZ (hw _ (gw 48 rfl))) (mvT hZ (hw _ (gw 49 rfl))) (notFace_of_selects (args := #[]) (mvT hZ (hw _ (gw 51 rfl)))) (mvT hZ (hw _ (gw 51 rfl))) (mvT hZ (hw _ (gw 50 rfl))) (by decide) (backOf (W := 0) (rm7_7 l Z a0 hw [] a1 p4 h0 n0  O0 S_5 hk6 F7) hZ (hw _ (gw 52 rfl)) (hw _ (gw 44 rfl)) (by decide) (by decide)) q8a q8c (g := (mkF m 1 #[.val (.ref a1), .val (.ref a2), .val (.int (13 : Int32)), .val (.int (0 : Int32))] [(.ref a1)])) rfl (by rw [hml]; rfl) (Steps.refl _) (argsL := []) (rest := []) (lenOf pd_1 rfl) rfl (by show 2 * 0 + _ ≤ _; exact Nat.le_of_eq rfl) (hb hby d14_1) (fun _ _ => ⟨rfl, e0, (by decide : 0 + 0 ≤ _), (by decide : 0 + 0 ≤ _)⟩)
  dsimp only [Pt.U, Pt.locs, Pt.cells, Pt.slots] at X8 l8 y8 z8 st8 hQ8
  subst l8 y8 z8
  obtain ⟨rfl, u10, u11⟩ := hQ8
  have N8 := Fr.app N0 u10
  obtain ⟨T14, X14, e14, st14⟩ := getF X8 hx hZ hown (host := "") (Or.inl (hw _ (gw 46 rfl))) Via.refl u11 (Fld.ext O0.2 F13) (g := (mkF m 9 #[.val (.ref a1), .val (.ref a2), .val (.int (13 : Int32)), .val (.int (0 : Int32))] [(.ref a1)])) rfl rfl (hb hby d14_9)
  obtain ⟨T15, X15, e15, st15⟩ := getF X14 hx hZ hown (host := "") (Or.inl (hw _ (gw 46 rfl))) Via.refl e14 (Fld.ext O0.2 F13) (g := (mkF m 18 #[.val (.ref a1), .val (.ref a2), .val (.int (13 : Int32)), .val (.int (0 : Int32))] [(.ref a1), (.int (13 : Int32)), (.ref a2), (.int (0 : Int32)), (.ref a12)])) rfl rfl (hb hby d14_18)
  obtain ⟨cl18, Ar18, -, Sz18, Nn18, -, -⟩ := id (V17.ext O0.2)
  have Vp22 : Arv Z h0 a2 k19 .byte (20 : Int32) [(.int (82 : Int32)), (.int (101 : Int32)), (.int (97 : Int32)), (.int (100 : Int32)), (.int (44 : Int32)), (.int (32 : Int32)), (.int (87 : Int32)), (.int (114 : Int32)), (.int (105 : Int32)), (.int (116 : Int32)), (.int (101 : Int32)), (.int (44 : Int32)), (.int (32 : Int32)), (.int (0 : Int32)), (.int (0 : Int32)), (.int (0 : Int32)), (.int (0 : Int32)), (.int (0 : Int32)), (.int (0 : Int32))] (.int (0 : Int32)) := V20.pad (pad_rep [(.int (82 : Int32)), (.int (101 : Int32)), (.int (97 : Int32)), (.int (100 : Int32)), (.int (44 : Int32)), (.int (32 : Int32)), (.int (87 : Int32)), (.int (114 : Int32)), (.int (105 : Int32)), (.int (116 : Int32)), (.int (101 : Int32)), (.int (44 : Int32)), (.int (32 : Int32))] (.int (0 : Int32)) 6)
  obtain ⟨T23, h23, L23, X23, e23, N23, Ku23, V23, st23⟩ := cpA X15 hx hZ hown (hw _ (gw 100 rfl)) (hw _ (gw 103 rfl)) (hw _ (gw 101 rfl)) (hw _ (gw 102 rfl)) e15 (sp := (0 : Int32)) (dp := (13 : Int32)) (nn := (6 : Int32)) (us := [(.int (65 : Int32)), (.int (112 : Int32)), (.int (112 : Int32)), (.int (101 : Int32)), (.int (110 : Int32)), (.int (100 : Int32))]) (V17.ext O0.2) Vp22 (Or.inl ⟨rfl, rfl⟩) (by decide +kernel) (by decide +kernel) (by decide +kernel) (by decide +kernel) (by decide +kernel) rfl (Nat.le_of_ble_eq_true rfl) N8 g_a2 (g := (mkF m 22 #[.val (.ref a1), .val (.ref a2), .val (.int (13 : Int32)), .val (.int (0 : Int32))] [(.int (6 : Int32)), (.int (13 : Int32)), (.ref a2), (.int (0 : Int32)), (.ref a12)])) rfl (by rw [hml]; rfl) rfl (hb hby d14_22) (by decide) (W := 0) (by show 2 * 0 + _ ≤ _; exact Nat.le_of_eq rfl) (by decide +kernel)
  have Ou23 : Old Z n0 h23 := O0.keep Ku23 (allS g_a2 all0)
  have Vc23 : Arv Z h23 a2 k19 .byte (20 : Int32) [(.int (82 : Int32)), (.int (101 : Int32)), (.int (97 : Int32)), (.int (100 : Int32)), (.int (44 : Int32)), (.int (32 : Int32)), (.int (87 : Int32)), (.int (114 : Int32)), (.int (105 : Int32)), (.int (116 : Int32)), (.int (101 : Int32)), (.int (44 : Int32)), (.int (32 : Int32)), (.int (65 : Int32)), (.int (112 : Int32)), (.int (112 : Int32)), (.int (101 : Int32)), (.int (110 : Int32)), (.int (100 : Int32))] (.int (0 : Int32)) := V23
  obtain ⟨fs, hr, hrun, hended, hW, hsame⟩ := X23.leave (v := none) (fun _ => rfl)
  have f24 : Exa Z h23 a2 "[B" := (E_21.keep Ku23)
  refine ⟨_, _, pre0 _ ?_, hrun, hended, _, _, rfl, ?_, ⟨_, rfl⟩, hW, hsame.mono (by decide) (by decide)⟩
  · show Steps p.tables e below (s₁.setTop (mkF m 0 #[.val (.ref a1), .val (.ref a2), .val (.int (13 : Int32)), .val (.int (0 : Int32))] [])) _
    refine XS.aloadN X0.here hx rfl (hb hby d14_0) rfl rfl ?_
    refine st8.trans ?_
    refine XS.iloadN X8.here hx rfl (hb hby d14_4) rfl ?_
    refine XS.icmpNo X8.here hx rfl (hb hby d14_5) rfl (teq (by decide +kernel : (0 : Int32) = (0 : Int32))).2 ?_
    refine XS.aloadN X8.here hx rfl (hb hby d14_8) rfl rfl ?_
    refine st14 _ ?_
    refine XS.iconst X14.here hx rfl (hb hby d14_12) ?_
    refine XS.aloadN X14.here hx rfl (hb hby d14_13) rfl rfl ?_
    refine XS.iloadN X14.here hx rfl (hb hby d14_14) rfl ?_
    show Steps p.tables e below (T14.setTop (mkF m 15 #[.val (.ref a1), .val (.ref a2), .val (.int (13 : Int32)), .val (.int (0 : Int32))] [(.int (13 : Int32)), (.ref a2), (.int (0 : Int32)), (.ref a12)])) _
    refine XS.iloadN X14.here hx rfl (hb hby d14_15) rfl ?_
    refine XS.ishl X14.here hx rfl (hb hby d14_16) rfl ?_
    show Steps p.tables e below (T14.setTop (mkF m 17 #[.val (.ref a1), .val (.ref a2), .val (.int (13 : Int32)), .val (.int (0 : Int32))] [(.int ((13 : Int32) <<< ((0 : Int32) &&& 31))), (.ref a2), (.int (0 : Int32)), (.ref a12)])) _
    rw [(by decide +kernel : ((13 : Int32) <<< ((0 : Int32) &&& 31)) = (13 : Int32))]
    refine XS.aloadN X14.here hx rfl (hb hby d14_17) rfl rfl ?_
    refine st15 _ ?_
    refine X15.arraylength hx (by rw [e15]; exact Ar18.1) (State.isArrayOf_alike hZ.alike Ar18.2.1) (g := (mkF m 21 #[.val (.ref a1), .val (.ref a2), .val (.int (13 : Int32)), .val (.int (0 : Int32))] [(.ref a12), (.int (13 : Int32)), (.ref a2), (.int (0 : Int32)), (.ref a12)])) rfl rfl (hb hby d14_21) _ ?_
    rw [len_of Sz18 Nn18]
    refine st23 _ ?_
    refine XS.goto X23.here hx rfl (pc0 := 25) (pc' := 43) rfl (hb hby d14_25) (by decide) (by decide) ?_
    show Steps p.tables e below (T23.setTop (mkF m 43 #[.val (.ref a1), .val (.ref a2), .val (.int (13 : Int32)), .val (.int (0 : Int32))] [])) _
    exact X23.returnOut hx Bd.returns (hb hby d14_43) hr
  · show Q14_39 Z _ _ _ _ _ _ h0 n0 _ T23.heap _
    rw [e23]
    exact ⟨rfl, N23, ((Keep.refl h0 [a2]).trans Ku23 (allS (Or.inl (List.mem_of_getElem? (i := 0) rfl)) all0)), f24, Vc23⟩
theorem ef_rm12_38 (m : MethodId) (x0 : Addr) (x2 : Addr) : entryFrame m #[(.ref x0), (.int (13 : Int32)), (.ref x2)] 3 = mkF m 0 #[.val (.ref x0), .val (.int (13 : Int32)), .val (.ref x2)] [] := by first | (simp [entryFrame, mkF, argsToLocals, Value.category]; done) | rfl
def Q12_38 (Z : State) (a1 : Addr) (a2 : Addr) (p4 : Int32) (a14 : Addr) (a18 : Addr) (k20 : ClassId) (k22 : ClassId) (h0 : Heap) (n0 : Nat) (v : Option Value) (h : Heap) (L : List Loc) : Prop := (v = none ∧ Fr n0 L ∧ Keep h0 h [a14] ∧ Exa Z h a14 "[B" ∧ Arv Z h a14 k22 .byte (20 : Int32) [(.int (82 : Int32)), (.int (101 : Int32)), (.int (97 : Int32)), (.int (100 : Int32)), (.int (44 : Int32)), (.int (32 : Int32)), (.int (87 : Int32)), (.int (114 : Int32)), (.int (105 : Int32)), (.int (116 : Int32)), (.int (101 : Int32)), (.int (44 : Int32)), (.int (32 : Int32)), (.int (65 : Int32)), (.int (112 : Int32)), (.int (112 : Int32)), (.int (101 : Int32)), (.int (110 : Int32)), (.int (100 : Int32))] (.int (0 : Int32)))
set_option maxRecDepth 65536 in
set_option maxHeartbeats 40000000 in
theorem rm12_38 (l : Launch) (Z : State) (a0 : Array Value) (hw : ∀ d ∈ own_ws, d.before a0 Z = true) (ws : List Jvm.Cond) (a1 : Addr) (a2 : Addr) (p4 : Int32) (a14 : Addr) (a18 : Addr) (k20 : ClassId) (k22 : ClassId) (h0 : Heap) (n0 : Nat) (O0 : Old Z n0 h0) (E_3 : Exa Z h0 a1 C_5) (S_5 : Sta Z Z.heap C_4 "COMPACT_STRINGS" "Z" (.int p4)) (hk6 : ¬ (p4 = (0 : Int32))) (F7 : Fld Z h0 a1 C_2 "coder" "B" (.int (0 : Int32))) (E_8 : Exa Z Z.heap a2 C_4) (F9 : Fld Z Z.heap a2 C_4 "coder" "B" (.int (0 : Int32))) (F15 : Fld Z h0 a1 C_2 "value" "[B" (.ref a14)) (F19 : Fld Z Z.heap a2 C_4 "value" "[B" (.ref a18)) (V21 : Arv Z Z.heap a18 k20 .byte (6 : Int32) [(.int (65 : Int32)), (.int (112 : Int32)), (.int (112 : Int32)), (.int (101 : Int32)), (.int (110 : Int32)), (.int (100 : Int32))] (.int (0 : Int32))) (V23 : Arv Z h0 a14 k22 .byte (20 : Int32) [(.int (82 : Int32)), (.int (101 : Int32)), (.int (97 : Int32)), (.int (100 : Int32)), (.int (44 : Int32)), (.int (32 : Int32)), (.int (87 : Int32)), (.int (114 : Int32)), (.int (105 : Int32)), (.int (116 : Int32)), (.int (101 : Int32)), (.int (44 : Int32)), (.int (32 : Int32))] (.int (0 : Int32))) (E_24 : Exa Z h0 a14 "[B") (g_a14 : n0 ≤ a14) :
    MetFree l M_6 (head1 (Jvm.Cond.code M_6 jdk_68_method_73_code 3 none :: ws) ({ frames := 2, cells := 0, slots := 0, locals := 33 } : Room)) (fun a U => a = #[(.ref a1), (.int (13 : Int32)), (.ref a2)] ∧ Z.Warmed39 U.vm ∧ U.heap = h0) (fun _ _ _ _ _ => True) (fun _ U o U' => ∃ v L, o = .returned v ∧ Q12_38 Z a1 a2 p4 a14 a18 k20 k22 h0 n0 v U'.heap L ∧ FrameEnd U o U' L ({ frames := 2, cells := 0, slots := 0, locals := 33 } : Room).cells ({ frames := 2, cells := 0, slots := 0, locals := 33 } : Room).slots) := by
  refine MetFree.of_bodySF (plainFor_of_name pn_2) hisR ?_
  intro p e s m args below meth c s₁ Bd hml0 hP hK
  obtain ⟨rfl, hZ, hh⟩ := hP
  have hx := Bd.exec
  have hby := Bd.bytes
  have hml : c.maxLocals = 3 := hml0
  have hown : s.vm.findClass "java/lang/AbstractStringBuilder" = some m.cls := findClass_of_methodNamed Bd.named
  have hnm := (name_of_methodNamed Bd.named Bd.method).1
  have X0 : Stand p l e ({ frames := 2, cells := 0, slots := 0, locals := 33 } : Room) s m #[(.ref a1), (.int (13 : Int32)), (.ref a2)] below meth c s₁ [] 0 0 := Stand.of_body Bd
  have e0 : s₁.heap = h0 := by rw [← hh, Bd.state]; rfl
  have N0 := Fr.nil n0
  have pre0 : ∀ t, Steps p.tables e below (s₁.setTop (mkF m 0 #[.val (.ref a1), .val (.int (13 : Int32)), .val (.ref a2)] [])) t → Steps p.tables e below (s₁.setTop (entryFrame m #[(.ref a1), (.int (13 : Int32)), (.ref a2)] 3)) t := fun t k => castTop (ef_rm12_38 m a1 a2) k
  obtain ⟨cq10, q10, q10'⟩ := E_3.cell
  obtain ⟨_, _, ⟨T10, L10, k10, n10⟩, -, X10, ⟨Lc10, hQ10, l10, y10, z10⟩, st10⟩ := X0.privateBack hx (y := M_4) hown (mvT hZ (hw _ (gw 89 rfl))) (mvT hZ (hw _ (gw 90 rfl))) (own_selSelf (args := #[]) (mvT hZ (hw _ (gw 92 rfl))) (Cond.privateMethod_at (mvP hZ (hw _ (gw 91 rfl)) (args := #[]))) (mvT hZ (hw _ (gw 90 rfl))) (by decide)) (Cond.privateMethod_at (mvP hZ (hw _ (gw 91 rfl)) (args := #[]))) (mvT hZ (hw _ (gw 93 rfl))) (by decide) (backOf (W := 0) (rm13_13 l Z a0 hw [] a1 a2 p4 h0 n0  O0 S_5 hk6 F7 E_8 F9) hZ (hw _ (gw 93 rfl)) (hw _ (gw 35 rfl)) (by decide) (by decide)) (g := (mkF m 2 #[.val (.ref a1), .val (.int (13 : Int32)), .val (.ref a2)] [(.ref a2), (.ref a1)])) rfl (by rw [hml]; rfl) (Steps.refl _) (a := a1) (by rw [e0]; exact q10) q10' (argsL := [(.ref a2)]) (rest := []) (lenOf pd_4 rfl) rfl (by show 2 * 0 + _ ≤ _; exact Nat.le_of_eq rfl) (hb hby d12_2) (fun _ _ => ⟨rfl, e0, (by decide : 0 + 0 ≤ _), (by decide : 0 + 0 ≤ _)⟩)
  dsimp only [Pt.U, Pt.locs, Pt.cells, Pt.slots] at X10 l10 y10 z10 st10 hQ10
  subst l10 y10 z10
  obtain ⟨rfl, u12, u13⟩ := hQ10
  have N10 := Fr.app N0 u12
  obtain ⟨T16, X16, e16, st16⟩ := getF X10 hx hZ hown (host := "") (Or.inl (hw _ (gw 61 rfl))) Via.refl u13 F15 (g := (mkF m 7 #[.val (.ref a1), .val (.int (13 : Int32)), .val (.ref a2)] [(.ref a1), (.ref a2)])) rfl rfl (hb hby d12_7)
  obtain ⟨T17, X17, e17, st17⟩ := getF X16 hx hZ hown (host := "") (Or.inl (hw _ (gw 58 rfl))) Via.refl e16 F7 (g := (mkF m 12 #[.val (.ref a1), .val (.int (13 : Int32)), .val (.ref a2)] [(.ref a1), (.int (13 : Int32)), (.ref a14), (.ref a2)])) rfl rfl (hb hby d12_12)
  obtain ⟨cq25, kq25, q25a, q25b, q25c⟩ := isOf hZ e17 (Exa.ext O0.2 E_8)
  obtain ⟨_, _, ⟨T25, L25, k25, n25⟩, -, X25, ⟨Lc25, hQ25, l25, y25, z25⟩, st25⟩ := X17.virtualBack hx (y := M_5) (z := M_5) hown (mvT hZ (hw _ (gw 95 rfl))) (mvT hZ (hw _ (gw 96 rfl))) (notFace_of_selects (args := #[]) (mvT hZ (hw _ (gw 98 rfl)))) (mvT hZ (hw _ (gw 98 rfl))) (mvT hZ (hw _ (gw 97 rfl))) (by decide) (backOf (W := 0) (rm14_39 l Z a0 hw [] a2 a14 p4 a18 k20 k22 h0 n0  O0 E_8 S_5 hk6 F9 F19 V21 V23 E_24 g_a14) hZ (hw _ (gw 99 rfl)) (hw _ (gw 44 rfl)) (by decide) (by decide)) q25a q25c (g := (mkF m 15 #[.val (.ref a1), .val (.int (13 : Int32)), .val (.ref a2)] [(.int (0 : Int32)), (.int (13 : Int32)), (.ref a14), (.ref a2)])) rfl (by rw [hml]; rfl) (Steps.refl _) (argsL := [(.ref a14), (.int (13 : Int32)), (.int (0 : Int32))]) (rest := []) (lenOf pd_5 rfl) rfl (by show 2 * 0 + _ ≤ _; exact Nat.le_of_eq rfl) (hb hby d12_15) (fun _ _ => ⟨rfl, e17, (by decide : 0 + 0 ≤ _), (by decide : 0 + 0 ≤ _)⟩)
  dsimp only [Pt.U, Pt.locs, Pt.cells, Pt.slots] at X25 l25 y25 z25 st25 hQ25
  subst l25 y25 z25
  obtain ⟨rfl, u27, Ku28, u29, u30⟩ := hQ25
  have Ou28 : Old Z n0 T25.heap := O0.keep Ku28 (allS g_a14 all0)
  have N25 := Fr.app N10 u27
  obtain ⟨fs, hr, hrun, hended, hW, hsame⟩ := X25.leave (v := none) (fun _ => rfl)
  refine ⟨_, _, pre0 _ ?_, hrun, hended, _, _, rfl, ?_, ⟨_, rfl⟩, hW, hsame.mono (by decide) (by decide)⟩
  · show Steps p.tables e below (s₁.setTop (mkF m 0 #[.val (.ref a1), .val (.int (13 : Int32)), .val (.ref a2)] [])) _
    refine XS.aloadN X0.here hx rfl (hb hby d12_0) rfl rfl ?_
    refine XS.aloadN X0.here hx rfl (hb hby d12_1) rfl rfl ?_
    refine st10.trans ?_
    refine XS.aloadN X10.here hx rfl (hb hby d12_5) rfl rfl ?_
    refine XS.aloadN X10.here hx rfl (hb hby d12_6) rfl rfl ?_
    refine st16 _ ?_
    refine XS.iloadN X16.here hx rfl (hb hby d12_10) rfl ?_
    refine XS.aloadN X16.here hx rfl (hb hby d12_11) rfl rfl ?_
    refine st17 _ ?_
    show Steps p.tables e below (T17.setTop (mkF m 15 #[.val (.ref a1), .val (.int (13 : Int32)), .val (.ref a2)] [(.int (0 : Int32)), (.int (13 : Int32)), (.ref a14), (.ref a2)])) _
    refine st25.trans ?_
    show Steps p.tables e below (T25.setTop (mkF m 18 #[.val (.ref a1), .val (.int (13 : Int32)), .val (.ref a2)] [])) _
    exact X25.returnOut hx Bd.returns (hb hby d12_18) hr
  · show Q12_38 Z _ _ _ _ _ _ _ h0 n0 _ T25.heap _
    exact ⟨rfl, N25, ((Keep.refl h0 [a14]).trans Ku28 (allS (Or.inl (List.mem_of_getElem? (i := 0) rfl)) all0)), u29, u30⟩
theorem ef_rm10_35 (m : MethodId) (x0 : Addr) (x1 : Addr) : entryFrame m #[(.ref x0), (.ref x1)] 3 = mkF m 0 #[.val (.ref x0), .val (.ref x1), .unset] [] := by first | (simp [entryFrame, mkF, argsToLocals, Value.category]; done) | rfl
def Q10_35 (Z : State) (a1 : Addr) (a2 : Addr) (a4 : Addr) (k6 : ClassId) (p8 : Int32) (a19 : Addr) (k21 : ClassId) (h0 : Heap) (n0 : Nat) (v : Option Value) (h : Heap) (L : List Loc) : Prop := (v = some (.ref a1) ∧ Fr n0 L ∧ Keep h0 h [a19, a1] ∧ Exa Z h a1 C_5 ∧ Fld Z h a1 C_2 "coder" "B" (.int (0 : Int32)) ∧ Fld Z h a1 C_2 "count" "I" (.int (19 : Int32)) ∧ Fld Z h a1 C_2 "value" "[B" (.ref a19) ∧ Exa Z h a19 "[B" ∧ Arv Z h a19 k21 .byte (20 : Int32) [(.int (82 : Int32)), (.int (101 : Int32)), (.int (97 : Int32)), (.int (100 : Int32)), (.int (44 : Int32)), (.int (32 : Int32)), (.int (87 : Int32)), (.int (114 : Int32)), (.int (105 : Int32)), (.int (116 : Int32)), (.int (101 : Int32)), (.int (44 : Int32)), (.int (32 : Int32)), (.int (65 : Int32)), (.int (112 : Int32)), (.int (112 : Int32)), (.int (101 : Int32)), (.int (110 : Int32)), (.int (100 : Int32))] (.int (0 : Int32)))
set_option maxRecDepth 65536 in
set_option maxHeartbeats 40000000 in
theorem rm10_35 (l : Launch) (Z : State) (a0 : Array Value) (hw : ∀ d ∈ own_ws, d.before a0 Z = true) (ws : List Jvm.Cond) (a1 : Addr) (a2 : Addr) (a4 : Addr) (k6 : ClassId) (p8 : Int32) (a19 : Addr) (k21 : ClassId) (h0 : Heap) (n0 : Nat) (O0 : Old Z n0 h0) (E_3 : Exa Z Z.heap a2 C_4) (F5 : Fld Z Z.heap a2 C_4 "value" "[B" (.ref a4)) (V7 : Arv Z Z.heap a4 k6 .byte (6 : Int32) [(.int (65 : Int32)), (.int (112 : Int32)), (.int (112 : Int32)), (.int (101 : Int32)), (.int (110 : Int32)), (.int (100 : Int32))] (.int (0 : Int32))) (S_9 : Sta Z Z.heap C_4 "COMPACT_STRINGS" "Z" (.int p8)) (hk10 : ¬ (p8 = (0 : Int32))) (F11 : Fld Z Z.heap a2 C_4 "coder" "B" (.int (0 : Int32))) (F16 : Fld Z h0 a1 C_2 "count" "I" (.int (13 : Int32))) (E_18 : Exa Z h0 a1 C_5) (F20 : Fld Z h0 a1 C_2 "value" "[B" (.ref a19)) (V22 : Arv Z h0 a19 k21 .byte (20 : Int32) [(.int (82 : Int32)), (.int (101 : Int32)), (.int (97 : Int32)), (.int (100 : Int32)), (.int (44 : Int32)), (.int (32 : Int32)), (.int (87 : Int32)), (.int (114 : Int32)), (.int (105 : Int32)), (.int (116 : Int32)), (.int (101 : Int32)), (.int (44 : Int32)), (.int (32 : Int32))] (.int (0 : Int32))) (F23 : Fld Z h0 a1 C_2 "coder" "B" (.int (0 : Int32))) (E_29 : Exa Z h0 a19 "[B") (g_a19 : n0 ≤ a19) (hne36 : a1 ≠ a19) (g_a1 : n0 ≤ a1) :
    MetFree l M_7 (head1 (Jvm.Cond.code M_7 jdk_68_method_22_code 3 (some (.object "java/lang/AbstractStringBuilder")) :: ws) ({ frames := 3, cells := 0, slots := 0, locals := 47 } : Room)) (fun a U => a = #[(.ref a1), (.ref a2)] ∧ Z.Warmed39 U.vm ∧ U.heap = h0) (fun _ _ _ _ _ => True) (fun _ U o U' => ∃ v L, o = .returned v ∧ Q10_35 Z a1 a2 a4 k6 p8 a19 k21 h0 n0 v U'.heap L ∧ FrameEnd U o U' L ({ frames := 3, cells := 0, slots := 0, locals := 47 } : Room).cells ({ frames := 3, cells := 0, slots := 0, locals := 47 } : Room).slots) := by
  refine MetFree.of_bodySF (plainFor_of_name pn_2) hisR ?_
  intro p e s m args below meth c s₁ Bd hml0 hP hK
  obtain ⟨rfl, hZ, hh⟩ := hP
  have hx := Bd.exec
  have hby := Bd.bytes
  have hml : c.maxLocals = 3 := hml0
  have hown : s.vm.findClass "java/lang/AbstractStringBuilder" = some m.cls := findClass_of_methodNamed Bd.named
  have hnm := (name_of_methodNamed Bd.named Bd.method).1
  have X0 : Stand p l e ({ frames := 3, cells := 0, slots := 0, locals := 47 } : Room) s m #[(.ref a1), (.ref a2)] below meth c s₁ [] 0 0 := Stand.of_body Bd
  have e0 : s₁.heap = h0 := by rw [← hh, Bd.state]; rfl
  have N0 := Fr.nil n0
  have pre0 : ∀ t, Steps p.tables e below (s₁.setTop (mkF m 0 #[.val (.ref a1), .val (.ref a2), .unset] [])) t → Steps p.tables e below (s₁.setTop (entryFrame m #[(.ref a1), (.ref a2)] 3)) t := fun t k => castTop (ef_rm10_35 m a1 a2) k
  obtain ⟨cq12, kq12, q12a, q12b, q12c⟩ := isOf hZ e0 (Exa.ext O0.2 E_3)
  obtain ⟨_, _, ⟨T12, L12, k12, n12⟩, -, X12, ⟨Lc12, hQ12, l12, y12, z12⟩, st12⟩ := X0.virtualBack hx (y := M_2) (z := M_2) hown (mvT hZ (hw _ (gw 40 rfl))) (mvT hZ (hw _ (gw 41 rfl))) (notFace_of_selects (args := #[]) (mvT hZ (hw _ (gw 43 rfl)))) (mvT hZ (hw _ (gw 43 rfl))) (mvT hZ (hw _ (gw 42 rfl))) (by decide) (backOf (W := 0) (rm6_36 l Z a0 hw [] a2 a4 k6 p8 h0 n0  O0 F5 V7 E_3 S_9 hk10 F11) hZ (hw _ (gw 45 rfl)) (hw _ (gw 44 rfl)) (by decide) (by decide)) q12a q12c (g := (mkF m 10 #[.val (.ref a1), .val (.ref a2), .unset] [(.ref a2)])) rfl (by rw [hml]; rfl) (Steps.refl _) (argsL := []) (rest := []) (lenOf pd_2 rfl) rfl (by show 2 * 0 + _ ≤ _; exact Nat.le_of_eq rfl) (hb hby d10_10) (fun _ _ => ⟨rfl, e0, (by decide : 0 + 0 ≤ _), (by decide : 0 + 0 ≤ _)⟩)
  dsimp only [Pt.U, Pt.locs, Pt.cells, Pt.slots] at X12 l12 y12 z12 st12 hQ12
  subst l12 y12 z12
  obtain ⟨rfl, u14, u15⟩ := hQ12
  have N12 := Fr.app N0 u14
  obtain ⟨T17, X17, e17, st17⟩ := getF X12 hx hZ hown (host := "") (Or.inl (hw _ (gw 77 rfl))) Via.refl u15 F16 (g := (mkF m 16 #[.val (.ref a1), .val (.ref a2), .val (.int (6 : Int32))] [(.ref a1), (.ref a1)])) rfl rfl (hb hby d10_16)
  obtain ⟨cq24, q24, q24'⟩ := E_18.cell
  obtain ⟨_, _, ⟨T24, L24, k24, n24⟩, -, X24, ⟨Lc24, hQ24, l24, y24, z24⟩, st24⟩ := X17.privateBack hx (y := M_3) hown (mvT hZ (hw _ (gw 79 rfl))) (mvT hZ (hw _ (gw 80 rfl))) (own_selSelf (args := #[]) (mvT hZ (hw _ (gw 82 rfl))) (Cond.privateMethod_at (mvP hZ (hw _ (gw 81 rfl)) (args := #[]))) (mvT hZ (hw _ (gw 80 rfl))) (by decide)) (Cond.privateMethod_at (mvP hZ (hw _ (gw 81 rfl)) (args := #[]))) (mvT hZ (hw _ (gw 83 rfl))) (by decide) (backOf (W := 0) (rm11_37 l Z a0 hw [] a1 a19 k21 h0 n0  O0 F20 V22 F23) hZ (hw _ (gw 83 rfl)) (hw _ (gw 35 rfl)) (by decide) (by decide)) (g := (mkF m 21 #[.val (.ref a1), .val (.ref a2), .val (.int (6 : Int32))] [(.int (19 : Int32)), (.ref a1)])) rfl (by rw [hml]; rfl) (Steps.refl _) (a := a1) (by rw [e17]; exact q24) q24' (argsL := [(.int (19 : Int32))]) (rest := []) (lenOf pd_3 rfl) rfl (by show 2 * 0 + _ ≤ _; exact Nat.le_of_eq rfl) (hb hby d10_21) (fun _ _ => ⟨rfl, e17, (by decide : 0 + 0 ≤ _), (by decide : 0 + 0 ≤ _)⟩)
  dsimp only [Pt.U, Pt.locs, Pt.cells, Pt.slots] at X24 l24 y24 z24 st24 hQ24
  subst l24 y24 z24
  obtain ⟨rfl, u26, u27⟩ := hQ24
  have N24 := Fr.app N12 u26
  obtain ⟨T28, X28, e28, st28⟩ := getF X24 hx hZ hown (host := "") (Or.inl (hw _ (gw 77 rfl))) Via.refl u27 F16 (g := (mkF m 26 #[.val (.ref a1), .val (.ref a2), .val (.int (6 : Int32))] [(.ref a1), (.ref a1)])) rfl rfl (hb hby d10_26)
  obtain ⟨cq30, q30, q30'⟩ := E_18.cell
  obtain ⟨_, _, ⟨T30, L30, k30, n30⟩, -, X30, ⟨Lc30, hQ30, l30, y30, z30⟩, st30⟩ := X28.privateBack hx (y := M_6) hown (mvT hZ (hw _ (gw 84 rfl))) (mvT hZ (hw _ (gw 85 rfl))) (own_selSelf (args := #[]) (mvT hZ (hw _ (gw 87 rfl))) (Cond.privateMethod_at (mvP hZ (hw _ (gw 86 rfl)) (args := #[]))) (mvT hZ (hw _ (gw 85 rfl))) (by decide)) (Cond.privateMethod_at (mvP hZ (hw _ (gw 86 rfl)) (args := #[]))) (mvT hZ (hw _ (gw 88 rfl))) (by decide) (backOf (W := 0) (rm12_38 l Z a0 hw [] a1 a2 p8 a19 a4 k6 k21 h0 n0  O0 E_18 S_9 hk10 F23 E_3 F11 F20 F5 V7 V22 E_29 g_a19) hZ (hw _ (gw 88 rfl)) (hw _ (gw 35 rfl)) (by decide) (by decide)) (g := (mkF m 30 #[.val (.ref a1), .val (.ref a2), .val (.int (6 : Int32))] [(.ref a2), (.int (13 : Int32)), (.ref a1)])) rfl (by rw [hml]; rfl) (Steps.refl _) (a := a1) (by rw [e28]; exact q30) q30' (argsL := [(.int (13 : Int32)), (.ref a2)]) (rest := []) (lenOf pd_6 rfl) rfl (by show 2 * 0 + _ ≤ _; exact Nat.le_of_eq rfl) (hb hby d10_30) (fun _ _ => ⟨rfl, e28, (by decide : 0 + 0 ≤ _), (by decide : 0 + 0 ≤ _)⟩)
  dsimp only [Pt.U, Pt.locs, Pt.cells, Pt.slots] at X30 l30 y30 z30 st30 hQ30
  subst l30 y30 z30
  obtain ⟨rfl, u32, Ku33, u34, u35⟩ := hQ30
  have Ou33 : Old Z n0 T30.heap := O0.keep Ku33 (allS g_a19 all0)
  have N30 := Fr.app N24 u32
  have f37 : Fld Z T30.heap a1 C_2 "count" "I" (.int (13 : Int32)) := (F16.keep Ku33 (ninS hne36 nin0))
  obtain ⟨T38, X38, e38, st38⟩ := getF X30 hx hZ hown (host := "") (Or.inl (hw _ (gw 77 rfl))) Via.refl rfl f37 (g := (mkF m 35 #[.val (.ref a1), .val (.ref a2), .val (.int (6 : Int32))] [(.ref a1), (.ref a1)])) rfl rfl (hb hby d10_35)
  have f39 : Exa Z T30.heap a1 C_5 := (E_18.keep Ku33)
  obtain ⟨T40, h40, X40, e40, W40, st40⟩ := putF X38 hx hZ hown (host := "") (Or.inl (hw _ (gw 77 rfl))) Via.refl e38 f37 f39 (Or.inl (hw _ (gw 78 rfl))) (hw _ (gw 24 rfl)) (ty := .int) (by decide) rfl rfl (g := (mkF m 40 #[.val (.ref a1), .val (.ref a2), .val (.int (6 : Int32))] [(.int (19 : Int32)), (.ref a1)])) rfl rfl (hb hby d10_40)
  have O40 : Old Z n0 h40 := Ou33.wr W40 g_a1
  have Fw40 : Fld Z h40 a1 C_2 "count" "I" (.int (19 : Int32)) := Fld.same W40 f37
  have N40 := Fr.snoc X40 N30 g_a1
  obtain ⟨fs, hr, hrun, hended, hW, hsame⟩ := X40.leave (v := some (.ref a1)) (fun h => by rw [Bd.returns] at h; cases h)
  have f41 : Exa Z h40 a1 C_5 := (Exa.wr W40 f39)
  have f42 : Fld Z h40 a1 C_2 "coder" "B" (.int (0 : Int32)) := (Fld.other W40 (F23.keep Ku33 (ninS hne36 nin0)) (Or.inr (slot_ne (Or.inl (hw _ (gw 59 rfl))) (Or.inl (hw _ (gw 78 rfl))) (by decide) (t := .byte) (t' := .int) (by decide) (by decide))))
  have f43 : Fld Z h40 a1 C_2 "value" "[B" (.ref a19) := (Fld.other W40 (F20.keep Ku33 (ninS hne36 nin0)) (Or.inr (slot_ne (Or.inl (hw _ (gw 62 rfl))) (Or.inl (hw _ (gw 78 rfl))) (by decide) (t := (.array .byte)) (t' := .int) (by decide) (by decide))))
  have f44 : Exa Z h40 a19 "[B" := (Exa.wr W40 u34)
  have f45 : Arv Z h40 a19 k21 .byte (20 : Int32) [(.int (82 : Int32)), (.int (101 : Int32)), (.int (97 : Int32)), (.int (100 : Int32)), (.int (44 : Int32)), (.int (32 : Int32)), (.int (87 : Int32)), (.int (114 : Int32)), (.int (105 : Int32)), (.int (116 : Int32)), (.int (101 : Int32)), (.int (44 : Int32)), (.int (32 : Int32)), (.int (65 : Int32)), (.int (112 : Int32)), (.int (112 : Int32)), (.int (101 : Int32)), (.int (110 : Int32)), (.int (100 : Int32))] (.int (0 : Int32)) := (u35.other W40 (Ne.symm hne36))
  refine ⟨_, _, pre0 _ ?_, hrun, hended, _, _, rfl, ?_, ⟨_, rfl⟩, hW, hsame.mono (by decide) (by decide)⟩
  · show Steps p.tables e below (s₁.setTop (mkF m 0 #[.val (.ref a1), .val (.ref a2), .unset] [])) _
    refine XS.aloadN X0.here hx rfl (hb hby d10_0) rfl rfl ?_
    refine XS.ifnonnullYes X0.here hx rfl (pc0 := 1) (pc' := 9) rfl (hb hby d10_1) rfl (by decide) (by decide) ?_
    refine XS.aloadN X0.here hx rfl (hb hby d10_9) rfl rfl ?_
    refine st12.trans ?_
    refine XS.istoreN X12.here hx rfl (hb hby d10_13) rfl (l' := #[.val (.ref a1), .val (.ref a2), .val (.int (6 : Int32))]) rfl ?_
    refine XS.aloadN X12.here hx rfl (hb hby d10_14) rfl rfl ?_
    refine XS.aloadN X12.here hx rfl (hb hby d10_15) rfl rfl ?_
    refine st17 _ ?_
    refine XS.iloadN X17.here hx rfl (hb hby d10_19) rfl ?_
    show Steps p.tables e below (T17.setTop (mkF m 20 #[.val (.ref a1), .val (.ref a2), .val (.int (6 : Int32))] [(.int (6 : Int32)), (.int (13 : Int32)), (.ref a1)])) _
    refine XS.iadd X17.here hx rfl (hb hby d10_20) rfl ?_
    show Steps p.tables e below (T17.setTop (mkF m 21 #[.val (.ref a1), .val (.ref a2), .val (.int (6 : Int32))] [(.int ((13 : Int32) + (6 : Int32))), (.ref a1)])) _
    rw [(by decide +kernel : ((13 : Int32) + (6 : Int32)) = (19 : Int32))]
    refine st24.trans ?_
    refine XS.aloadN X24.here hx rfl (hb hby d10_24) rfl rfl ?_
    refine XS.aloadN X24.here hx rfl (hb hby d10_25) rfl rfl ?_
    refine st28 _ ?_
    refine XS.aloadN X28.here hx rfl (hb hby d10_29) rfl rfl ?_
    refine st30.trans ?_
    refine XS.aloadN X30.here hx rfl (hb hby d10_33) rfl rfl ?_
    refine XS.dup X30.here hx rfl (hb hby d10_34) rfl rfl ?_
    show Steps p.tables e below (T30.setTop (mkF m 35 #[.val (.ref a1), .val (.ref a2), .val (.int (6 : Int32))] [(.ref a1), (.ref a1)])) _
    refine st38 _ ?_
    refine XS.iloadN X38.here hx rfl (hb hby d10_38) rfl ?_
    refine XS.iadd X38.here hx rfl (hb hby d10_39) rfl ?_
    show Steps p.tables e below (T38.setTop (mkF m 40 #[.val (.ref a1), .val (.ref a2), .val (.int (6 : Int32))] [(.int ((13 : Int32) + (6 : Int32))), (.ref a1)])) _
    rw [(by decide +kernel : ((13 : Int32) + (6 : Int32)) = (19 : Int32))]
    refine st40 _ ?_
    refine XS.aloadN X40.here hx rfl (hb hby d10_43) rfl rfl ?_
    show Steps p.tables e below (T40.setTop (mkF m 44 #[.val (.ref a1), .val (.ref a2), .val (.int (6 : Int32))] [(.ref a1)])) _
    jvm_step X40.here [X40.here.top, hx, (hb hby d10_44), X40.method', Bd.returns, Value.isRef, FieldType.isReference]
    first | (intro acts; rw [hr _ acts rfl rfl rfl]) | rw [hr _ _ rfl rfl rfl]
    exact Steps.refl _
  · show Q10_35 Z _ _ _ _ _ _ _ h0 n0 _ T40.heap _
    rw [e40]
    exact ⟨rfl, N40, (((Keep.refl h0 [a19, a1]).trans Ku33 (allS (Or.inl (List.mem_of_getElem? (i := 0) rfl)) all0)).wr W40 (Or.inl (List.mem_of_getElem? (i := 1) rfl))), f41, f42, Fw40, f43, f44, f45⟩
theorem ef_rm9_34 (m : MethodId) (x0 : Addr) (x1 : Addr) : entryFrame m #[(.ref x0), (.ref x1)] 2 = mkF m 0 #[.val (.ref x0), .val (.ref x1)] [] := by first | (simp [entryFrame, mkF, argsToLocals, Value.category]; done) | rfl
def Q9_34 (Z : State) (a1 : Addr) (a2 : Addr) (a5 : Addr) (k7 : ClassId) (p9 : Int32) (a14 : Addr) (k16 : ClassId) (h0 : Heap) (n0 : Nat) (v : Option Value) (h : Heap) (L : List Loc) : Prop := (v = some (.ref a1) ∧ Fr n0 L ∧ Keep h0 h [a14, a1] ∧ Exa Z h a1 C_5 ∧ Fld Z h a1 C_2 "coder" "B" (.int (0 : Int32)) ∧ Fld Z h a1 C_2 "count" "I" (.int (19 : Int32)) ∧ Fld Z h a1 C_2 "value" "[B" (.ref a14) ∧ Exa Z h a14 "[B" ∧ Arv Z h a14 k16 .byte (20 : Int32) [(.int (82 : Int32)), (.int (101 : Int32)), (.int (97 : Int32)), (.int (100 : Int32)), (.int (44 : Int32)), (.int (32 : Int32)), (.int (87 : Int32)), (.int (114 : Int32)), (.int (105 : Int32)), (.int (116 : Int32)), (.int (101 : Int32)), (.int (44 : Int32)), (.int (32 : Int32)), (.int (65 : Int32)), (.int (112 : Int32)), (.int (112 : Int32)), (.int (101 : Int32)), (.int (110 : Int32)), (.int (100 : Int32))] (.int (0 : Int32)))
set_option maxRecDepth 65536 in
set_option maxHeartbeats 40000000 in
theorem rm9_34 (l : Launch) (Z : State) (a0 : Array Value) (hw : ∀ d ∈ own_ws, d.before a0 Z = true) (ws : List Jvm.Cond) (a1 : Addr) (a2 : Addr) (a5 : Addr) (k7 : ClassId) (p9 : Int32) (a14 : Addr) (k16 : ClassId) (h0 : Heap) (n0 : Nat) (O0 : Old Z n0 h0) (E_3 : Exa Z h0 a1 C_5) (E_4 : Exa Z Z.heap a2 C_4) (F6 : Fld Z Z.heap a2 C_4 "value" "[B" (.ref a5)) (V8 : Arv Z Z.heap a5 k7 .byte (6 : Int32) [(.int (65 : Int32)), (.int (112 : Int32)), (.int (112 : Int32)), (.int (101 : Int32)), (.int (110 : Int32)), (.int (100 : Int32))] (.int (0 : Int32))) (S_10 : Sta Z Z.heap C_4 "COMPACT_STRINGS" "Z" (.int p9)) (hk11 : ¬ (p9 = (0 : Int32))) (F12 : Fld Z Z.heap a2 C_4 "coder" "B" (.int (0 : Int32))) (F13 : Fld Z h0 a1 C_2 "count" "I" (.int (13 : Int32))) (F15 : Fld Z h0 a1 C_2 "value" "[B" (.ref a14)) (V17 : Arv Z h0 a14 k16 .byte (20 : Int32) [(.int (82 : Int32)), (.int (101 : Int32)), (.int (97 : Int32)), (.int (100 : Int32)), (.int (44 : Int32)), (.int (32 : Int32)), (.int (87 : Int32)), (.int (114 : Int32)), (.int (105 : Int32)), (.int (116 : Int32)), (.int (101 : Int32)), (.int (44 : Int32)), (.int (32 : Int32))] (.int (0 : Int32))) (F18 : Fld Z h0 a1 C_2 "coder" "B" (.int (0 : Int32))) (E_19 : Exa Z h0 a14 "[B") (hne20 : a1 ≠ a14) (g_a14 : n0 ≤ a14) (g_a1 : n0 ≤ a1) :
    MetFree l M_8 (head1 (Jvm.Cond.code M_8 jdk_67_method_7_code 2 (some (.object "java/lang/StringBuilder")) :: ws) ({ frames := 4, cells := 0, slots := 0, locals := 61 } : Room)) (fun a U => a = #[(.ref a1), (.ref a2)] ∧ Z.Warmed39 U.vm ∧ U.heap = h0) (fun _ _ _ _ _ => True) (fun _ U o U' => ∃ v L, o = .returned v ∧ Q9_34 Z a1 a2 a5 k7 p9 a14 k16 h0 n0 v U'.heap L ∧ FrameEnd U o U' L ({ frames := 4, cells := 0, slots := 0, locals := 61 } : Room).cells ({ frames := 4, cells := 0, slots := 0, locals := 61 } : Room).slots) := by
  refine MetFree.of_bodySF (plainFor_of_name pn_3) hisR ?_
  intro p e s m args below meth c s₁ Bd hml0 hP hK
  obtain ⟨rfl, hZ, hh⟩ := hP
  have hx := Bd.exec
  have hby := Bd.bytes
  have hml : c.maxLocals = 2 := hml0
  have hown : s.vm.findClass "java/lang/StringBuilder" = some m.cls := findClass_of_methodNamed Bd.named
  have hnm := (name_of_methodNamed Bd.named Bd.method).1
  have X0 : Stand p l e ({ frames := 4, cells := 0, slots := 0, locals := 61 } : Room) s m #[(.ref a1), (.ref a2)] below meth c s₁ [] 0 0 := Stand.of_body Bd
  have e0 : s₁.heap = h0 := by rw [← hh, Bd.state]; rfl
  have N0 := Fr.nil n0
  have pre0 : ∀ t, Steps p.tables e below (s₁.setTop (mkF m 0 #[.val (.ref a1), .val (.ref a2)] [])) t → Steps p.tables e below (s₁.setTop (entryFrame m #[(.ref a1), (.ref a2)] 2)) t := fun t k => castTop (ef_rm9_34 m a1 a2) k
  obtain ⟨_, _, ⟨T21, L21, k21, n21⟩, -, X21, ⟨Lc21, hQ21, l21, y21, z21⟩, st21⟩ := superBack X0 hx hZ (y := M_7) hown (hw _ (gw 74 rfl)) (own_sameSelf (y := M_7) (y' := M_3) rfl (hw _ (gw 82 rfl)) (hw _ (gw 65 rfl)) (by decide)) (hw _ (gw 65 rfl)) (hw _ (gw 75 rfl)) (by decide) (backOf (W := 0) (rm10_35 l Z a0 hw [] a1 a2 a5 k7 p9 a14 k16 h0 n0  O0 E_4 F6 V8 S_10 hk11 F12 F13 E_3 F15 V17 F18 E_19 g_a14 hne20 g_a1) hZ (hw _ (gw 76 rfl)) (hw _ (gw 35 rfl)) (by decide) (by decide)) e0 (Ins.self E_3) (g := (mkF m 2 #[.val (.ref a1), .val (.ref a2)] [(.ref a2), (.ref a1)])) rfl (by rw [hml]; rfl) (hw _ (gw 76 rfl)) (argsL := [(.ref a2)]) (rest := []) (lenOf pd_7 rfl) rfl (by show 2 * 0 + _ ≤ _; exact Nat.le_of_eq rfl) (hb hby d9_2) (fun _ _ => ⟨rfl, e0, (by decide : 0 + 0 ≤ _), (by decide : 0 + 0 ≤ _)⟩)
  dsimp only [Pt.U, Pt.locs, Pt.cells, Pt.slots] at X21 l21 y21 z21 st21 hQ21
  subst l21 y21 z21
  obtain ⟨rfl, u23, Ku24, u25, u26, u27, u28, u29, u30⟩ := hQ21
  have Ou24 : Old Z n0 T21.heap := O0.keep Ku24 (allS g_a14 (allS g_a1 all0))
  have N21 := Fr.app N0 u23
  obtain ⟨fs, hr, hrun, hended, hW, hsame⟩ := X21.leave (v := some (.ref a1)) (fun h => by rw [Bd.returns] at h; cases h)
  refine ⟨_, _, pre0 _ ?_, hrun, hended, _, _, rfl, ?_, ⟨_, rfl⟩, hW, hsame.mono (by decide) (by decide)⟩
  · show Steps p.tables e below (s₁.setTop (mkF m 0 #[.val (.ref a1), .val (.ref a2)] [])) _
    refine XS.aloadN X0.here hx rfl (hb hby d9_0) rfl rfl ?_
    refine XS.aloadN X0.here hx rfl (hb hby d9_1) rfl rfl ?_
    refine st21.trans ?_
    refine XS.pop X21.here hx rfl (hb hby d9_5) rfl rfl ?_
    refine XS.aloadN X21.here hx rfl (hb hby d9_6) rfl rfl ?_
    show Steps p.tables e below (T21.setTop (mkF m 7 #[.val (.ref a1), .val (.ref a2)] [(.ref a1)])) _
    jvm_step X21.here [X21.here.top, hx, (hb hby d9_7), X21.method', Bd.returns, Value.isRef, FieldType.isReference]
    first | (intro acts; rw [hr _ acts rfl rfl rfl]) | rw [hr _ _ rfl rfl rfl]
    exact Steps.refl _
  · show Q9_34 Z _ _ _ _ _ _ _ h0 n0 _ T21.heap _
    exact ⟨rfl, N21, ((Keep.refl h0 [a14, a1]).trans Ku24 (allS (Or.inl (List.mem_of_getElem? (i := 0) rfl)) (allS (Or.inl (List.mem_of_getElem? (i := 1) rfl)) all0))), u25, u26, u27, u28, u29, u30⟩
theorem ef_rm6_42 (m : MethodId) (x0 : Addr) : entryFrame m #[(.ref x0)] 1 = mkF m 0 #[.val (.ref x0)] [] := by first | (simp [entryFrame, mkF, argsToLocals, Value.category]; done) | rfl
def Q6_42 (Z : State) (a1 : Addr) (a2 : Addr) (k5 : ClassId) (p9 : Int32) (h0 : Heap) (n0 : Nat) (v : Option Value) (h : Heap) (L : List Loc) : Prop := (v = some (.int (5 : Int32)) ∧ Fr n0 L ∧ h = h0)
set_option maxRecDepth 65536 in
set_option maxHeartbeats 40000000 in
theorem rm6_42 (l : Launch) (Z : State) (a0 : Array Value) (hw : ∀ d ∈ own_ws, d.before a0 Z = true) (ws : List Jvm.Cond) (a1 : Addr) (a2 : Addr) (k5 : ClassId) (p9 : Int32) (h0 : Heap) (n0 : Nat) (O0 : Old Z n0 h0) (F3 : Fld Z h0 a1 C_4 "value" "[B" (.ref a2)) (V6 : Arv Z h0 a2 k5 .byte (5 : Int32) [(.int (32 : Int32)), (.int (97 : Int32)), (.int (110 : Int32)), (.int (100 : Int32)), (.int (32 : Int32))] (.int 0)) (E_8 : Exa Z h0 a1 C_4) (S_10 : Sta Z Z.heap C_4 "COMPACT_STRINGS" "Z" (.int p9)) (hk11 : ¬ (p9 = (0 : Int32))) (F12 : Fld Z h0 a1 C_4 "coder" "B" (.int (0 : Int32))) :
    MetFree l M_2 (head1 (Jvm.Cond.code M_2 jdk_42_method_54_code 1 (some .int) :: ws) ({ frames := 1, cells := 0, slots := 0, locals := 13 } : Room)) (fun a U => a = #[(.ref a1)] ∧ Z.Warmed39 U.vm ∧ U.heap = h0) (fun _ _ _ _ _ => True) (fun _ U o U' => ∃ v L, o = .returned v ∧ Q6_42 Z a1 a2 k5 p9 h0 n0 v U'.heap L ∧ FrameEnd U o U' L ({ frames := 1, cells := 0, slots := 0, locals := 13 } : Room).cells ({ frames := 1, cells := 0, slots := 0, locals := 13 } : Room).slots) := by
  refine MetFree.of_bodySF (plainFor_of_name pn_1) hisR ?_
  intro p e s m args below meth c s₁ Bd hml0 hP hK
  obtain ⟨rfl, hZ, hh⟩ := hP
  have hx := Bd.exec
  have hby := Bd.bytes
  have hml : c.maxLocals = 1 := hml0
  have hown : s.vm.findClass "java/lang/String" = some m.cls := findClass_of_methodNamed Bd.named
  have hnm := (name_of_methodNamed Bd.named Bd.method).1
  have X0 : Stand p l e ({ frames := 1, cells := 0, slots := 0, locals := 13 } : Room) s m #[(.ref a1)] below meth c s₁ [] 0 0 := Stand.of_body Bd
  have e0 : s₁.heap = h0 := by rw [← hh, Bd.state]; rfl
  have N0 := Fr.nil n0
  have pre0 : ∀ t, Steps p.tables e below (s₁.setTop (mkF m 0 #[.val (.ref a1)] [])) t → Steps p.tables e below (s₁.setTop (entryFrame m #[(.ref a1)] 1)) t := fun t k => castTop (ef_rm6_42 m a1) k
  obtain ⟨T4, X4, e4, st4⟩ := getF X0 hx hZ hown (host := "") (Or.inl (hw _ (gw 46 rfl))) Via.refl e0 F3 (g := (mkF m 1 #[.val (.ref a1)] [(.ref a1)])) rfl rfl (hb hby d6_1)
  obtain ⟨cl7, Ar7, -, Sz7, Nn7, -, -⟩ := id V6
  obtain ⟨cq13, kq13, q13a, q13b, q13c⟩ := isOf hZ e4 E_8
  obtain ⟨_, _, ⟨T13, L13, k13, n13⟩, -, X13, ⟨Lc13, hQ13, l13, y13, z13⟩, st13⟩ := X4.virtualBack hx (y := M_1) (z := M_1) hown (mvT hZ (hw _ (gw 48 rfl))) (mvT hZ (hw _ (gw 49 rfl))) (notFace_of_selects (args := #[]) (mvT hZ (hw _ (gw 51 rfl)))) (mvT hZ (hw _ (gw 51 rfl))) (mvT hZ (hw _ (gw 50 rfl))) (by decide) (backOf (W := 1) (rm7_18 l Z a0 hw [] a1 p9 h0 n0  O0 S_10 hk11 F12) hZ (hw _ (gw 52 rfl)) (hw _ (gw 44 rfl)) (by decide) (by decide)) q13a q13c (g := (mkF m 6 #[.val (.ref a1)] [(.ref a1), (.int (5 : Int32))])) rfl (by rw [hml]; rfl) (Steps.refl _) (argsL := []) (rest := [(.int (5 : Int32))]) (lenOf pd_1 rfl) rfl (by show 2 * 0 + _ ≤ _; exact Nat.le_of_eq rfl) (hb hby d6_6) (fun _ _ => ⟨rfl, e4, (by decide : 0 + 0 ≤ _), (by decide : 0 + 0 ≤ _)⟩)
  dsimp only [Pt.U, Pt.locs, Pt.cells, Pt.slots] at X13 l13 y13 z13 st13 hQ13
  subst l13 y13 z13
  obtain ⟨rfl, u15, u16⟩ := hQ13
  have N13 := Fr.app N0 u15
  obtain ⟨fs, hr, hrun, hended, hW, hsame⟩ := X13.leave (v := some (.int (5 : Int32))) (fun h => by rw [Bd.returns] at h; cases h)
  refine ⟨_, _, pre0 _ ?_, hrun, hended, _, _, rfl, ?_, ⟨_, rfl⟩, hW, hsame.mono (by decide) (by decide)⟩
  · show Steps p.tables e below (s₁.setTop (mkF m 0 #[.val (.ref a1)] [])) _
    refine XS.aloadN X0.here hx rfl (hb hby d6_0) rfl rfl ?_
    refine st4 _ ?_
    refine X4.arraylength hx (by rw [e4]; exact Ar7.1) (State.isArrayOf_alike hZ.alike Ar7.2.1) (g := (mkF m 4 #[.val (.ref a1)] [(.ref a2)])) rfl rfl (hb hby d6_4) _ ?_
    rw [len_of Sz7 Nn7]
    refine XS.aloadN X4.here hx rfl (hb hby d6_5) rfl rfl ?_
    refine st13.trans ?_
    refine XS.ishr X13.here hx rfl (hb hby d6_9) rfl ?_
    show Steps p.tables e below (T13.setTop (mkF m 10 #[.val (.ref a1)] [(.int ((5 : Int32) >>> ((0 : Int32) &&& 31)))])) _
    rw [(by decide +kernel : ((5 : Int32) >>> ((0 : Int32) &&& 31)) = (5 : Int32))]
    show Steps p.tables e below (T13.setTop (mkF m 10 #[.val (.ref a1)] [(.int (5 : Int32))])) _
    exact retI X13 hx Bd.returns (hb hby d6_10) hr
  · show Q6_42 Z _ _ _ _ h0 n0 _ T13.heap _
    rw [u16]
    exact ⟨rfl, N13, rfl⟩
theorem ef_rm17_46 (m : MethodId)  : entryFrame m #[(.int (4 : Int32)), (.int (22 : Int32))] 2 = mkF m 0 #[.val (.int (4 : Int32)), .val (.int (22 : Int32))] [] := by first | (simp [entryFrame, mkF, argsToLocals, Value.category]; done) | rfl
def Q17_46 (Z : State)  (h0 : Heap) (n0 : Nat) (v : Option Value) (h : Heap) (L : List Loc) : Prop := (v = some (.int (22 : Int32)) ∧ Fr n0 L ∧ h = h0)
set_option maxRecDepth 65536 in
set_option maxHeartbeats 40000000 in
theorem rm17_46 (l : Launch) (Z : State) (a0 : Array Value) (hw : ∀ d ∈ own_ws, d.before a0 Z = true) (ws : List Jvm.Cond)  (h0 : Heap) (n0 : Nat) (O0 : Old Z n0 h0) :
    MetFree l M_12 (head1 (Jvm.Cond.code M_12 jdk_29_method_65_code 2 (some .int) :: ws) ({ frames := 0, cells := 0, slots := 0, locals := 0 } : Room)) (fun a U => a = #[(.int (4 : Int32)), (.int (22 : Int32))] ∧ Z.Warmed39 U.vm ∧ U.heap = h0) (fun _ _ _ _ _ => True) (fun _ U o U' => ∃ v L, o = .returned v ∧ Q17_46 Z  h0 n0 v U'.heap L ∧ FrameEnd U o U' L ({ frames := 0, cells := 0, slots := 0, locals := 0 } : Room).cells ({ frames := 0, cells := 0, slots := 0, locals := 0 } : Room).slots) := by
  refine MetFree.of_bodySF (Jvm.Free.JP.mathPlain rfl (by decide +kernel)) hisR ?_
  intro p e s m args below meth c s₁ Bd hml0 hP hK
  obtain ⟨rfl, hZ, hh⟩ := hP
  have hx := Bd.exec
  have hby := Bd.bytes
  have hml : c.maxLocals = 2 := hml0
  have hown : s.vm.findClass "java/lang/Math" = some m.cls := findClass_of_methodNamed Bd.named
  have hnm := (name_of_methodNamed Bd.named Bd.method).1
  have X0 : Stand p l e ({ frames := 0, cells := 0, slots := 0, locals := 0 } : Room) s m #[(.int (4 : Int32)), (.int (22 : Int32))] below meth c s₁ [] 0 0 := Stand.of_body Bd
  have e0 : s₁.heap = h0 := by rw [← hh, Bd.state]; rfl
  have N0 := Fr.nil n0
  have pre0 : ∀ t, Steps p.tables e below (s₁.setTop (mkF m 0 #[.val (.int (4 : Int32)), .val (.int (22 : Int32))] [])) t → Steps p.tables e below (s₁.setTop (entryFrame m #[(.int (4 : Int32)), (.int (22 : Int32))] 2)) t := fun t k => castTop (ef_rm17_46 m ) k
  obtain ⟨fs, hr, hrun, hended, hW, hsame⟩ := X0.leave (v := some (.int (22 : Int32))) (fun h => by rw [Bd.returns] at h; cases h)
  refine ⟨_, _, pre0 _ ?_, hrun, hended, _, _, rfl, ?_, ⟨_, rfl⟩, hW, hsame.mono (by decide) (by decide)⟩
  · show Steps p.tables e below (s₁.setTop (mkF m 0 #[.val (.int (4 : Int32)), .val (.int (22 : Int32))] [])) _
    refine XS.iloadN X0.here hx rfl (hb hby d17_0) rfl ?_
    refine XS.iloadN X0.here hx rfl (hb hby d17_1) rfl ?_
    refine XS.icmpYes X0.here hx rfl (pc0 := 2) (pc' := 9) rfl (hb hby d17_2) rfl (tlt (by decide +kernel : (4 : Int32) < (22 : Int32))).1 (by decide) (by decide) ?_
    refine XS.iloadN X0.here hx rfl (hb hby d17_9) rfl ?_
    show Steps p.tables e below (s₁.setTop (mkF m 10 #[.val (.int (4 : Int32)), .val (.int (22 : Int32))] [(.int (22 : Int32))])) _
    exact retI X0 hx Bd.returns (hb hby d17_10) hr
  · show Q17_46 Z h0 n0 _ s₁.heap _
    rw [e0]
    exact ⟨rfl, N0, rfl⟩
theorem ef_rm16_45 (m : MethodId)  : entryFrame m #[(.int (20 : Int32)), (.int (4 : Int32)), (.int (22 : Int32))] 4 = mkF m 0 #[.val (.int (20 : Int32)), .val (.int (4 : Int32)), .val (.int (22 : Int32)), .unset] [] := by first | (simp [entryFrame, mkF, argsToLocals, Value.category]; done) | rfl
def Q16_45 (Z : State)  (h0 : Heap) (n0 : Nat) (v : Option Value) (h : Heap) (L : List Loc) : Prop := (v = some (.int (42 : Int32)) ∧ Fr n0 L ∧ h = h0)
set_option maxRecDepth 65536 in
set_option maxHeartbeats 40000000 in
theorem rm16_45 (l : Launch) (Z : State) (a0 : Array Value) (hw : ∀ d ∈ own_ws, d.before a0 Z = true) (ws : List Jvm.Cond)  (h0 : Heap) (n0 : Nat) (O0 : Old Z n0 h0) :
    MetFree l M_13 (head1 (Jvm.Cond.code M_13 jdk_48_method_27_code 4 (some .int) :: ws) ({ frames := 1, cells := 0, slots := 0, locals := 14 } : Room)) (fun a U => a = #[(.int (20 : Int32)), (.int (4 : Int32)), (.int (22 : Int32))] ∧ Z.Warmed39 U.vm ∧ U.heap = h0) (fun _ _ _ _ _ => True) (fun _ U o U' => ∃ v L, o = .returned v ∧ Q16_45 Z  h0 n0 v U'.heap L ∧ FrameEnd U o U' L ({ frames := 1, cells := 0, slots := 0, locals := 14 } : Room).cells ({ frames := 1, cells := 0, slots := 0, locals := 14 } : Room).slots) := by
  refine MetFree.of_bodySF (plainFor_of_name pn_4) hisR ?_
  intro p e s m args below meth c s₁ Bd hml0 hP hK
  obtain ⟨rfl, hZ, hh⟩ := hP
  have hx := Bd.exec
  have hby := Bd.bytes
  have hml : c.maxLocals = 4 := hml0
  have hown : s.vm.findClass "jdk/internal/util/ArraysSupport" = some m.cls := findClass_of_methodNamed Bd.named
  have hnm := (name_of_methodNamed Bd.named Bd.method).1
  have X0 : Stand p l e ({ frames := 1, cells := 0, slots := 0, locals := 14 } : Room) s m #[(.int (20 : Int32)), (.int (4 : Int32)), (.int (22 : Int32))] below meth c s₁ [] 0 0 := Stand.of_body Bd
  have e0 : s₁.heap = h0 := by rw [← hh, Bd.state]; rfl
  have N0 := Fr.nil n0
  have pre0 : ∀ t, Steps p.tables e below (s₁.setTop (mkF m 0 #[.val (.int (20 : Int32)), .val (.int (4 : Int32)), .val (.int (22 : Int32)), .unset] [])) t → Steps p.tables e below (s₁.setTop (entryFrame m #[(.int (20 : Int32)), (.int (4 : Int32)), (.int (22 : Int32))] 4)) t := fun t k => castTop (ef_rm16_45 m ) k
  obtain ⟨_, _, ⟨T1, L1, k1, n1⟩, -, X1, ⟨Lc1, hQ1, l1, y1, z1⟩, st1⟩ := Jvm.LawKit.callS X0 hx (y := M_12) hown (mvT hZ (hw _ (gw 119 rfl))) (mvT hZ (hw _ (gw 120 rfl))) (mvT hZ (hw _ (gw 121 rfl))) (mvT hZ (hw _ (gw 122 rfl))) (by decide) (backOf (W := 1) (rm17_46 l Z a0 hw []  h0 n0  O0) hZ (hw _ (gw 122 rfl)) (hw _ (gw 121 rfl)) (by decide) (by decide)) (g := (mkF m 3 #[.val (.int (20 : Int32)), .val (.int (4 : Int32)), .val (.int (22 : Int32)), .unset] [(.int (22 : Int32)), (.int (4 : Int32)), (.int (20 : Int32))])) rfl (by rw [hml]; rfl) (argsL := [(.int (4 : Int32)), (.int (22 : Int32))]) (rest := [(.int (20 : Int32))]) (lenOf pd_9 rfl) rfl (by show 2 * 0 + _ ≤ _; exact Nat.le_of_eq rfl) (hb hby d16_3) (fun _ _ => ⟨rfl, e0, (by decide : 0 + 0 ≤ _), (by decide : 0 + 0 ≤ _)⟩)
  dsimp only [Pt.U, Pt.locs, Pt.cells, Pt.slots] at X1 l1 y1 z1 st1 hQ1
  subst l1 y1 z1
  obtain ⟨rfl, u3, u4⟩ := hQ1
  have N1 := Fr.app N0 u3
  obtain ⟨fs, hr, hrun, hended, hW, hsame⟩ := X1.leave (v := some (.int (42 : Int32))) (fun h => by rw [Bd.returns] at h; cases h)
  refine ⟨_, _, pre0 _ ?_, hrun, hended, _, _, rfl, ?_, ⟨_, rfl⟩, hW, hsame.mono (by decide) (by decide)⟩
  · show Steps p.tables e below (s₁.setTop (mkF m 0 #[.val (.int (20 : Int32)), .val (.int (4 : Int32)), .val (.int (22 : Int32)), .unset] [])) _
    refine XS.iloadN X0.here hx rfl (hb hby d16_0) rfl ?_
    refine XS.iloadN X0.here hx rfl (hb hby d16_1) rfl ?_
    refine XS.iloadN X0.here hx rfl (hb hby d16_2) rfl ?_
    refine st1 _ ?_
    refine XS.iadd X1.here hx rfl (hb hby d16_6) rfl ?_
    show Steps p.tables e below (T1.setTop (mkF m 7 #[.val (.int (20 : Int32)), .val (.int (4 : Int32)), .val (.int (22 : Int32)), .unset] [(.int ((20 : Int32) + (22 : Int32)))])) _
    rw [(by decide +kernel : ((20 : Int32) + (22 : Int32)) = (42 : Int32))]
    refine XS.istoreN X1.here hx rfl (hb hby d16_7) rfl (l' := #[.val (.int (20 : Int32)), .val (.int (4 : Int32)), .val (.int (22 : Int32)), .val (.int (42 : Int32))]) rfl ?_
    refine XS.iconst X1.here hx rfl (hb hby d16_8) ?_
    refine XS.iloadN X1.here hx rfl (hb hby d16_9) rfl ?_
    refine XS.icmpNo X1.here hx rfl (hb hby d16_10) rfl (tlt (by decide +kernel : (0 : Int32) < (42 : Int32))).2.1 ?_
    refine XS.iloadN X1.here hx rfl (hb hby d16_13) rfl ?_
    refine X1.ldcInt hx hown (mvT hZ (hw _ (gw 123 rfl))) (g := (mkF m 14 #[.val (.int (20 : Int32)), .val (.int (4 : Int32)), .val (.int (22 : Int32)), .val (.int (42 : Int32))] [(.int (42 : Int32))])) rfl (hb hby d16_14) _ ?_
    refine XS.icmpNo X1.here hx rfl (hb hby d16_16) rfl (flt (by decide +kernel : ¬ ((2147483639 : Int32) < (42 : Int32)))).2.2.1 ?_
    refine XS.iloadN X1.here hx rfl (hb hby d16_19) rfl ?_
    show Steps p.tables e below (T1.setTop (mkF m 20 #[.val (.int (20 : Int32)), .val (.int (4 : Int32)), .val (.int (22 : Int32)), .val (.int (42 : Int32))] [(.int (42 : Int32))])) _
    exact retI X1 hx Bd.returns (hb hby d16_20) hr
  · show Q16_45 Z h0 n0 _ T1.heap _
    rw [u4]
    exact ⟨rfl, N1, rfl⟩
theorem ef_rm15_44 (m : MethodId) (x0 : Addr) : entryFrame m #[(.ref x0), (.int (24 : Int32))] 6 = mkF m 0 #[.val (.ref x0), .val (.int (24 : Int32)), .unset, .unset, .unset, .unset] [] := by first | (simp [entryFrame, mkF, argsToLocals, Value.category]; done) | rfl
def Q15_44 (Z : State) (a1 : Addr) (a2 : Addr) (k5 : ClassId) (h0 : Heap) (n0 : Nat) (v : Option Value) (h : Heap) (L : List Loc) : Prop := (v = some (.int (42 : Int32)) ∧ Fr n0 L ∧ h = h0)
set_option maxRecDepth 65536 in
set_option maxHeartbeats 40000000 in
theorem rm15_44 (l : Launch) (Z : State) (a0 : Array Value) (hw : ∀ d ∈ own_ws, d.before a0 Z = true) (ws : List Jvm.Cond) (a1 : Addr) (a2 : Addr) (k5 : ClassId) (h0 : Heap) (n0 : Nat) (O0 : Old Z n0 h0) (F3 : Fld Z h0 a1 C_2 "value" "[B" (.ref a2)) (V6 : Arv Z h0 a2 k5 .byte (20 : Int32) [(.int (82 : Int32)), (.int (101 : Int32)), (.int (97 : Int32)), (.int (100 : Int32)), (.int (44 : Int32)), (.int (32 : Int32)), (.int (87 : Int32)), (.int (114 : Int32)), (.int (105 : Int32)), (.int (116 : Int32)), (.int (101 : Int32)), (.int (44 : Int32)), (.int (32 : Int32)), (.int (65 : Int32)), (.int (112 : Int32)), (.int (112 : Int32)), (.int (101 : Int32)), (.int (110 : Int32)), (.int (100 : Int32))] (.int (0 : Int32))) (F8 : Fld Z h0 a1 C_2 "coder" "B" (.int (0 : Int32))) :
    MetFree l M_14 (head1 (Jvm.Cond.code M_14 jdk_68_method_10_code 6 (some .int) :: ws) ({ frames := 2, cells := 0, slots := 0, locals := 29 } : Room)) (fun a U => a = #[(.ref a1), (.int (24 : Int32))] ∧ Z.Warmed39 U.vm ∧ U.heap = h0) (fun _ _ _ _ _ => True) (fun _ U o U' => ∃ v L, o = .returned v ∧ Q15_44 Z a1 a2 k5 h0 n0 v U'.heap L ∧ FrameEnd U o U' L ({ frames := 2, cells := 0, slots := 0, locals := 29 } : Room).cells ({ frames := 2, cells := 0, slots := 0, locals := 29 } : Room).slots) := by
  refine MetFree.of_bodySF (plainFor_of_name pn_2) hisR ?_
  intro p e s m args below meth c s₁ Bd hml0 hP hK
  obtain ⟨rfl, hZ, hh⟩ := hP
  have hx := Bd.exec
  have hby := Bd.bytes
  have hml : c.maxLocals = 6 := hml0
  have hown : s.vm.findClass "java/lang/AbstractStringBuilder" = some m.cls := findClass_of_methodNamed Bd.named
  have hnm := (name_of_methodNamed Bd.named Bd.method).1
  have X0 : Stand p l e ({ frames := 2, cells := 0, slots := 0, locals := 29 } : Room) s m #[(.ref a1), (.int (24 : Int32))] below meth c s₁ [] 0 0 := Stand.of_body Bd
  have e0 : s₁.heap = h0 := by rw [← hh, Bd.state]; rfl
  have N0 := Fr.nil n0
  have pre0 : ∀ t, Steps p.tables e below (s₁.setTop (mkF m 0 #[.val (.ref a1), .val (.int (24 : Int32)), .unset, .unset, .unset, .unset] [])) t → Steps p.tables e below (s₁.setTop (entryFrame m #[(.ref a1), (.int (24 : Int32))] 6)) t := fun t k => castTop (ef_rm15_44 m a1) k
  obtain ⟨T4, X4, e4, st4⟩ := getF X0 hx hZ hown (host := "") (Or.inl (hw _ (gw 61 rfl))) Via.refl e0 F3 (g := (mkF m 1 #[.val (.ref a1), .val (.int (24 : Int32)), .unset, .unset, .unset, .unset] [(.ref a1)])) rfl rfl (hb hby d15_1)
  obtain ⟨cl7, Ar7, -, Sz7, Nn7, -, -⟩ := id V6
  obtain ⟨T9, X9, e9, st9⟩ := getF X4 hx hZ hown (host := "") (Or.inl (hw _ (gw 58 rfl))) Via.refl e4 F8 (g := (mkF m 8 #[.val (.ref a1), .val (.int (24 : Int32)), .val (.int (20 : Int32)), .unset, .unset, .unset] [(.ref a1), (.int (24 : Int32))])) rfl rfl (hb hby d15_8)
  obtain ⟨T10, X10, e10, st10⟩ := getF X9 hx hZ hown (host := "") (Or.inl (hw _ (gw 58 rfl))) Via.refl e9 F8 (g := (mkF m 24 #[.val (.ref a1), .val (.int (24 : Int32)), .val (.int (20 : Int32)), .val (.int (24 : Int32)), .val (.int (4 : Int32)), .unset] [(.ref a1), (.int (2 : Int32)), (.int (20 : Int32)), (.int (4 : Int32)), (.int (20 : Int32))])) rfl rfl (hb hby d15_24)
  obtain ⟨_, _, ⟨T11, L11, k11, n11⟩, -, X11, ⟨Lc11, hQ11, l11, y11, z11⟩, st11⟩ := Jvm.LawKit.callS X10 hx (y := M_13) hown (mvT hZ (hw _ (gw 115 rfl))) (mvT hZ (hw _ (gw 116 rfl))) (mvT hZ (hw _ (gw 117 rfl))) (mvT hZ (hw _ (gw 118 rfl))) (by decide) (backOf (W := 0) (rm16_45 l Z a0 hw []  h0 n0  O0) hZ (hw _ (gw 118 rfl)) (hw _ (gw 117 rfl)) (by decide) (by decide)) (g := (mkF m 29 #[.val (.ref a1), .val (.int (24 : Int32)), .val (.int (20 : Int32)), .val (.int (24 : Int32)), .val (.int (4 : Int32)), .unset] [(.int (22 : Int32)), (.int (4 : Int32)), (.int (20 : Int32))])) rfl (by rw [hml]; rfl) (argsL := [(.int (20 : Int32)), (.int (4 : Int32)), (.int (22 : Int32))]) (rest := []) (lenOf pd_10 rfl) rfl (by show 2 * 0 + _ ≤ _; exact Nat.le_of_eq rfl) (hb hby d15_29) (fun _ _ => ⟨rfl, e10, (by decide : 0 + 0 ≤ _), (by decide : 0 + 0 ≤ _)⟩)
  dsimp only [Pt.U, Pt.locs, Pt.cells, Pt.slots] at X11 l11 y11 z11 st11 hQ11
  subst l11 y11 z11
  obtain ⟨rfl, u13, u14⟩ := hQ11
  have N11 := Fr.app N0 u13
  obtain ⟨T15, X15, e15, st15⟩ := getF X11 hx hZ hown (host := "") (Or.inl (hw _ (gw 58 rfl))) Via.refl u14 F8 (g := (mkF m 54 #[.val (.ref a1), .val (.int (24 : Int32)), .val (.int (20 : Int32)), .val (.int (24 : Int32)), .val (.int (4 : Int32)), .val (.int (42 : Int32))] [(.ref a1), (.int (42 : Int32))])) rfl rfl (hb hby d15_54)
  obtain ⟨fs, hr, hrun, hended, hW, hsame⟩ := X15.leave (v := some (.int (42 : Int32))) (fun h => by rw [Bd.returns] at h; cases h)
  refine ⟨_, _, pre0 _ ?_, hrun, hended, _, _, rfl, ?_, ⟨_, rfl⟩, hW, hsame.mono (by decide) (by decide)⟩
  · show Steps p.tables e below (s₁.setTop (mkF m 0 #[.val (.ref a1), .val (.int (24 : Int32)), .unset, .unset, .unset, .unset] [])) _
    refine XS.aloadN X0.here hx rfl (hb hby d15_0) rfl rfl ?_
    refine st4 _ ?_
    refine X4.arraylength hx (by rw [e4]; exact Ar7.1) (State.isArrayOf_alike hZ.alike Ar7.2.1) (g := (mkF m 4 #[.val (.ref a1), .val (.int (24 : Int32)), .unset, .unset, .unset, .unset] [(.ref a2)])) rfl rfl (hb hby d15_4) _ ?_
    rw [len_of Sz7 Nn7]
    refine XS.istoreN X4.here hx rfl (hb hby d15_5) rfl (l' := #[.val (.ref a1), .val (.int (24 : Int32)), .val (.int (20 : Int32)), .unset, .unset, .unset]) rfl ?_
    refine XS.iloadN X4.here hx rfl (hb hby d15_6) rfl ?_
    refine XS.aloadN X4.here hx rfl (hb hby d15_7) rfl rfl ?_
    refine st9 _ ?_
    refine XS.ishl X9.here hx rfl (hb hby d15_11) rfl ?_
    show Steps p.tables e below (T9.setTop (mkF m 12 #[.val (.ref a1), .val (.int (24 : Int32)), .val (.int (20 : Int32)), .unset, .unset, .unset] [(.int ((24 : Int32) <<< ((0 : Int32) &&& 31)))])) _
    rw [(by decide +kernel : ((24 : Int32) <<< ((0 : Int32) &&& 31)) = (24 : Int32))]
    refine XS.istoreN X9.here hx rfl (hb hby d15_12) rfl (l' := #[.val (.ref a1), .val (.int (24 : Int32)), .val (.int (20 : Int32)), .val (.int (24 : Int32)), .unset, .unset]) rfl ?_
    refine XS.iloadN X9.here hx rfl (hb hby d15_13) rfl ?_
    refine XS.iloadN X9.here hx rfl (hb hby d15_14) rfl ?_
    refine XS.isub X9.here hx rfl (hb hby d15_15) rfl ?_
    show Steps p.tables e below (T9.setTop (mkF m 16 #[.val (.ref a1), .val (.int (24 : Int32)), .val (.int (20 : Int32)), .val (.int (24 : Int32)), .unset, .unset] [(.int ((24 : Int32) - (20 : Int32)))])) _
    rw [(by decide +kernel : ((24 : Int32) - (20 : Int32)) = (4 : Int32))]
    refine XS.istore X9.here hx rfl (hb hby d15_16) rfl (l' := #[.val (.ref a1), .val (.int (24 : Int32)), .val (.int (20 : Int32)), .val (.int (24 : Int32)), .val (.int (4 : Int32)), .unset]) rfl ?_
    refine XS.iloadN X9.here hx rfl (hb hby d15_18) rfl ?_
    refine XS.iload X9.here hx rfl (hb hby d15_19) rfl ?_
    refine XS.iloadN X9.here hx rfl (hb hby d15_21) rfl ?_
    refine XS.iconst X9.here hx rfl (hb hby d15_22) ?_
    refine XS.aloadN X9.here hx rfl (hb hby d15_23) rfl rfl ?_
    refine st10 _ ?_
    refine XS.ishl X10.here hx rfl (hb hby d15_27) rfl ?_
    show Steps p.tables e below (T10.setTop (mkF m 28 #[.val (.ref a1), .val (.int (24 : Int32)), .val (.int (20 : Int32)), .val (.int (24 : Int32)), .val (.int (4 : Int32)), .unset] [(.int ((2 : Int32) <<< ((0 : Int32) &&& 31))), (.int (20 : Int32)), (.int (4 : Int32)), (.int (20 : Int32))])) _
    rw [(by decide +kernel : ((2 : Int32) <<< ((0 : Int32) &&& 31)) = (2 : Int32))]
    refine XS.iadd X10.here hx rfl (hb hby d15_28) rfl ?_
    show Steps p.tables e below (T10.setTop (mkF m 29 #[.val (.ref a1), .val (.int (24 : Int32)), .val (.int (20 : Int32)), .val (.int (24 : Int32)), .val (.int (4 : Int32)), .unset] [(.int ((20 : Int32) + (2 : Int32))), (.int (4 : Int32)), (.int (20 : Int32))])) _
    rw [(by decide +kernel : ((20 : Int32) + (2 : Int32)) = (22 : Int32))]
    refine st11 _ ?_
    refine XS.istore X11.here hx rfl (hb hby d15_32) rfl (l' := #[.val (.ref a1), .val (.int (24 : Int32)), .val (.int (20 : Int32)), .val (.int (24 : Int32)), .val (.int (4 : Int32)), .val (.int (42 : Int32))]) rfl ?_
    refine XS.iload X11.here hx rfl (hb hby d15_34) rfl ?_
    refine X11.ldcInt hx hown (mvT hZ (hw _ (gw 124 rfl))) (g := (mkF m 36 #[.val (.ref a1), .val (.int (24 : Int32)), .val (.int (20 : Int32)), .val (.int (24 : Int32)), .val (.int (4 : Int32)), .val (.int (42 : Int32))] [(.int (42 : Int32))])) rfl (hb hby d15_36) _ ?_
    refine XS.icmpYes X11.here hx rfl (pc0 := 38) (pc' := 51) rfl (hb hby d15_38) rfl (feq (by decide +kernel : ¬ ((42 : Int32) = (2147483647 : Int32)))).2 (by decide) (by decide) ?_
    refine XS.iload X11.here hx rfl (hb hby d15_51) rfl ?_
    refine XS.aloadN X11.here hx rfl (hb hby d15_53) rfl rfl ?_
    refine st15 _ ?_
    show Steps p.tables e below (T15.setTop (mkF m 57 #[.val (.ref a1), .val (.int (24 : Int32)), .val (.int (20 : Int32)), .val (.int (24 : Int32)), .val (.int (4 : Int32)), .val (.int (42 : Int32))] [(.int (0 : Int32)), (.int (42 : Int32))])) _
    refine XS.ishr X15.here hx rfl (hb hby d15_57) rfl ?_
    show Steps p.tables e below (T15.setTop (mkF m 58 #[.val (.ref a1), .val (.int (24 : Int32)), .val (.int (20 : Int32)), .val (.int (24 : Int32)), .val (.int (4 : Int32)), .val (.int (42 : Int32))] [(.int ((42 : Int32) >>> ((0 : Int32) &&& 31)))])) _
    rw [(by decide +kernel : ((42 : Int32) >>> ((0 : Int32) &&& 31)) = (42 : Int32))]
    show Steps p.tables e below (T15.setTop (mkF m 58 #[.val (.ref a1), .val (.int (24 : Int32)), .val (.int (20 : Int32)), .val (.int (24 : Int32)), .val (.int (4 : Int32)), .val (.int (42 : Int32))] [(.int (42 : Int32))])) _
    exact retI X15 hx Bd.returns (hb hby d15_58) hr
  · show Q15_44 Z _ _ _ h0 n0 _ T15.heap _
    rw [e15]
    exact ⟨rfl, N11, rfl⟩
theorem ef_rm19_48 (m : MethodId)  : entryFrame m #[(.int (20 : Int32)), (.int (42 : Int32))] 2 = mkF m 0 #[.val (.int (20 : Int32)), .val (.int (42 : Int32))] [] := by first | (simp [entryFrame, mkF, argsToLocals, Value.category]; done) | rfl
def Q19_48 (Z : State)  (h0 : Heap) (n0 : Nat) (v : Option Value) (h : Heap) (L : List Loc) : Prop := (v = some (.int (20 : Int32)) ∧ Fr n0 L ∧ h = h0)
set_option maxRecDepth 65536 in
set_option maxHeartbeats 40000000 in
theorem rm19_48 (l : Launch) (Z : State) (a0 : Array Value) (hw : ∀ d ∈ own_ws, d.before a0 Z = true) (ws : List Jvm.Cond)  (h0 : Heap) (n0 : Nat) (O0 : Old Z n0 h0) :
    MetFree l M_15 (head1 (Jvm.Cond.code M_15 jdk_29_method_69_code 2 (some .int) :: ws) ({ frames := 0, cells := 0, slots := 0, locals := 0 } : Room)) (fun a U => a = #[(.int (20 : Int32)), (.int (42 : Int32))] ∧ Z.Warmed39 U.vm ∧ U.heap = h0) (fun _ _ _ _ _ => True) (fun _ U o U' => ∃ v L, o = .returned v ∧ Q19_48 Z  h0 n0 v U'.heap L ∧ FrameEnd U o U' L ({ frames := 0, cells := 0, slots := 0, locals := 0 } : Room).cells ({ frames := 0, cells := 0, slots := 0, locals := 0 } : Room).slots) := by
  refine MetFree.of_bodySF (Jvm.Free.JP.mathPlain rfl (by decide +kernel)) hisR ?_
  intro p e s m args below meth c s₁ Bd hml0 hP hK
  obtain ⟨rfl, hZ, hh⟩ := hP
  have hx := Bd.exec
  have hby := Bd.bytes
  have hml : c.maxLocals = 2 := hml0
  have hown : s.vm.findClass "java/lang/Math" = some m.cls := findClass_of_methodNamed Bd.named
  have hnm := (name_of_methodNamed Bd.named Bd.method).1
  have X0 : Stand p l e ({ frames := 0, cells := 0, slots := 0, locals := 0 } : Room) s m #[(.int (20 : Int32)), (.int (42 : Int32))] below meth c s₁ [] 0 0 := Stand.of_body Bd
  have e0 : s₁.heap = h0 := by rw [← hh, Bd.state]; rfl
  have N0 := Fr.nil n0
  have pre0 : ∀ t, Steps p.tables e below (s₁.setTop (mkF m 0 #[.val (.int (20 : Int32)), .val (.int (42 : Int32))] [])) t → Steps p.tables e below (s₁.setTop (entryFrame m #[(.int (20 : Int32)), (.int (42 : Int32))] 2)) t := fun t k => castTop (ef_rm19_48 m ) k
  obtain ⟨fs, hr, hrun, hended, hW, hsame⟩ := X0.leave (v := some (.int (20 : Int32))) (fun h => by rw [Bd.returns] at h; cases h)
  refine ⟨_, _, pre0 _ ?_, hrun, hended, _, _, rfl, ?_, ⟨_, rfl⟩, hW, hsame.mono (by decide) (by decide)⟩
  · show Steps p.tables e below (s₁.setTop (mkF m 0 #[.val (.int (20 : Int32)), .val (.int (42 : Int32))] [])) _
    refine XS.iloadN X0.here hx rfl (hb hby d19_0) rfl ?_
    refine XS.iloadN X0.here hx rfl (hb hby d19_1) rfl ?_
    refine XS.icmpNo X0.here hx rfl (hb hby d19_2) rfl (flt (by decide +kernel : ¬ ((42 : Int32) < (20 : Int32)))).2.2.1 ?_
    refine XS.iloadN X0.here hx rfl (hb hby d19_5) rfl ?_
    refine XS.goto X0.here hx rfl (pc0 := 6) (pc' := 10) rfl (hb hby d19_6) (by decide) (by decide) ?_
    show Steps p.tables e below (s₁.setTop (mkF m 10 #[.val (.int (20 : Int32)), .val (.int (42 : Int32))] [(.int (20 : Int32))])) _
    exact retI X0 hx Bd.returns (hb hby d19_10) hr
  · show Q19_48 Z h0 n0 _ s₁.heap _
    rw [e0]
    exact ⟨rfl, N0, rfl⟩
theorem ef_rm18_47 (m : MethodId) (x0 : Addr) : entryFrame m #[(.ref x0), (.int (42 : Int32))] 3 = mkF m 0 #[.val (.ref x0), .val (.int (42 : Int32)), .unset] [] := by first | (simp [entryFrame, mkF, argsToLocals, Value.category]; done) | rfl
def Q18_47 (Z : State) (a1 : Addr) (k2 : ClassId) (h0 : Heap) (n0 : Nat) (v : Option Value) (h : Heap) (L : List Loc) : Prop := (∃ (b5 : Addr) (k5 : ClassId), v = some (.ref b5) ∧ Fr n0 L ∧ h0.size ≤ b5 ∧ b5 < h.size ∧ Keep h0 h [] ∧ Exa Z h b5 "[B" ∧ Arv Z h b5 k5 .byte (42 : Int32) [(.int (82 : Int32)), (.int (101 : Int32)), (.int (97 : Int32)), (.int (100 : Int32)), (.int (44 : Int32)), (.int (32 : Int32)), (.int (87 : Int32)), (.int (114 : Int32)), (.int (105 : Int32)), (.int (116 : Int32)), (.int (101 : Int32)), (.int (44 : Int32)), (.int (32 : Int32)), (.int (65 : Int32)), (.int (112 : Int32)), (.int (112 : Int32)), (.int (101 : Int32)), (.int (110 : Int32)), (.int (100 : Int32)), (.int (0 : Int32))] (.int (0 : Int32)))
set_option maxRecDepth 65536 in
set_option maxHeartbeats 40000000 in
theorem rm18_47 (l : Launch) (Z : State) (a0 : Array Value) (hw : ∀ d ∈ own_ws, d.before a0 Z = true) (ws : List Jvm.Cond) (a1 : Addr) (k2 : ClassId) (h0 : Heap) (n0 : Nat) (O0 : Old Z n0 h0) (V3 : Arv Z h0 a1 k2 .byte (20 : Int32) [(.int (82 : Int32)), (.int (101 : Int32)), (.int (97 : Int32)), (.int (100 : Int32)), (.int (44 : Int32)), (.int (32 : Int32)), (.int (87 : Int32)), (.int (114 : Int32)), (.int (105 : Int32)), (.int (116 : Int32)), (.int (101 : Int32)), (.int (44 : Int32)), (.int (32 : Int32)), (.int (65 : Int32)), (.int (112 : Int32)), (.int (112 : Int32)), (.int (101 : Int32)), (.int (110 : Int32)), (.int (100 : Int32))] (.int (0 : Int32))) :
    MetFree l M_16 (head1 (Jvm.Cond.code M_16 jdk_65_method_121_code 3 (some (.array .byte)) :: ws) ({ frames := 1, cells := 1, slots := 42, locals := 18 } : Room)) (fun a U => a = #[(.ref a1), (.int (42 : Int32))] ∧ Z.Warmed39 U.vm ∧ U.heap = h0) (fun _ _ _ _ _ => True) (fun _ U o U' => ∃ v L, o = .returned v ∧ Q18_47 Z a1 k2 h0 n0 v U'.heap L ∧ FrameEnd U o U' L ({ frames := 1, cells := 1, slots := 42, locals := 18 } : Room).cells ({ frames := 1, cells := 1, slots := 42, locals := 18 } : Room).slots) := by
  refine MetFree.of_bodySF (plainFor_of_name pn_5) hisR ?_
  intro p e s m args below meth c s₁ Bd hml0 hP hK
  obtain ⟨rfl, hZ, hh⟩ := hP
  have hx := Bd.exec
  have hby := Bd.bytes
  have hml : c.maxLocals = 3 := hml0
  have hown : s.vm.findClass "java/util/Arrays" = some m.cls := findClass_of_methodNamed Bd.named
  have hnm := (name_of_methodNamed Bd.named Bd.method).1
  have X0 : Stand p l e ({ frames := 1, cells := 1, slots := 42, locals := 18 } : Room) s m #[(.ref a1), (.int (42 : Int32))] below meth c s₁ [] 0 0 := Stand.of_body Bd
  have e0 : s₁.heap = h0 := by rw [← hh, Bd.state]; rfl
  have N0 := Fr.nil n0
  have pre0 : ∀ t, Steps p.tables e below (s₁.setTop (mkF m 0 #[.val (.ref a1), .val (.int (42 : Int32)), .unset] [])) t → Steps p.tables e below (s₁.setTop (entryFrame m #[(.ref a1), (.int (42 : Int32))] 3)) t := fun t k => castTop (ef_rm18_47 m a1) k
  obtain ⟨cl4, Ar4, -, Sz4, Nn4, -, -⟩ := id V3
  obtain ⟨T5, h5, k5, X5, e5, E5, A5, Ex5, st5⟩ := newPE X0 hx hZ (hw _ (gw 60 rfl)) e0 (g := (mkF m 15 #[.val (.ref a1), .val (.int (42 : Int32)), .unset] [(.int (42 : Int32))])) rfl (hb hby d18_15) rfl (by decide +kernel) (cap := 42) (by decide +kernel) (by decide) (by decide) (by decide) (ad := "[B") (by decide +kernel)
  obtain ⟨b5, g5⟩ : ∃ z, z = h0.size := ⟨_, rfl⟩
  rw [← g5] at A5 Ex5 st5
  have O5 : Old Z n0 h5 := O0.ext E5
  have bd_b5 : h0.size ≤ b5 := Nat.le_of_eq g5.symm
  have g_b5 : n0 ≤ b5 := Nat.le_trans (own_z O0) bd_b5
  have sz_b5 : h0.size ≤ b5 := Nat.le_trans (Nat.le_refl _) bd_b5
  have lt_b5 : b5 < h5.size := A5.lt
  have V5 : Arv Z h5 b5 k5 .byte (42 : Int32) [] (.int (0 : Int32)) := Arv.new A5 (by decide +kernel)
  have f6 : Arv Z h5 a1 k2 .byte (20 : Int32) [(.int (82 : Int32)), (.int (101 : Int32)), (.int (97 : Int32)), (.int (100 : Int32)), (.int (44 : Int32)), (.int (32 : Int32)), (.int (87 : Int32)), (.int (114 : Int32)), (.int (105 : Int32)), (.int (116 : Int32)), (.int (101 : Int32)), (.int (44 : Int32)), (.int (32 : Int32)), (.int (65 : Int32)), (.int (112 : Int32)), (.int (112 : Int32)), (.int (101 : Int32)), (.int (110 : Int32)), (.int (100 : Int32))] (.int (0 : Int32)) := (V3.ext E5)
  obtain ⟨cl7, Ar7, -, Sz7, Nn7, -, -⟩ := id f6
  obtain ⟨_, _, ⟨T8, L8, k8, n8⟩, -, X8, ⟨Lc8, hQ8, l8, y8, z8⟩, st8⟩ := Jvm.LawKit.callS X5 hx (y := M_15) hown (mvT hZ (hw _ (gw 129 rfl))) (mvT hZ (hw _ (gw 130 rfl))) (mvT hZ (hw _ (gw 121 rfl))) (mvT hZ (hw _ (gw 131 rfl))) (by decide) (backOf (W := 4) (rm19_48 l Z a0 hw []  h5 n0  O5) hZ (hw _ (gw 131 rfl)) (hw _ (gw 121 rfl)) (by decide) (by decide)) (g := (mkF m 25 #[.val (.ref a1), .val (.int (42 : Int32)), .val (.ref b5)] [(.int (42 : Int32)), (.int (20 : Int32)), (.int (0 : Int32)), (.ref b5), (.int (0 : Int32)), (.ref a1)])) rfl (by rw [hml]; rfl) (argsL := [(.int (20 : Int32)), (.int (42 : Int32))]) (rest := [(.int (0 : Int32)), (.ref b5), (.int (0 : Int32)), (.ref a1)]) (lenOf pd_9 rfl) rfl (by show 2 * 0 + _ ≤ _; exact Nat.le_of_eq rfl) (hb hby d18_25) (fun _ _ => ⟨rfl, e5, (by decide : 1 + 0 ≤ _), (by decide : 42 + 0 ≤ _)⟩)
  dsimp only [Pt.U, Pt.locs, Pt.cells, Pt.slots] at X8 l8 y8 z8 st8 hQ8
  subst l8 y8 z8
  obtain ⟨rfl, u10, u11⟩ := hQ8
  have N8 := Fr.app N0 u10
  have Vp12 : Arv Z h5 b5 k5 .byte (42 : Int32) [(.int (0 : Int32)), (.int (0 : Int32)), (.int (0 : Int32)), (.int (0 : Int32)), (.int (0 : Int32)), (.int (0 : Int32)), (.int (0 : Int32)), (.int (0 : Int32)), (.int (0 : Int32)), (.int (0 : Int32)), (.int (0 : Int32)), (.int (0 : Int32)), (.int (0 : Int32)), (.int (0 : Int32)), (.int (0 : Int32)), (.int (0 : Int32)), (.int (0 : Int32)), (.int (0 : Int32)), (.int (0 : Int32)), (.int (0 : Int32))] (.int (0 : Int32)) := V5.pad (pad_rep [] (.int (0 : Int32)) 20)
  obtain ⟨T13, h13, L13, X13, e13, N13, Ku13, V13, st13⟩ := cpA X8 hx hZ hown (hw _ (gw 132 rfl)) (hw _ (gw 103 rfl)) (hw _ (gw 101 rfl)) (hw _ (gw 102 rfl)) u11 (sp := (0 : Int32)) (dp := (0 : Int32)) (nn := (20 : Int32)) (us := [(.int (82 : Int32)), (.int (101 : Int32)), (.int (97 : Int32)), (.int (100 : Int32)), (.int (44 : Int32)), (.int (32 : Int32)), (.int (87 : Int32)), (.int (114 : Int32)), (.int (105 : Int32)), (.int (116 : Int32)), (.int (101 : Int32)), (.int (44 : Int32)), (.int (32 : Int32)), (.int (65 : Int32)), (.int (112 : Int32)), (.int (112 : Int32)), (.int (101 : Int32)), (.int (110 : Int32)), (.int (100 : Int32)), (.int (0 : Int32))]) f6 Vp12 (Or.inl ⟨rfl, rfl⟩) (by decide +kernel) (by decide +kernel) (by decide +kernel) (by decide +kernel) (by decide +kernel) rfl (Nat.le_of_ble_eq_true rfl) N8 g_b5 (g := (mkF m 28 #[.val (.ref a1), .val (.int (42 : Int32)), .val (.ref b5)] [(.int (20 : Int32)), (.int (0 : Int32)), (.ref b5), (.int (0 : Int32)), (.ref a1)])) rfl (by rw [hml]; rfl) rfl (hb hby d18_28) (by decide) (W := 0) (by show 2 * 0 + _ ≤ _; exact Nat.le_of_eq rfl) (by decide +kernel)
  have Ou13 : Old Z n0 h13 := O5.keep Ku13 (allS g_b5 all0)
  have Vc13 : Arv Z h13 b5 k5 .byte (42 : Int32) [(.int (82 : Int32)), (.int (101 : Int32)), (.int (97 : Int32)), (.int (100 : Int32)), (.int (44 : Int32)), (.int (32 : Int32)), (.int (87 : Int32)), (.int (114 : Int32)), (.int (105 : Int32)), (.int (116 : Int32)), (.int (101 : Int32)), (.int (44 : Int32)), (.int (32 : Int32)), (.int (65 : Int32)), (.int (112 : Int32)), (.int (112 : Int32)), (.int (101 : Int32)), (.int (110 : Int32)), (.int (100 : Int32)), (.int (0 : Int32))] (.int (0 : Int32)) := V13
  obtain ⟨fs, hr, hrun, hended, hW, hsame⟩ := X13.leave (v := some (.ref b5)) (fun h => by rw [Bd.returns] at h; cases h)
  have f14 : Exa Z h13 b5 "[B" := (Ex5.keep Ku13)
  refine ⟨_, _, pre0 _ ?_, hrun, hended, _, _, rfl, ?_, ⟨_, rfl⟩, hW, hsame.mono (by decide) (by decide)⟩
  · show Steps p.tables e below (s₁.setTop (mkF m 0 #[.val (.ref a1), .val (.int (42 : Int32)), .unset] [])) _
    refine XS.iloadN X0.here hx rfl (hb hby d18_0) rfl ?_
    refine XS.aloadN X0.here hx rfl (hb hby d18_1) rfl rfl ?_
    refine X0.arraylength hx (by rw [e0]; exact Ar4.1) (State.isArrayOf_alike hZ.alike Ar4.2.1) (g := (mkF m 2 #[.val (.ref a1), .val (.int (42 : Int32)), .unset] [(.ref a1), (.int (42 : Int32))])) rfl rfl (hb hby d18_2) _ ?_
    rw [len_of Sz4 Nn4]
    refine XS.icmpYes X0.here hx rfl (pc0 := 3) (pc' := 14) rfl (hb hby d18_3) rfl (feq (by decide +kernel : ¬ ((42 : Int32) = (20 : Int32)))).2 (by decide) (by decide) ?_
    refine XS.iloadN X0.here hx rfl (hb hby d18_14) rfl ?_
    refine st5 _ ?_
    refine XS.astoreN X5.here hx rfl (hb hby d18_17) rfl rfl (l' := #[.val (.ref a1), .val (.int (42 : Int32)), .val (.ref b5)]) rfl ?_
    refine XS.aloadN X5.here hx rfl (hb hby d18_18) rfl rfl ?_
    refine XS.iconst X5.here hx rfl (hb hby d18_19) ?_
    show Steps p.tables e below (T5.setTop (mkF m 20 #[.val (.ref a1), .val (.int (42 : Int32)), .val (.ref b5)] [(.int (0 : Int32)), (.ref a1)])) _
    refine XS.aloadN X5.here hx rfl (hb hby d18_20) rfl rfl ?_
    refine XS.iconst X5.here hx rfl (hb hby d18_21) ?_
    refine XS.aloadN X5.here hx rfl (hb hby d18_22) rfl rfl ?_
    refine X5.arraylength hx (by rw [e5]; exact Ar7.1) (State.isArrayOf_alike hZ.alike Ar7.2.1) (g := (mkF m 23 #[.val (.ref a1), .val (.int (42 : Int32)), .val (.ref b5)] [(.ref a1), (.int (0 : Int32)), (.ref b5), (.int (0 : Int32)), (.ref a1)])) rfl rfl (hb hby d18_23) _ ?_
    rw [len_of Sz7 Nn7]
    refine XS.iloadN X5.here hx rfl (hb hby d18_24) rfl ?_
    refine st8 _ ?_
    refine st13 _ ?_
    refine XS.aloadN X13.here hx rfl (hb hby d18_31) rfl rfl ?_
    show Steps p.tables e below (T13.setTop (mkF m 32 #[.val (.ref a1), .val (.int (42 : Int32)), .val (.ref b5)] [(.ref b5)])) _
    jvm_step X13.here [X13.here.top, hx, (hb hby d18_32), X13.method', Bd.returns, Value.isRef, FieldType.isReference]
    first | (intro acts; rw [hr _ acts rfl rfl rfl]) | rw [hr _ _ rfl rfl rfl]
    exact Steps.refl _
  · show Q18_47 Z _ _ h0 n0 _ T13.heap _
    rw [e13]
    exact ⟨b5, k5, rfl, N13, sz_b5, (Nat.lt_of_lt_of_le lt_b5 Ku13.1), (((Keep.refl h0 []).ext E5).trans Ku13 (allS (Or.inr sz_b5) all0)), f14, Vc13⟩
theorem ef_rm11_43 (m : MethodId) (x0 : Addr) : entryFrame m #[(.ref x0), (.int (24 : Int32))] 3 = mkF m 0 #[.val (.ref x0), .val (.int (24 : Int32)), .unset] [] := by first | (simp [entryFrame, mkF, argsToLocals, Value.category]; done) | rfl
def Q11_43 (Z : State) (a1 : Addr) (a2 : Addr) (k5 : ClassId) (h0 : Heap) (n0 : Nat) (v : Option Value) (h : Heap) (L : List Loc) : Prop := (∃ (b18 : Addr) (k19 : ClassId), v = none ∧ Fr n0 L ∧ h0.size ≤ b18 ∧ b18 < h.size ∧ Keep h0 h [a1] ∧ Exa Z h a1 C_5 ∧ Fld Z h a1 C_2 "coder" "B" (.int (0 : Int32)) ∧ Fld Z h a1 C_2 "count" "I" (.int (19 : Int32)) ∧ Fld Z h a1 C_2 "value" "[B" (.ref b18) ∧ Exa Z h b18 "[B" ∧ Arv Z h b18 k19 .byte (42 : Int32) [(.int (82 : Int32)), (.int (101 : Int32)), (.int (97 : Int32)), (.int (100 : Int32)), (.int (44 : Int32)), (.int (32 : Int32)), (.int (87 : Int32)), (.int (114 : Int32)), (.int (105 : Int32)), (.int (116 : Int32)), (.int (101 : Int32)), (.int (44 : Int32)), (.int (32 : Int32)), (.int (65 : Int32)), (.int (112 : Int32)), (.int (112 : Int32)), (.int (101 : Int32)), (.int (110 : Int32)), (.int (100 : Int32)), (.int (0 : Int32))] (.int (0 : Int32)))
set_option maxRecDepth 65536 in
set_option maxHeartbeats 40000000 in
theorem rm11_43 (l : Launch) (Z : State) (a0 : Array Value) (hw : ∀ d ∈ own_ws, d.before a0 Z = true) (ws : List Jvm.Cond) (a1 : Addr) (a2 : Addr) (k5 : ClassId) (h0 : Heap) (n0 : Nat) (O0 : Old Z n0 h0) (F3 : Fld Z h0 a1 C_2 "value" "[B" (.ref a2)) (V6 : Arv Z h0 a2 k5 .byte (20 : Int32) [(.int (82 : Int32)), (.int (101 : Int32)), (.int (97 : Int32)), (.int (100 : Int32)), (.int (44 : Int32)), (.int (32 : Int32)), (.int (87 : Int32)), (.int (114 : Int32)), (.int (105 : Int32)), (.int (116 : Int32)), (.int (101 : Int32)), (.int (44 : Int32)), (.int (32 : Int32)), (.int (65 : Int32)), (.int (112 : Int32)), (.int (112 : Int32)), (.int (101 : Int32)), (.int (110 : Int32)), (.int (100 : Int32))] (.int (0 : Int32))) (F8 : Fld Z h0 a1 C_2 "coder" "B" (.int (0 : Int32))) (E_11 : Exa Z h0 a1 C_5) (F27 : Fld Z h0 a1 C_2 "count" "I" (.int (19 : Int32))) (g_a1 : n0 ≤ a1) (lt_a1 : a1 < h0.size) :
    MetFree l M_3 (head1 (Jvm.Cond.code M_3 jdk_68_method_9_code 3 none :: ws) ({ frames := 3, cells := 1, slots := 42, locals := 48 } : Room)) (fun a U => a = #[(.ref a1), (.int (24 : Int32))] ∧ Z.Warmed39 U.vm ∧ U.heap = h0) (fun _ _ _ _ _ => True) (fun _ U o U' => ∃ v L, o = .returned v ∧ Q11_43 Z a1 a2 k5 h0 n0 v U'.heap L ∧ FrameEnd U o U' L ({ frames := 3, cells := 1, slots := 42, locals := 48 } : Room).cells ({ frames := 3, cells := 1, slots := 42, locals := 48 } : Room).slots) := by
  refine MetFree.of_bodySF (plainFor_of_name pn_2) hisR ?_
  intro p e s m args below meth c s₁ Bd hml0 hP hK
  obtain ⟨rfl, hZ, hh⟩ := hP
  have hx := Bd.exec
  have hby := Bd.bytes
  have hml : c.maxLocals = 3 := hml0
  have hown : s.vm.findClass "java/lang/AbstractStringBuilder" = some m.cls := findClass_of_methodNamed Bd.named
  have hnm := (name_of_methodNamed Bd.named Bd.method).1
  have X0 : Stand p l e ({ frames := 3, cells := 1, slots := 42, locals := 48 } : Room) s m #[(.ref a1), (.int (24 : Int32))] below meth c s₁ [] 0 0 := Stand.of_body Bd
  have e0 : s₁.heap = h0 := by rw [← hh, Bd.state]; rfl
  have N0 := Fr.nil n0
  have pre0 : ∀ t, Steps p.tables e below (s₁.setTop (mkF m 0 #[.val (.ref a1), .val (.int (24 : Int32)), .unset] [])) t → Steps p.tables e below (s₁.setTop (entryFrame m #[(.ref a1), (.int (24 : Int32))] 3)) t := fun t k => castTop (ef_rm11_43 m a1) k
  obtain ⟨T4, X4, e4, st4⟩ := getF X0 hx hZ hown (host := "") (Or.inl (hw _ (gw 61 rfl))) Via.refl e0 F3 (g := (mkF m 1 #[.val (.ref a1), .val (.int (24 : Int32)), .unset] [(.ref a1)])) rfl rfl (hb hby d11_1)
  obtain ⟨cl7, Ar7, -, Sz7, Nn7, -, -⟩ := id V6
  obtain ⟨T9, X9, e9, st9⟩ := getF X4 hx hZ hown (host := "") (Or.inl (hw _ (gw 58 rfl))) Via.refl e4 F8 (g := (mkF m 6 #[.val (.ref a1), .val (.int (24 : Int32)), .unset] [(.ref a1), (.int (20 : Int32))])) rfl rfl (hb hby d11_6)
  obtain ⟨T10, X10, e10, st10⟩ := getF X9 hx hZ hown (host := "") (Or.inl (hw _ (gw 61 rfl))) Via.refl e9 F3 (g := (mkF m 19 #[.val (.ref a1), .val (.int (24 : Int32)), .val (.int (20 : Int32))] [(.ref a1), (.ref a1)])) rfl rfl (hb hby d11_19)
  obtain ⟨cq12, q12, q12'⟩ := E_11.cell
  obtain ⟨_, _, ⟨T12, L12, k12, n12⟩, -, X12, ⟨Lc12, hQ12, l12, y12, z12⟩, st12⟩ := X10.privateBack hx (y := M_14) hown (mvT hZ (hw _ (gw 110 rfl))) (mvT hZ (hw _ (gw 111 rfl))) (own_selSelf (args := #[]) (mvT hZ (hw _ (gw 113 rfl))) (Cond.privateMethod_at (mvP hZ (hw _ (gw 112 rfl)) (args := #[]))) (mvT hZ (hw _ (gw 111 rfl))) (by decide)) (Cond.privateMethod_at (mvP hZ (hw _ (gw 112 rfl)) (args := #[]))) (mvT hZ (hw _ (gw 114 rfl))) (by decide) (backOf (W := 2) (rm15_44 l Z a0 hw [] a1 a2 k5 h0 n0  O0 F3 V6 F8) hZ (hw _ (gw 114 rfl)) (hw _ (gw 35 rfl)) (by decide) (by decide)) (g := (mkF m 24 #[.val (.ref a1), .val (.int (24 : Int32)), .val (.int (20 : Int32))] [(.int (24 : Int32)), (.ref a1), (.ref a2), (.ref a1)])) rfl (by rw [hml]; rfl) (Steps.refl _) (a := a1) (by rw [e10]; exact q12) q12' (argsL := [(.int (24 : Int32))]) (rest := [(.ref a2), (.ref a1)]) (lenOf pd_11 rfl) rfl (by show 2 * 0 + _ ≤ _; exact Nat.le_of_eq rfl) (hb hby d11_24) (fun _ _ => ⟨rfl, e10, (by decide : 0 + 0 ≤ _), (by decide : 0 + 0 ≤ _)⟩)
  dsimp only [Pt.U, Pt.locs, Pt.cells, Pt.slots] at X12 l12 y12 z12 st12 hQ12
  subst l12 y12 z12
  obtain ⟨rfl, u14, u15⟩ := hQ12
  have N12 := Fr.app N0 u14
  obtain ⟨T16, X16, e16, st16⟩ := getF X12 hx hZ hown (host := "") (Or.inl (hw _ (gw 58 rfl))) Via.refl u15 F8 (g := (mkF m 28 #[.val (.ref a1), .val (.int (24 : Int32)), .val (.int (20 : Int32))] [(.ref a1), (.int (42 : Int32)), (.ref a2), (.ref a1)])) rfl rfl (hb hby d11_28)
  obtain ⟨_, _, ⟨T17, L17, k17, n17⟩, -, X17, ⟨Lc17, hQ17, l17, y17, z17⟩, st17⟩ := Jvm.LawKit.callS X16 hx (y := M_16) hown (mvT hZ (hw _ (gw 125 rfl))) (mvT hZ (hw _ (gw 126 rfl))) (mvT hZ (hw _ (gw 127 rfl))) (mvT hZ (hw _ (gw 128 rfl))) (by decide) (backOf (W := 1) (rm18_47 l Z a0 hw [] a2 k5 h0 n0  O0 V6) hZ (hw _ (gw 128 rfl)) (hw _ (gw 127 rfl)) (by decide) (by decide)) (g := (mkF m 32 #[.val (.ref a1), .val (.int (24 : Int32)), .val (.int (20 : Int32))] [(.int (42 : Int32)), (.ref a2), (.ref a1)])) rfl (by rw [hml]; rfl) (argsL := [(.ref a2), (.int (42 : Int32))]) (rest := [(.ref a1)]) (lenOf pd_12 rfl) rfl (by show 2 * 0 + _ ≤ _; exact Nat.le_of_eq rfl) (hb hby d11_32) (fun _ _ => ⟨rfl, e16, (by decide : 0 + 1 ≤ _), (by decide : 0 + 42 ≤ _)⟩)
  dsimp only [Pt.U, Pt.locs, Pt.cells, Pt.slots] at X17 l17 y17 z17 st17 hQ17
  subst l17 y17 z17
  obtain ⟨b18, k19, rfl, u21, u22, u23, Ku24, u25, u26⟩ := hQ17
  have Ou24 : Old Z n0 T17.heap := O0.keep Ku24 all0
  have g_b18 : n0 ≤ b18 := Nat.le_trans (own_z O0) u22
  have sz_b18 : h0.size ≤ b18 := Nat.le_trans (Nat.le_refl _) u22
  have N17 := Fr.app N12 u21
  have f28 : Fld Z T17.heap a1 C_2 "value" "[B" (.ref a2) := (F3.keep Ku24 nin0)
  have f29 : Exa Z T17.heap a1 C_5 := (E_11.keep Ku24)
  obtain ⟨T30, h30, X30, e30, W30, st30⟩ := putF X17 hx hZ hown (host := "") (Or.inl (hw _ (gw 61 rfl))) Via.refl rfl f28 f29 (Or.inl (hw _ (gw 62 rfl))) (hw _ (gw 24 rfl)) (ty := (.array .byte)) (by decide) rfl rfl (g := (mkF m 35 #[.val (.ref a1), .val (.int (24 : Int32)), .val (.int (20 : Int32))] [(.ref b18), (.ref a1)])) rfl rfl (hb hby d11_35)
  have O30 : Old Z n0 h30 := Ou24.wr W30 g_a1
  have Fw30 : Fld Z h30 a1 C_2 "value" "[B" (.ref b18) := Fld.same W30 f28
  have N30 := Fr.snoc X30 N17 g_a1
  obtain ⟨fs, hr, hrun, hended, hW, hsame⟩ := X30.leave (v := none) (fun _ => rfl)
  have f31 : Exa Z h30 a1 C_5 := (Exa.wr W30 f29)
  have f32 : Fld Z h30 a1 C_2 "coder" "B" (.int (0 : Int32)) := (Fld.other W30 (F8.keep Ku24 nin0) (Or.inr (slot_ne (Or.inl (hw _ (gw 59 rfl))) (Or.inl (hw _ (gw 62 rfl))) (by decide) (t := .byte) (t' := (.array .byte)) (by decide) (by decide))))
  have f33 : Fld Z h30 a1 C_2 "count" "I" (.int (19 : Int32)) := (Fld.other W30 (F27.keep Ku24 nin0) (Or.inr (slot_ne (Or.inl (hw _ (gw 78 rfl))) (Or.inl (hw _ (gw 62 rfl))) (by decide) (t := .int) (t' := (.array .byte)) (by decide) (by decide))))
  have f34 : Exa Z h30 b18 "[B" := (Exa.wr W30 u25)
  have f35 : Arv Z h30 b18 k19 .byte (42 : Int32) [(.int (82 : Int32)), (.int (101 : Int32)), (.int (97 : Int32)), (.int (100 : Int32)), (.int (44 : Int32)), (.int (32 : Int32)), (.int (87 : Int32)), (.int (114 : Int32)), (.int (105 : Int32)), (.int (116 : Int32)), (.int (101 : Int32)), (.int (44 : Int32)), (.int (32 : Int32)), (.int (65 : Int32)), (.int (112 : Int32)), (.int (112 : Int32)), (.int (101 : Int32)), (.int (110 : Int32)), (.int (100 : Int32)), (.int (0 : Int32))] (.int (0 : Int32)) := (u26.other W30 (Ne.symm (Nat.ne_of_lt (Nat.lt_of_lt_of_le lt_a1 u22))))
  refine ⟨_, _, pre0 _ ?_, hrun, hended, _, _, rfl, ?_, ⟨_, rfl⟩, hW, hsame.mono (by decide) (by decide)⟩
  · show Steps p.tables e below (s₁.setTop (mkF m 0 #[.val (.ref a1), .val (.int (24 : Int32)), .unset] [])) _
    refine XS.aloadN X0.here hx rfl (hb hby d11_0) rfl rfl ?_
    refine st4 _ ?_
    refine X4.arraylength hx (by rw [e4]; exact Ar7.1) (State.isArrayOf_alike hZ.alike Ar7.2.1) (g := (mkF m 4 #[.val (.ref a1), .val (.int (24 : Int32)), .unset] [(.ref a2)])) rfl rfl (hb hby d11_4) _ ?_
    rw [len_of Sz7 Nn7]
    refine XS.aloadN X4.here hx rfl (hb hby d11_5) rfl rfl ?_
    refine st9 _ ?_
    refine XS.ishr X9.here hx rfl (hb hby d11_9) rfl ?_
    show Steps p.tables e below (T9.setTop (mkF m 10 #[.val (.ref a1), .val (.int (24 : Int32)), .unset] [(.int ((20 : Int32) >>> ((0 : Int32) &&& 31)))])) _
    rw [(by decide +kernel : ((20 : Int32) >>> ((0 : Int32) &&& 31)) = (20 : Int32))]
    refine XS.istoreN X9.here hx rfl (hb hby d11_10) rfl (l' := #[.val (.ref a1), .val (.int (24 : Int32)), .val (.int (20 : Int32))]) rfl ?_
    refine XS.iloadN X9.here hx rfl (hb hby d11_11) rfl ?_
    refine XS.iloadN X9.here hx rfl (hb hby d11_12) rfl ?_
    refine XS.isub X9.here hx rfl (hb hby d11_13) rfl ?_
    show Steps p.tables e below (T9.setTop (mkF m 14 #[.val (.ref a1), .val (.int (24 : Int32)), .val (.int (20 : Int32))] [(.int ((24 : Int32) - (20 : Int32)))])) _
    rw [(by decide +kernel : ((24 : Int32) - (20 : Int32)) = (4 : Int32))]
    refine XS.ifNo X9.here hx rfl (hb hby d11_14) rfl ((if0 _ _).trans (tlt (by decide +kernel : (0 : Int32) < (4 : Int32))).2.2.2) ?_
    refine XS.aloadN X9.here hx rfl (hb hby d11_17) rfl rfl ?_
    refine XS.aloadN X9.here hx rfl (hb hby d11_18) rfl rfl ?_
    refine st10 _ ?_
    refine XS.aloadN X10.here hx rfl (hb hby d11_22) rfl rfl ?_
    refine XS.iloadN X10.here hx rfl (hb hby d11_23) rfl ?_
    refine st12.trans ?_
    refine XS.aloadN X12.here hx rfl (hb hby d11_27) rfl rfl ?_
    show Steps p.tables e below (T12.setTop (mkF m 28 #[.val (.ref a1), .val (.int (24 : Int32)), .val (.int (20 : Int32))] [(.ref a1), (.int (42 : Int32)), (.ref a2), (.ref a1)])) _
    refine st16 _ ?_
    refine XS.ishl X16.here hx rfl (hb hby d11_31) rfl ?_
    show Steps p.tables e below (T16.setTop (mkF m 32 #[.val (.ref a1), .val (.int (24 : Int32)), .val (.int (20 : Int32))] [(.int ((42 : Int32) <<< ((0 : Int32) &&& 31))), (.ref a2), (.ref a1)])) _
    rw [(by decide +kernel : ((42 : Int32) <<< ((0 : Int32) &&& 31)) = (42 : Int32))]
    refine st17 _ ?_
    refine st30 _ ?_
    show Steps p.tables e below (T30.setTop (mkF m 38 #[.val (.ref a1), .val (.int (24 : Int32)), .val (.int (20 : Int32))] [])) _
    exact X30.returnOut hx Bd.returns (hb hby d11_38) hr
  · show Q11_43 Z _ _ _ h0 n0 _ T30.heap _
    rw [e30]
    exact ⟨b18, k19, rfl, N30, sz_b18, (Nat.lt_of_lt_of_le u23 (Keep.of_wr W30).1), (((Keep.refl h0 [a1]).trans Ku24 all0).wr W30 (Or.inl (List.mem_of_getElem? (i := 0) rfl))), f31, f32, f33, Fw30, f34, f35⟩
theorem ef_rm14_50 (m : MethodId) (x0 : Addr) (x1 : Addr) : entryFrame m #[(.ref x0), (.ref x1), (.int (19 : Int32)), (.int (0 : Int32))] 4 = mkF m 0 #[.val (.ref x0), .val (.ref x1), .val (.int (19 : Int32)), .val (.int (0 : Int32))] [] := by first | (simp [entryFrame, mkF, argsToLocals, Value.category]; done) | rfl
def Q14_50 (Z : State) (a1 : Addr) (a2 : Addr) (p4 : Int32) (a12 : Addr) (k16 : ClassId) (k19 : ClassId) (h0 : Heap) (n0 : Nat) (v : Option Value) (h : Heap) (L : List Loc) : Prop := (v = none ∧ Fr n0 L ∧ Keep h0 h [a2] ∧ Exa Z h a2 "[B" ∧ Arv Z h a2 k19 .byte (42 : Int32) [(.int (82 : Int32)), (.int (101 : Int32)), (.int (97 : Int32)), (.int (100 : Int32)), (.int (44 : Int32)), (.int (32 : Int32)), (.int (87 : Int32)), (.int (114 : Int32)), (.int (105 : Int32)), (.int (116 : Int32)), (.int (101 : Int32)), (.int (44 : Int32)), (.int (32 : Int32)), (.int (65 : Int32)), (.int (112 : Int32)), (.int (112 : Int32)), (.int (101 : Int32)), (.int (110 : Int32)), (.int (100 : Int32)), (.int (32 : Int32)), (.int (97 : Int32)), (.int (110 : Int32)), (.int (100 : Int32)), (.int (32 : Int32))] (.int (0 : Int32)))
set_option maxRecDepth 65536 in
set_option maxHeartbeats 40000000 in
theorem rm14_50 (l : Launch) (Z : State) (a0 : Array Value) (hw : ∀ d ∈ own_ws, d.before a0 Z = true) (ws : List Jvm.Cond) (a1 : Addr) (a2 : Addr) (p4 : Int32) (a12 : Addr) (k16 : ClassId) (k19 : ClassId) (h0 : Heap) (n0 : Nat) (O0 : Old Z n0 h0) (E_3 : Exa Z h0 a1 C_4) (S_5 : Sta Z Z.heap C_4 "COMPACT_STRINGS" "Z" (.int p4)) (hk6 : ¬ (p4 = (0 : Int32))) (F7 : Fld Z h0 a1 C_4 "coder" "B" (.int (0 : Int32))) (F13 : Fld Z h0 a1 C_4 "value" "[B" (.ref a12)) (V17 : Arv Z h0 a12 k16 .byte (5 : Int32) [(.int (32 : Int32)), (.int (97 : Int32)), (.int (110 : Int32)), (.int (100 : Int32)), (.int (32 : Int32))] (.int 0)) (V20 : Arv Z h0 a2 k19 .byte (42 : Int32) [(.int (82 : Int32)), (.int (101 : Int32)), (.int (97 : Int32)), (.int (100 : Int32)), (.int (44 : Int32)), (.int (32 : Int32)), (.int (87 : Int32)), (.int (114 : Int32)), (.int (105 : Int32)), (.int (116 : Int32)), (.int (101 : Int32)), (.int (44 : Int32)), (.int (32 : Int32)), (.int (65 : Int32)), (.int (112 : Int32)), (.int (112 : Int32)), (.int (101 : Int32)), (.int (110 : Int32)), (.int (100 : Int32)), (.int (0 : Int32))] (.int (0 : Int32))) (E_21 : Exa Z h0 a2 "[B") (g_a2 : n0 ≤ a2) :
    MetFree l M_5 (head1 (Jvm.Cond.code M_5 jdk_42_method_147_code 4 none :: ws) ({ frames := 1, cells := 0, slots := 0, locals := 18 } : Room)) (fun a U => a = #[(.ref a1), (.ref a2), (.int (19 : Int32)), (.int (0 : Int32))] ∧ Z.Warmed39 U.vm ∧ U.heap = h0) (fun _ _ _ _ _ => True) (fun _ U o U' => ∃ v L, o = .returned v ∧ Q14_50 Z a1 a2 p4 a12 k16 k19 h0 n0 v U'.heap L ∧ FrameEnd U o U' L ({ frames := 1, cells := 0, slots := 0, locals := 18 } : Room).cells ({ frames := 1, cells := 0, slots := 0, locals := 18 } : Room).slots) := by
  refine MetFree.of_bodySF (plainFor_of_name pn_1) hisR ?_
  intro p e s m args below meth c s₁ Bd hml0 hP hK
  obtain ⟨rfl, hZ, hh⟩ := hP
  have hx := Bd.exec
  have hby := Bd.bytes
  have hml : c.maxLocals = 4 := hml0
  have hown : s.vm.findClass "java/lang/String" = some m.cls := findClass_of_methodNamed Bd.named
  have hnm := (name_of_methodNamed Bd.named Bd.method).1
  have X0 : Stand p l e ({ frames := 1, cells := 0, slots := 0, locals := 18 } : Room) s m #[(.ref a1), (.ref a2), (.int (19 : Int32)), (.int (0 : Int32))] below meth c s₁ [] 0 0 := Stand.of_body Bd
  have e0 : s₁.heap = h0 := by rw [← hh, Bd.state]; rfl
  have N0 := Fr.nil n0
  have pre0 : ∀ t, Steps p.tables e below (s₁.setTop (mkF m 0 #[.val (.ref a1), .val (.ref a2), .val (.int (19 : Int32)), .val (.int (0 : Int32))] [])) t → Steps p.tables e below (s₁.setTop (entryFrame m #[(.ref a1), (.ref a2), (.int (19 : Int32)), (.int (0 : Int32))] 4)) t := fun t k => castTop (ef_rm14_50 m a1 a2) k
  obtain ⟨cq8, kq8, q8a, q8b, q8c⟩ := isOf hZ e0 E_3
  obtain ⟨_, _, ⟨T8, L8, k8, n8⟩, -, X8, ⟨Lc8, hQ8, l8, y8, z8⟩, st8⟩ := X0.virtualBack hx (y := M_1) (z := M_1) hown (mvT hZ (hw _ (gw 48 rfl))) (mvT hZ (hw _ (gw 49 rfl))) (notFace_of_selects (args := #[]) (mvT hZ (hw _ (gw 51 rfl)))) (mvT hZ (hw _ (gw 51 rfl))) (mvT hZ (hw _ (gw 50 rfl))) (by decide) (backOf (W := 0) (rm7_18 l Z a0 hw [] a1 p4 h0 n0  O0 S_5 hk6 F7) hZ (hw _ (gw 52 rfl)) (hw _ (gw 44 rfl)) (by decide) (by decide)) q8a q8c (g := (mkF m 1 #[.val (.ref a1), .val (.ref a2), .val (.int (19 : Int32)), .val (.int (0 : Int32))] [(.ref a1)])) rfl (by rw [hml]; rfl) (Steps.refl _) (argsL := []) (rest := []) (lenOf pd_1 rfl) rfl (by show 2 * 0 + _ ≤ _; exact Nat.le_of_eq rfl) (hb hby d14_1) (fun _ _ => ⟨rfl, e0, (by decide : 0 + 0 ≤ _), (by decide : 0 + 0 ≤ _)⟩)
  dsimp only [Pt.U, Pt.locs, Pt.cells, Pt.slots] at X8 l8 y8 z8 st8 hQ8
  subst l8 y8 z8
  obtain ⟨rfl, u10, u11⟩ := hQ8
  have N8 := Fr.app N0 u10
  obtain ⟨T14, X14, e14, st14⟩ := getF X8 hx hZ hown (host := "") (Or.inl (hw _ (gw 46 rfl))) Via.refl u11 F13 (g := (mkF m 9 #[.val (.ref a1), .val (.ref a2), .val (.int (19 : Int32)), .val (.int (0 : Int32))] [(.ref a1)])) rfl rfl (hb hby d14_9)
  obtain ⟨T15, X15, e15, st15⟩ := getF X14 hx hZ hown (host := "") (Or.inl (hw _ (gw 46 rfl))) Via.refl e14 F13 (g := (mkF m 18 #[.val (.ref a1), .val (.ref a2), .val (.int (19 : Int32)), .val (.int (0 : Int32))] [(.ref a1), (.int (19 : Int32)), (.ref a2), (.int (0 : Int32)), (.ref a12)])) rfl rfl (hb hby d14_18)
  obtain ⟨cl18, Ar18, -, Sz18, Nn18, -, -⟩ := id V17
  have Vp22 : Arv Z h0 a2 k19 .byte (42 : Int32) [(.int (82 : Int32)), (.int (101 : Int32)), (.int (97 : Int32)), (.int (100 : Int32)), (.int (44 : Int32)), (.int (32 : Int32)), (.int (87 : Int32)), (.int (114 : Int32)), (.int (105 : Int32)), (.int (116 : Int32)), (.int (101 : Int32)), (.int (44 : Int32)), (.int (32 : Int32)), (.int (65 : Int32)), (.int (112 : Int32)), (.int (112 : Int32)), (.int (101 : Int32)), (.int (110 : Int32)), (.int (100 : Int32)), (.int (0 : Int32)), (.int (0 : Int32)), (.int (0 : Int32)), (.int (0 : Int32)), (.int (0 : Int32))] (.int (0 : Int32)) := V20.pad (pad_rep [(.int (82 : Int32)), (.int (101 : Int32)), (.int (97 : Int32)), (.int (100 : Int32)), (.int (44 : Int32)), (.int (32 : Int32)), (.int (87 : Int32)), (.int (114 : Int32)), (.int (105 : Int32)), (.int (116 : Int32)), (.int (101 : Int32)), (.int (44 : Int32)), (.int (32 : Int32)), (.int (65 : Int32)), (.int (112 : Int32)), (.int (112 : Int32)), (.int (101 : Int32)), (.int (110 : Int32)), (.int (100 : Int32)), (.int (0 : Int32))] (.int (0 : Int32)) 4)
  obtain ⟨T23, h23, L23, X23, e23, N23, Ku23, V23, st23⟩ := cpA X15 hx hZ hown (hw _ (gw 100 rfl)) (hw _ (gw 103 rfl)) (hw _ (gw 101 rfl)) (hw _ (gw 102 rfl)) e15 (sp := (0 : Int32)) (dp := (19 : Int32)) (nn := (5 : Int32)) (us := [(.int (32 : Int32)), (.int (97 : Int32)), (.int (110 : Int32)), (.int (100 : Int32)), (.int (32 : Int32))]) V17 Vp22 (Or.inl ⟨rfl, rfl⟩) (by decide +kernel) (by decide +kernel) (by decide +kernel) (by decide +kernel) (by decide +kernel) rfl (Nat.le_of_ble_eq_true rfl) N8 g_a2 (g := (mkF m 22 #[.val (.ref a1), .val (.ref a2), .val (.int (19 : Int32)), .val (.int (0 : Int32))] [(.int (5 : Int32)), (.int (19 : Int32)), (.ref a2), (.int (0 : Int32)), (.ref a12)])) rfl (by rw [hml]; rfl) rfl (hb hby d14_22) (by decide) (W := 0) (by show 2 * 0 + _ ≤ _; exact Nat.le_of_eq rfl) (by decide +kernel)
  have Ou23 : Old Z n0 h23 := O0.keep Ku23 (allS g_a2 all0)
  have Vc23 : Arv Z h23 a2 k19 .byte (42 : Int32) [(.int (82 : Int32)), (.int (101 : Int32)), (.int (97 : Int32)), (.int (100 : Int32)), (.int (44 : Int32)), (.int (32 : Int32)), (.int (87 : Int32)), (.int (114 : Int32)), (.int (105 : Int32)), (.int (116 : Int32)), (.int (101 : Int32)), (.int (44 : Int32)), (.int (32 : Int32)), (.int (65 : Int32)), (.int (112 : Int32)), (.int (112 : Int32)), (.int (101 : Int32)), (.int (110 : Int32)), (.int (100 : Int32)), (.int (32 : Int32)), (.int (97 : Int32)), (.int (110 : Int32)), (.int (100 : Int32)), (.int (32 : Int32))] (.int (0 : Int32)) := V23
  obtain ⟨fs, hr, hrun, hended, hW, hsame⟩ := X23.leave (v := none) (fun _ => rfl)
  have f24 : Exa Z h23 a2 "[B" := (E_21.keep Ku23)
  refine ⟨_, _, pre0 _ ?_, hrun, hended, _, _, rfl, ?_, ⟨_, rfl⟩, hW, hsame.mono (by decide) (by decide)⟩
  · show Steps p.tables e below (s₁.setTop (mkF m 0 #[.val (.ref a1), .val (.ref a2), .val (.int (19 : Int32)), .val (.int (0 : Int32))] [])) _
    refine XS.aloadN X0.here hx rfl (hb hby d14_0) rfl rfl ?_
    refine st8.trans ?_
    refine XS.iloadN X8.here hx rfl (hb hby d14_4) rfl ?_
    refine XS.icmpNo X8.here hx rfl (hb hby d14_5) rfl (teq (by decide +kernel : (0 : Int32) = (0 : Int32))).2 ?_
    refine XS.aloadN X8.here hx rfl (hb hby d14_8) rfl rfl ?_
    refine st14 _ ?_
    refine XS.iconst X14.here hx rfl (hb hby d14_12) ?_
    refine XS.aloadN X14.here hx rfl (hb hby d14_13) rfl rfl ?_
    refine XS.iloadN X14.here hx rfl (hb hby d14_14) rfl ?_
    show Steps p.tables e below (T14.setTop (mkF m 15 #[.val (.ref a1), .val (.ref a2), .val (.int (19 : Int32)), .val (.int (0 : Int32))] [(.int (19 : Int32)), (.ref a2), (.int (0 : Int32)), (.ref a12)])) _
    refine XS.iloadN X14.here hx rfl (hb hby d14_15) rfl ?_
    refine XS.ishl X14.here hx rfl (hb hby d14_16) rfl ?_
    show Steps p.tables e below (T14.setTop (mkF m 17 #[.val (.ref a1), .val (.ref a2), .val (.int (19 : Int32)), .val (.int (0 : Int32))] [(.int ((19 : Int32) <<< ((0 : Int32) &&& 31))), (.ref a2), (.int (0 : Int32)), (.ref a12)])) _
    rw [(by decide +kernel : ((19 : Int32) <<< ((0 : Int32) &&& 31)) = (19 : Int32))]
    refine XS.aloadN X14.here hx rfl (hb hby d14_17) rfl rfl ?_
    refine st15 _ ?_
    refine X15.arraylength hx (by rw [e15]; exact Ar18.1) (State.isArrayOf_alike hZ.alike Ar18.2.1) (g := (mkF m 21 #[.val (.ref a1), .val (.ref a2), .val (.int (19 : Int32)), .val (.int (0 : Int32))] [(.ref a12), (.int (19 : Int32)), (.ref a2), (.int (0 : Int32)), (.ref a12)])) rfl rfl (hb hby d14_21) _ ?_
    rw [len_of Sz18 Nn18]
    refine st23 _ ?_
    refine XS.goto X23.here hx rfl (pc0 := 25) (pc' := 43) rfl (hb hby d14_25) (by decide) (by decide) ?_
    show Steps p.tables e below (T23.setTop (mkF m 43 #[.val (.ref a1), .val (.ref a2), .val (.int (19 : Int32)), .val (.int (0 : Int32))] [])) _
    exact X23.returnOut hx Bd.returns (hb hby d14_43) hr
  · show Q14_50 Z _ _ _ _ _ _ h0 n0 _ T23.heap _
    rw [e23]
    exact ⟨rfl, N23, ((Keep.refl h0 [a2]).trans Ku23 (allS (Or.inl (List.mem_of_getElem? (i := 0) rfl)) all0)), f24, Vc23⟩
theorem ef_rm12_49 (m : MethodId) (x0 : Addr) (x2 : Addr) : entryFrame m #[(.ref x0), (.int (19 : Int32)), (.ref x2)] 3 = mkF m 0 #[.val (.ref x0), .val (.int (19 : Int32)), .val (.ref x2)] [] := by first | (simp [entryFrame, mkF, argsToLocals, Value.category]; done) | rfl
def Q12_49 (Z : State) (a1 : Addr) (a2 : Addr) (p4 : Int32) (a14 : Addr) (a18 : Addr) (k20 : ClassId) (k22 : ClassId) (h0 : Heap) (n0 : Nat) (v : Option Value) (h : Heap) (L : List Loc) : Prop := (v = none ∧ Fr n0 L ∧ Keep h0 h [a14] ∧ Exa Z h a14 "[B" ∧ Arv Z h a14 k22 .byte (42 : Int32) [(.int (82 : Int32)), (.int (101 : Int32)), (.int (97 : Int32)), (.int (100 : Int32)), (.int (44 : Int32)), (.int (32 : Int32)), (.int (87 : Int32)), (.int (114 : Int32)), (.int (105 : Int32)), (.int (116 : Int32)), (.int (101 : Int32)), (.int (44 : Int32)), (.int (32 : Int32)), (.int (65 : Int32)), (.int (112 : Int32)), (.int (112 : Int32)), (.int (101 : Int32)), (.int (110 : Int32)), (.int (100 : Int32)), (.int (32 : Int32)), (.int (97 : Int32)), (.int (110 : Int32)), (.int (100 : Int32)), (.int (32 : Int32))] (.int (0 : Int32)))
set_option maxRecDepth 65536 in
set_option maxHeartbeats 40000000 in
theorem rm12_49 (l : Launch) (Z : State) (a0 : Array Value) (hw : ∀ d ∈ own_ws, d.before a0 Z = true) (ws : List Jvm.Cond) (a1 : Addr) (a2 : Addr) (p4 : Int32) (a14 : Addr) (a18 : Addr) (k20 : ClassId) (k22 : ClassId) (h0 : Heap) (n0 : Nat) (O0 : Old Z n0 h0) (E_3 : Exa Z h0 a1 C_5) (S_5 : Sta Z Z.heap C_4 "COMPACT_STRINGS" "Z" (.int p4)) (hk6 : ¬ (p4 = (0 : Int32))) (F7 : Fld Z h0 a1 C_2 "coder" "B" (.int (0 : Int32))) (E_8 : Exa Z h0 a2 C_4) (F9 : Fld Z h0 a2 C_4 "coder" "B" (.int (0 : Int32))) (F15 : Fld Z h0 a1 C_2 "value" "[B" (.ref a14)) (F19 : Fld Z h0 a2 C_4 "value" "[B" (.ref a18)) (V21 : Arv Z h0 a18 k20 .byte (5 : Int32) [(.int (32 : Int32)), (.int (97 : Int32)), (.int (110 : Int32)), (.int (100 : Int32)), (.int (32 : Int32))] (.int 0)) (V23 : Arv Z h0 a14 k22 .byte (42 : Int32) [(.int (82 : Int32)), (.int (101 : Int32)), (.int (97 : Int32)), (.int (100 : Int32)), (.int (44 : Int32)), (.int (32 : Int32)), (.int (87 : Int32)), (.int (114 : Int32)), (.int (105 : Int32)), (.int (116 : Int32)), (.int (101 : Int32)), (.int (44 : Int32)), (.int (32 : Int32)), (.int (65 : Int32)), (.int (112 : Int32)), (.int (112 : Int32)), (.int (101 : Int32)), (.int (110 : Int32)), (.int (100 : Int32)), (.int (0 : Int32))] (.int (0 : Int32))) (E_24 : Exa Z h0 a14 "[B") (g_a14 : n0 ≤ a14) :
    MetFree l M_6 (head1 (Jvm.Cond.code M_6 jdk_68_method_73_code 3 none :: ws) ({ frames := 2, cells := 0, slots := 0, locals := 33 } : Room)) (fun a U => a = #[(.ref a1), (.int (19 : Int32)), (.ref a2)] ∧ Z.Warmed39 U.vm ∧ U.heap = h0) (fun _ _ _ _ _ => True) (fun _ U o U' => ∃ v L, o = .returned v ∧ Q12_49 Z a1 a2 p4 a14 a18 k20 k22 h0 n0 v U'.heap L ∧ FrameEnd U o U' L ({ frames := 2, cells := 0, slots := 0, locals := 33 } : Room).cells ({ frames := 2, cells := 0, slots := 0, locals := 33 } : Room).slots) := by
  refine MetFree.of_bodySF (plainFor_of_name pn_2) hisR ?_
  intro p e s m args below meth c s₁ Bd hml0 hP hK
  obtain ⟨rfl, hZ, hh⟩ := hP
  have hx := Bd.exec
  have hby := Bd.bytes
  have hml : c.maxLocals = 3 := hml0
  have hown : s.vm.findClass "java/lang/AbstractStringBuilder" = some m.cls := findClass_of_methodNamed Bd.named
  have hnm := (name_of_methodNamed Bd.named Bd.method).1
  have X0 : Stand p l e ({ frames := 2, cells := 0, slots := 0, locals := 33 } : Room) s m #[(.ref a1), (.int (19 : Int32)), (.ref a2)] below meth c s₁ [] 0 0 := Stand.of_body Bd
  have e0 : s₁.heap = h0 := by rw [← hh, Bd.state]; rfl
  have N0 := Fr.nil n0
  have pre0 : ∀ t, Steps p.tables e below (s₁.setTop (mkF m 0 #[.val (.ref a1), .val (.int (19 : Int32)), .val (.ref a2)] [])) t → Steps p.tables e below (s₁.setTop (entryFrame m #[(.ref a1), (.int (19 : Int32)), (.ref a2)] 3)) t := fun t k => castTop (ef_rm12_49 m a1 a2) k
  obtain ⟨cq10, q10, q10'⟩ := E_3.cell
  obtain ⟨_, _, ⟨T10, L10, k10, n10⟩, -, X10, ⟨Lc10, hQ10, l10, y10, z10⟩, st10⟩ := X0.privateBack hx (y := M_4) hown (mvT hZ (hw _ (gw 89 rfl))) (mvT hZ (hw _ (gw 90 rfl))) (own_selSelf (args := #[]) (mvT hZ (hw _ (gw 92 rfl))) (Cond.privateMethod_at (mvP hZ (hw _ (gw 91 rfl)) (args := #[]))) (mvT hZ (hw _ (gw 90 rfl))) (by decide)) (Cond.privateMethod_at (mvP hZ (hw _ (gw 91 rfl)) (args := #[]))) (mvT hZ (hw _ (gw 93 rfl))) (by decide) (backOf (W := 0) (rm13_21 l Z a0 hw [] a1 a2 p4 h0 n0  O0 S_5 hk6 F7 E_8 F9) hZ (hw _ (gw 93 rfl)) (hw _ (gw 35 rfl)) (by decide) (by decide)) (g := (mkF m 2 #[.val (.ref a1), .val (.int (19 : Int32)), .val (.ref a2)] [(.ref a2), (.ref a1)])) rfl (by rw [hml]; rfl) (Steps.refl _) (a := a1) (by rw [e0]; exact q10) q10' (argsL := [(.ref a2)]) (rest := []) (lenOf pd_4 rfl) rfl (by show 2 * 0 + _ ≤ _; exact Nat.le_of_eq rfl) (hb hby d12_2) (fun _ _ => ⟨rfl, e0, (by decide : 0 + 0 ≤ _), (by decide : 0 + 0 ≤ _)⟩)
  dsimp only [Pt.U, Pt.locs, Pt.cells, Pt.slots] at X10 l10 y10 z10 st10 hQ10
  subst l10 y10 z10
  obtain ⟨rfl, u12, u13⟩ := hQ10
  have N10 := Fr.app N0 u12
  obtain ⟨T16, X16, e16, st16⟩ := getF X10 hx hZ hown (host := "") (Or.inl (hw _ (gw 61 rfl))) Via.refl u13 F15 (g := (mkF m 7 #[.val (.ref a1), .val (.int (19 : Int32)), .val (.ref a2)] [(.ref a1), (.ref a2)])) rfl rfl (hb hby d12_7)
  obtain ⟨T17, X17, e17, st17⟩ := getF X16 hx hZ hown (host := "") (Or.inl (hw _ (gw 58 rfl))) Via.refl e16 F7 (g := (mkF m 12 #[.val (.ref a1), .val (.int (19 : Int32)), .val (.ref a2)] [(.ref a1), (.int (19 : Int32)), (.ref a14), (.ref a2)])) rfl rfl (hb hby d12_12)
  obtain ⟨cq25, kq25, q25a, q25b, q25c⟩ := isOf hZ e17 E_8
  obtain ⟨_, _, ⟨T25, L25, k25, n25⟩, -, X25, ⟨Lc25, hQ25, l25, y25, z25⟩, st25⟩ := X17.virtualBack hx (y := M_5) (z := M_5) hown (mvT hZ (hw _ (gw 95 rfl))) (mvT hZ (hw _ (gw 96 rfl))) (notFace_of_selects (args := #[]) (mvT hZ (hw _ (gw 98 rfl)))) (mvT hZ (hw _ (gw 98 rfl))) (mvT hZ (hw _ (gw 97 rfl))) (by decide) (backOf (W := 0) (rm14_50 l Z a0 hw [] a2 a14 p4 a18 k20 k22 h0 n0  O0 E_8 S_5 hk6 F9 F19 V21 V23 E_24 g_a14) hZ (hw _ (gw 99 rfl)) (hw _ (gw 44 rfl)) (by decide) (by decide)) q25a q25c (g := (mkF m 15 #[.val (.ref a1), .val (.int (19 : Int32)), .val (.ref a2)] [(.int (0 : Int32)), (.int (19 : Int32)), (.ref a14), (.ref a2)])) rfl (by rw [hml]; rfl) (Steps.refl _) (argsL := [(.ref a14), (.int (19 : Int32)), (.int (0 : Int32))]) (rest := []) (lenOf pd_5 rfl) rfl (by show 2 * 0 + _ ≤ _; exact Nat.le_of_eq rfl) (hb hby d12_15) (fun _ _ => ⟨rfl, e17, (by decide : 0 + 0 ≤ _), (by decide : 0 + 0 ≤ _)⟩)
  dsimp only [Pt.U, Pt.locs, Pt.cells, Pt.slots] at X25 l25 y25 z25 st25 hQ25
  subst l25 y25 z25
  obtain ⟨rfl, u27, Ku28, u29, u30⟩ := hQ25
  have Ou28 : Old Z n0 T25.heap := O0.keep Ku28 (allS g_a14 all0)
  have N25 := Fr.app N10 u27
  obtain ⟨fs, hr, hrun, hended, hW, hsame⟩ := X25.leave (v := none) (fun _ => rfl)
  refine ⟨_, _, pre0 _ ?_, hrun, hended, _, _, rfl, ?_, ⟨_, rfl⟩, hW, hsame.mono (by decide) (by decide)⟩
  · show Steps p.tables e below (s₁.setTop (mkF m 0 #[.val (.ref a1), .val (.int (19 : Int32)), .val (.ref a2)] [])) _
    refine XS.aloadN X0.here hx rfl (hb hby d12_0) rfl rfl ?_
    refine XS.aloadN X0.here hx rfl (hb hby d12_1) rfl rfl ?_
    refine st10.trans ?_
    refine XS.aloadN X10.here hx rfl (hb hby d12_5) rfl rfl ?_
    refine XS.aloadN X10.here hx rfl (hb hby d12_6) rfl rfl ?_
    refine st16 _ ?_
    refine XS.iloadN X16.here hx rfl (hb hby d12_10) rfl ?_
    refine XS.aloadN X16.here hx rfl (hb hby d12_11) rfl rfl ?_
    refine st17 _ ?_
    show Steps p.tables e below (T17.setTop (mkF m 15 #[.val (.ref a1), .val (.int (19 : Int32)), .val (.ref a2)] [(.int (0 : Int32)), (.int (19 : Int32)), (.ref a14), (.ref a2)])) _
    refine st25.trans ?_
    show Steps p.tables e below (T25.setTop (mkF m 18 #[.val (.ref a1), .val (.int (19 : Int32)), .val (.ref a2)] [])) _
    exact X25.returnOut hx Bd.returns (hb hby d12_18) hr
  · show Q12_49 Z _ _ _ _ _ _ _ h0 n0 _ T25.heap _
    exact ⟨rfl, N25, ((Keep.refl h0 [a14]).trans Ku28 (allS (Or.inl (List.mem_of_getElem? (i := 0) rfl)) all0)), u29, u30⟩
theorem ef_rm10_41 (m : MethodId) (x0 : Addr) (x1 : Addr) : entryFrame m #[(.ref x0), (.ref x1)] 3 = mkF m 0 #[.val (.ref x0), .val (.ref x1), .unset] [] := by first | (simp [entryFrame, mkF, argsToLocals, Value.category]; done) | rfl
def Q10_41 (Z : State) (a1 : Addr) (a2 : Addr) (a4 : Addr) (k6 : ClassId) (p8 : Int32) (a19 : Addr) (k21 : ClassId) (h0 : Heap) (n0 : Nat) (v : Option Value) (h : Heap) (L : List Loc) : Prop := (∃ (b25 : Addr) (k26 : ClassId), v = some (.ref a1) ∧ Fr n0 L ∧ h0.size ≤ b25 ∧ b25 < h.size ∧ Keep h0 h [a1] ∧ Exa Z h a1 C_5 ∧ Fld Z h a1 C_2 "coder" "B" (.int (0 : Int32)) ∧ Fld Z h a1 C_2 "count" "I" (.int (24 : Int32)) ∧ Fld Z h a1 C_2 "value" "[B" (.ref b25) ∧ Exa Z h b25 "[B" ∧ Arv Z h b25 k26 .byte (42 : Int32) [(.int (82 : Int32)), (.int (101 : Int32)), (.int (97 : Int32)), (.int (100 : Int32)), (.int (44 : Int32)), (.int (32 : Int32)), (.int (87 : Int32)), (.int (114 : Int32)), (.int (105 : Int32)), (.int (116 : Int32)), (.int (101 : Int32)), (.int (44 : Int32)), (.int (32 : Int32)), (.int (65 : Int32)), (.int (112 : Int32)), (.int (112 : Int32)), (.int (101 : Int32)), (.int (110 : Int32)), (.int (100 : Int32)), (.int (32 : Int32)), (.int (97 : Int32)), (.int (110 : Int32)), (.int (100 : Int32)), (.int (32 : Int32))] (.int (0 : Int32)))
set_option maxRecDepth 65536 in
set_option maxHeartbeats 40000000 in
theorem rm10_41 (l : Launch) (Z : State) (a0 : Array Value) (hw : ∀ d ∈ own_ws, d.before a0 Z = true) (ws : List Jvm.Cond) (a1 : Addr) (a2 : Addr) (a4 : Addr) (k6 : ClassId) (p8 : Int32) (a19 : Addr) (k21 : ClassId) (h0 : Heap) (n0 : Nat) (O0 : Old Z n0 h0) (E_3 : Exa Z h0 a2 C_4) (F5 : Fld Z h0 a2 C_4 "value" "[B" (.ref a4)) (V7 : Arv Z h0 a4 k6 .byte (5 : Int32) [(.int (32 : Int32)), (.int (97 : Int32)), (.int (110 : Int32)), (.int (100 : Int32)), (.int (32 : Int32))] (.int 0)) (S_9 : Sta Z Z.heap C_4 "COMPACT_STRINGS" "Z" (.int p8)) (hk10 : ¬ (p8 = (0 : Int32))) (F11 : Fld Z h0 a2 C_4 "coder" "B" (.int (0 : Int32))) (F16 : Fld Z h0 a1 C_2 "count" "I" (.int (19 : Int32))) (E_18 : Exa Z h0 a1 C_5) (F20 : Fld Z h0 a1 C_2 "value" "[B" (.ref a19)) (V22 : Arv Z h0 a19 k21 .byte (20 : Int32) [(.int (82 : Int32)), (.int (101 : Int32)), (.int (97 : Int32)), (.int (100 : Int32)), (.int (44 : Int32)), (.int (32 : Int32)), (.int (87 : Int32)), (.int (114 : Int32)), (.int (105 : Int32)), (.int (116 : Int32)), (.int (101 : Int32)), (.int (44 : Int32)), (.int (32 : Int32)), (.int (65 : Int32)), (.int (112 : Int32)), (.int (112 : Int32)), (.int (101 : Int32)), (.int (110 : Int32)), (.int (100 : Int32))] (.int (0 : Int32))) (F23 : Fld Z h0 a1 C_2 "coder" "B" (.int (0 : Int32))) (g_a1 : n0 ≤ a1) (lt_a1 : a1 < h0.size) (hne40 : a2 ≠ a1) (hne43 : a4 ≠ a1) :
    MetFree l M_7 (head1 (Jvm.Cond.code M_7 jdk_68_method_22_code 3 (some (.object "java/lang/AbstractStringBuilder")) :: ws) ({ frames := 4, cells := 1, slots := 42, locals := 62 } : Room)) (fun a U => a = #[(.ref a1), (.ref a2)] ∧ Z.Warmed39 U.vm ∧ U.heap = h0) (fun _ _ _ _ _ => True) (fun _ U o U' => ∃ v L, o = .returned v ∧ Q10_41 Z a1 a2 a4 k6 p8 a19 k21 h0 n0 v U'.heap L ∧ FrameEnd U o U' L ({ frames := 4, cells := 1, slots := 42, locals := 62 } : Room).cells ({ frames := 4, cells := 1, slots := 42, locals := 62 } : Room).slots) := by
  refine MetFree.of_bodySF (plainFor_of_name pn_2) hisR ?_
  intro p e s m args below meth c s₁ Bd hml0 hP hK
  obtain ⟨rfl, hZ, hh⟩ := hP
  have hx := Bd.exec
  have hby := Bd.bytes
  have hml : c.maxLocals = 3 := hml0
  have hown : s.vm.findClass "java/lang/AbstractStringBuilder" = some m.cls := findClass_of_methodNamed Bd.named
  have hnm := (name_of_methodNamed Bd.named Bd.method).1
  have X0 : Stand p l e ({ frames := 4, cells := 1, slots := 42, locals := 62 } : Room) s m #[(.ref a1), (.ref a2)] below meth c s₁ [] 0 0 := Stand.of_body Bd
  have e0 : s₁.heap = h0 := by rw [← hh, Bd.state]; rfl
  have N0 := Fr.nil n0
  have pre0 : ∀ t, Steps p.tables e below (s₁.setTop (mkF m 0 #[.val (.ref a1), .val (.ref a2), .unset] [])) t → Steps p.tables e below (s₁.setTop (entryFrame m #[(.ref a1), (.ref a2)] 3)) t := fun t k => castTop (ef_rm10_41 m a1 a2) k
  obtain ⟨cq12, kq12, q12a, q12b, q12c⟩ := isOf hZ e0 E_3
  obtain ⟨_, _, ⟨T12, L12, k12, n12⟩, -, X12, ⟨Lc12, hQ12, l12, y12, z12⟩, st12⟩ := X0.virtualBack hx (y := M_2) (z := M_2) hown (mvT hZ (hw _ (gw 40 rfl))) (mvT hZ (hw _ (gw 41 rfl))) (notFace_of_selects (args := #[]) (mvT hZ (hw _ (gw 43 rfl)))) (mvT hZ (hw _ (gw 43 rfl))) (mvT hZ (hw _ (gw 42 rfl))) (by decide) (backOf (W := 0) (rm6_42 l Z a0 hw [] a2 a4 k6 p8 h0 n0  O0 F5 V7 E_3 S_9 hk10 F11) hZ (hw _ (gw 45 rfl)) (hw _ (gw 44 rfl)) (by decide) (by decide)) q12a q12c (g := (mkF m 10 #[.val (.ref a1), .val (.ref a2), .unset] [(.ref a2)])) rfl (by rw [hml]; rfl) (Steps.refl _) (argsL := []) (rest := []) (lenOf pd_2 rfl) rfl (by show 2 * 0 + _ ≤ _; exact Nat.le_of_eq rfl) (hb hby d10_10) (fun _ _ => ⟨rfl, e0, (by decide : 0 + 0 ≤ _), (by decide : 0 + 0 ≤ _)⟩)
  dsimp only [Pt.U, Pt.locs, Pt.cells, Pt.slots] at X12 l12 y12 z12 st12 hQ12
  subst l12 y12 z12
  obtain ⟨rfl, u14, u15⟩ := hQ12
  have N12 := Fr.app N0 u14
  obtain ⟨T17, X17, e17, st17⟩ := getF X12 hx hZ hown (host := "") (Or.inl (hw _ (gw 77 rfl))) Via.refl u15 F16 (g := (mkF m 16 #[.val (.ref a1), .val (.ref a2), .val (.int (5 : Int32))] [(.ref a1), (.ref a1)])) rfl rfl (hb hby d10_16)
  obtain ⟨cq24, q24, q24'⟩ := E_18.cell
  obtain ⟨_, _, ⟨T24, L24, k24, n24⟩, -, X24, ⟨Lc24, hQ24, l24, y24, z24⟩, st24⟩ := X17.privateBack hx (y := M_3) hown (mvT hZ (hw _ (gw 79 rfl))) (mvT hZ (hw _ (gw 80 rfl))) (own_selSelf (args := #[]) (mvT hZ (hw _ (gw 82 rfl))) (Cond.privateMethod_at (mvP hZ (hw _ (gw 81 rfl)) (args := #[]))) (mvT hZ (hw _ (gw 80 rfl))) (by decide)) (Cond.privateMethod_at (mvP hZ (hw _ (gw 81 rfl)) (args := #[]))) (mvT hZ (hw _ (gw 83 rfl))) (by decide) (backOf (W := 0) (rm11_43 l Z a0 hw [] a1 a19 k21 h0 n0  O0 F20 V22 F23 E_18 F16 g_a1 lt_a1) hZ (hw _ (gw 83 rfl)) (hw _ (gw 35 rfl)) (by decide) (by decide)) (g := (mkF m 21 #[.val (.ref a1), .val (.ref a2), .val (.int (5 : Int32))] [(.int (24 : Int32)), (.ref a1)])) rfl (by rw [hml]; rfl) (Steps.refl _) (a := a1) (by rw [e17]; exact q24) q24' (argsL := [(.int (24 : Int32))]) (rest := []) (lenOf pd_3 rfl) rfl (by show 2 * 0 + _ ≤ _; exact Nat.le_of_eq rfl) (hb hby d10_21) (fun _ _ => ⟨rfl, e17, (by decide : 0 + 1 ≤ _), (by decide : 0 + 42 ≤ _)⟩)
  dsimp only [Pt.U, Pt.locs, Pt.cells, Pt.slots] at X24 l24 y24 z24 st24 hQ24
  subst l24 y24 z24
  obtain ⟨b25, k26, rfl, u28, u29, u30, Ku31, u32, u33, u34, u35, u36, u37⟩ := hQ24
  have Ou31 : Old Z n0 T24.heap := O0.keep Ku31 (allS g_a1 all0)
  have g_b25 : n0 ≤ b25 := Nat.le_trans (own_z O0) u29
  have sz_b25 : h0.size ≤ b25 := Nat.le_trans (Nat.le_refl _) u29
  have N24 := Fr.app N12 u28
  obtain ⟨T38, X38, e38, st38⟩ := getF X24 hx hZ hown (host := "") (Or.inl (hw _ (gw 77 rfl))) Via.refl rfl u34 (g := (mkF m 26 #[.val (.ref a1), .val (.ref a2), .val (.int (5 : Int32))] [(.ref a1), (.ref a1)])) rfl rfl (hb hby d10_26)
  have f39 : Exa Z T24.heap a2 C_4 := (E_3.keep Ku31)
  have f41 : Fld Z T24.heap a2 C_4 "coder" "B" (.int (0 : Int32)) := (F11.keep Ku31 (ninS hne40 nin0))
  have f42 : Fld Z T24.heap a2 C_4 "value" "[B" (.ref a4) := (F5.keep Ku31 (ninS hne40 nin0))
  have f44 : Arv Z T24.heap a4 k6 .byte (5 : Int32) [(.int (32 : Int32)), (.int (97 : Int32)), (.int (110 : Int32)), (.int (100 : Int32)), (.int (32 : Int32))] (.int 0) := (V7.keep Ku31 (ninS hne43 nin0))
  obtain ⟨cq45, q45, q45'⟩ := u32.cell
  obtain ⟨_, _, ⟨T45, L45, k45, n45⟩, -, X45, ⟨Lc45, hQ45, l45, y45, z45⟩, st45⟩ := X38.privateBack hx (y := M_6) hown (mvT hZ (hw _ (gw 84 rfl))) (mvT hZ (hw _ (gw 85 rfl))) (own_selSelf (args := #[]) (mvT hZ (hw _ (gw 87 rfl))) (Cond.privateMethod_at (mvP hZ (hw _ (gw 86 rfl)) (args := #[]))) (mvT hZ (hw _ (gw 85 rfl))) (by decide)) (Cond.privateMethod_at (mvP hZ (hw _ (gw 86 rfl)) (args := #[]))) (mvT hZ (hw _ (gw 88 rfl))) (by decide) (backOf (W := 0) (rm12_49 l Z a0 hw [] a1 a2 p8 b25 a4 k6 k26 T24.heap n0  Ou31 u32 S_9 hk10 u33 f39 f41 u35 f42 f44 u37 u36 g_b25) hZ (hw _ (gw 88 rfl)) (hw _ (gw 35 rfl)) (by decide) (by decide)) (g := (mkF m 30 #[.val (.ref a1), .val (.ref a2), .val (.int (5 : Int32))] [(.ref a2), (.int (19 : Int32)), (.ref a1)])) rfl (by rw [hml]; rfl) (Steps.refl _) (a := a1) (by rw [e38]; exact q45) q45' (argsL := [(.int (19 : Int32)), (.ref a2)]) (rest := []) (lenOf pd_6 rfl) rfl (by show 2 * 0 + _ ≤ _; exact Nat.le_of_eq rfl) (hb hby d10_30) (fun _ _ => ⟨rfl, e38, (by decide : 1 + 0 ≤ _), (by decide : 42 + 0 ≤ _)⟩)
  dsimp only [Pt.U, Pt.locs, Pt.cells, Pt.slots] at X45 l45 y45 z45 st45 hQ45
  subst l45 y45 z45
  obtain ⟨rfl, u47, Ku48, u49, u50⟩ := hQ45
  have Ou48 : Old Z n0 T45.heap := Ou31.keep Ku48 (allS g_b25 all0)
  have N45 := Fr.app N24 u47
  have f51 : Fld Z T45.heap a1 C_2 "count" "I" (.int (19 : Int32)) := (u34.keep Ku48 (ninS (Nat.ne_of_lt (Nat.lt_of_lt_of_le lt_a1 u29)) nin0))
  obtain ⟨T52, X52, e52, st52⟩ := getF X45 hx hZ hown (host := "") (Or.inl (hw _ (gw 77 rfl))) Via.refl rfl f51 (g := (mkF m 35 #[.val (.ref a1), .val (.ref a2), .val (.int (5 : Int32))] [(.ref a1), (.ref a1)])) rfl rfl (hb hby d10_35)
  have f53 : Exa Z T45.heap a1 C_5 := (u32.keep Ku48)
  obtain ⟨T54, h54, X54, e54, W54, st54⟩ := putF X52 hx hZ hown (host := "") (Or.inl (hw _ (gw 77 rfl))) Via.refl e52 f51 f53 (Or.inl (hw _ (gw 78 rfl))) (hw _ (gw 24 rfl)) (ty := .int) (by decide) rfl rfl (g := (mkF m 40 #[.val (.ref a1), .val (.ref a2), .val (.int (5 : Int32))] [(.int (24 : Int32)), (.ref a1)])) rfl rfl (hb hby d10_40)
  have O54 : Old Z n0 h54 := Ou48.wr W54 g_a1
  have Fw54 : Fld Z h54 a1 C_2 "count" "I" (.int (24 : Int32)) := Fld.same W54 f51
  have N54 := Fr.snoc X54 N45 g_a1
  obtain ⟨fs, hr, hrun, hended, hW, hsame⟩ := X54.leave (v := some (.ref a1)) (fun h => by rw [Bd.returns] at h; cases h)
  have f55 : Exa Z h54 a1 C_5 := (Exa.wr W54 f53)
  have f56 : Fld Z h54 a1 C_2 "coder" "B" (.int (0 : Int32)) := (Fld.other W54 (u33.keep Ku48 (ninS (Nat.ne_of_lt (Nat.lt_of_lt_of_le lt_a1 u29)) nin0)) (Or.inr (slot_ne (Or.inl (hw _ (gw 59 rfl))) (Or.inl (hw _ (gw 78 rfl))) (by decide) (t := .byte) (t' := .int) (by decide) (by decide))))
  have f57 : Fld Z h54 a1 C_2 "value" "[B" (.ref b25) := (Fld.other W54 (u35.keep Ku48 (ninS (Nat.ne_of_lt (Nat.lt_of_lt_of_le lt_a1 u29)) nin0)) (Or.inr (slot_ne (Or.inl (hw _ (gw 62 rfl))) (Or.inl (hw _ (gw 78 rfl))) (by decide) (t := (.array .byte)) (t' := .int) (by decide) (by decide))))
  have f58 : Exa Z h54 b25 "[B" := (Exa.wr W54 u49)
  have f59 : Arv Z h54 b25 k26 .byte (42 : Int32) [(.int (82 : Int32)), (.int (101 : Int32)), (.int (97 : Int32)), (.int (100 : Int32)), (.int (44 : Int32)), (.int (32 : Int32)), (.int (87 : Int32)), (.int (114 : Int32)), (.int (105 : Int32)), (.int (116 : Int32)), (.int (101 : Int32)), (.int (44 : Int32)), (.int (32 : Int32)), (.int (65 : Int32)), (.int (112 : Int32)), (.int (112 : Int32)), (.int (101 : Int32)), (.int (110 : Int32)), (.int (100 : Int32)), (.int (32 : Int32)), (.int (97 : Int32)), (.int (110 : Int32)), (.int (100 : Int32)), (.int (32 : Int32))] (.int (0 : Int32)) := (u50.other W54 (Ne.symm (Nat.ne_of_lt (Nat.lt_of_lt_of_le lt_a1 u29))))
  refine ⟨_, _, pre0 _ ?_, hrun, hended, _, _, rfl, ?_, ⟨_, rfl⟩, hW, hsame.mono (by decide) (by decide)⟩
  · show Steps p.tables e below (s₁.setTop (mkF m 0 #[.val (.ref a1), .val (.ref a2), .unset] [])) _
    refine XS.aloadN X0.here hx rfl (hb hby d10_0) rfl rfl ?_
    refine XS.ifnonnullYes X0.here hx rfl (pc0 := 1) (pc' := 9) rfl (hb hby d10_1) rfl (by decide) (by decide) ?_
    refine XS.aloadN X0.here hx rfl (hb hby d10_9) rfl rfl ?_
    refine st12.trans ?_
    refine XS.istoreN X12.here hx rfl (hb hby d10_13) rfl (l' := #[.val (.ref a1), .val (.ref a2), .val (.int (5 : Int32))]) rfl ?_
    refine XS.aloadN X12.here hx rfl (hb hby d10_14) rfl rfl ?_
    refine XS.aloadN X12.here hx rfl (hb hby d10_15) rfl rfl ?_
    refine st17 _ ?_
    refine XS.iloadN X17.here hx rfl (hb hby d10_19) rfl ?_
    show Steps p.tables e below (T17.setTop (mkF m 20 #[.val (.ref a1), .val (.ref a2), .val (.int (5 : Int32))] [(.int (5 : Int32)), (.int (19 : Int32)), (.ref a1)])) _
    refine XS.iadd X17.here hx rfl (hb hby d10_20) rfl ?_
    show Steps p.tables e below (T17.setTop (mkF m 21 #[.val (.ref a1), .val (.ref a2), .val (.int (5 : Int32))] [(.int ((19 : Int32) + (5 : Int32))), (.ref a1)])) _
    rw [(by decide +kernel : ((19 : Int32) + (5 : Int32)) = (24 : Int32))]
    refine st24.trans ?_
    refine XS.aloadN X24.here hx rfl (hb hby d10_24) rfl rfl ?_
    refine XS.aloadN X24.here hx rfl (hb hby d10_25) rfl rfl ?_
    refine st38 _ ?_
    refine XS.aloadN X38.here hx rfl (hb hby d10_29) rfl rfl ?_
    refine st45.trans ?_
    refine XS.aloadN X45.here hx rfl (hb hby d10_33) rfl rfl ?_
    refine XS.dup X45.here hx rfl (hb hby d10_34) rfl rfl ?_
    show Steps p.tables e below (T45.setTop (mkF m 35 #[.val (.ref a1), .val (.ref a2), .val (.int (5 : Int32))] [(.ref a1), (.ref a1)])) _
    refine st52 _ ?_
    refine XS.iloadN X52.here hx rfl (hb hby d10_38) rfl ?_
    refine XS.iadd X52.here hx rfl (hb hby d10_39) rfl ?_
    show Steps p.tables e below (T52.setTop (mkF m 40 #[.val (.ref a1), .val (.ref a2), .val (.int (5 : Int32))] [(.int ((19 : Int32) + (5 : Int32))), (.ref a1)])) _
    rw [(by decide +kernel : ((19 : Int32) + (5 : Int32)) = (24 : Int32))]
    refine st54 _ ?_
    refine XS.aloadN X54.here hx rfl (hb hby d10_43) rfl rfl ?_
    show Steps p.tables e below (T54.setTop (mkF m 44 #[.val (.ref a1), .val (.ref a2), .val (.int (5 : Int32))] [(.ref a1)])) _
    jvm_step X54.here [X54.here.top, hx, (hb hby d10_44), X54.method', Bd.returns, Value.isRef, FieldType.isReference]
    first | (intro acts; rw [hr _ acts rfl rfl rfl]) | rw [hr _ _ rfl rfl rfl]
    exact Steps.refl _
  · show Q10_41 Z _ _ _ _ _ _ _ h0 n0 _ T54.heap _
    rw [e54]
    exact ⟨b25, k26, rfl, N54, sz_b25, (Nat.lt_of_lt_of_le (Nat.lt_of_lt_of_le u30 Ku48.1) (Keep.of_wr W54).1), ((((Keep.refl h0 [a1]).trans Ku31 (allS (Or.inl (List.mem_of_getElem? (i := 0) rfl)) all0)).trans Ku48 (allS (Or.inr sz_b25) all0)).wr W54 (Or.inl (List.mem_of_getElem? (i := 0) rfl))), f55, f56, Fw54, f57, f58, f59⟩
theorem ef_rm9_40 (m : MethodId) (x0 : Addr) (x1 : Addr) : entryFrame m #[(.ref x0), (.ref x1)] 2 = mkF m 0 #[.val (.ref x0), .val (.ref x1)] [] := by first | (simp [entryFrame, mkF, argsToLocals, Value.category]; done) | rfl
def Q9_40 (Z : State) (a1 : Addr) (a2 : Addr) (a5 : Addr) (k7 : ClassId) (p9 : Int32) (a14 : Addr) (k16 : ClassId) (h0 : Heap) (n0 : Nat) (v : Option Value) (h : Heap) (L : List Loc) : Prop := (∃ (b22 : Addr) (k23 : ClassId), v = some (.ref a1) ∧ Fr n0 L ∧ h0.size ≤ b22 ∧ b22 < h.size ∧ Keep h0 h [a1] ∧ Exa Z h a1 C_5 ∧ Fld Z h a1 C_2 "coder" "B" (.int (0 : Int32)) ∧ Fld Z h a1 C_2 "count" "I" (.int (24 : Int32)) ∧ Fld Z h a1 C_2 "value" "[B" (.ref b22) ∧ Exa Z h b22 "[B" ∧ Arv Z h b22 k23 .byte (42 : Int32) [(.int (82 : Int32)), (.int (101 : Int32)), (.int (97 : Int32)), (.int (100 : Int32)), (.int (44 : Int32)), (.int (32 : Int32)), (.int (87 : Int32)), (.int (114 : Int32)), (.int (105 : Int32)), (.int (116 : Int32)), (.int (101 : Int32)), (.int (44 : Int32)), (.int (32 : Int32)), (.int (65 : Int32)), (.int (112 : Int32)), (.int (112 : Int32)), (.int (101 : Int32)), (.int (110 : Int32)), (.int (100 : Int32)), (.int (32 : Int32)), (.int (97 : Int32)), (.int (110 : Int32)), (.int (100 : Int32)), (.int (32 : Int32))] (.int (0 : Int32)))
set_option maxRecDepth 65536 in
set_option maxHeartbeats 40000000 in
theorem rm9_40 (l : Launch) (Z : State) (a0 : Array Value) (hw : ∀ d ∈ own_ws, d.before a0 Z = true) (ws : List Jvm.Cond) (a1 : Addr) (a2 : Addr) (a5 : Addr) (k7 : ClassId) (p9 : Int32) (a14 : Addr) (k16 : ClassId) (h0 : Heap) (n0 : Nat) (O0 : Old Z n0 h0) (E_3 : Exa Z h0 a1 C_5) (E_4 : Exa Z h0 a2 C_4) (F6 : Fld Z h0 a2 C_4 "value" "[B" (.ref a5)) (V8 : Arv Z h0 a5 k7 .byte (5 : Int32) [(.int (32 : Int32)), (.int (97 : Int32)), (.int (110 : Int32)), (.int (100 : Int32)), (.int (32 : Int32))] (.int 0)) (S_10 : Sta Z Z.heap C_4 "COMPACT_STRINGS" "Z" (.int p9)) (hk11 : ¬ (p9 = (0 : Int32))) (F12 : Fld Z h0 a2 C_4 "coder" "B" (.int (0 : Int32))) (F13 : Fld Z h0 a1 C_2 "count" "I" (.int (19 : Int32))) (F15 : Fld Z h0 a1 C_2 "value" "[B" (.ref a14)) (V17 : Arv Z h0 a14 k16 .byte (20 : Int32) [(.int (82 : Int32)), (.int (101 : Int32)), (.int (97 : Int32)), (.int (100 : Int32)), (.int (44 : Int32)), (.int (32 : Int32)), (.int (87 : Int32)), (.int (114 : Int32)), (.int (105 : Int32)), (.int (116 : Int32)), (.int (101 : Int32)), (.int (44 : Int32)), (.int (32 : Int32)), (.int (65 : Int32)), (.int (112 : Int32)), (.int (112 : Int32)), (.int (101 : Int32)), (.int (110 : Int32)), (.int (100 : Int32))] (.int (0 : Int32))) (F18 : Fld Z h0 a1 C_2 "coder" "B" (.int (0 : Int32))) (hne19 : a2 ≠ a1) (hne20 : a5 ≠ a1) (g_a1 : n0 ≤ a1) (lt_a1 : a1 < h0.size) :
    MetFree l M_8 (head1 (Jvm.Cond.code M_8 jdk_67_method_7_code 2 (some (.object "java/lang/StringBuilder")) :: ws) ({ frames := 5, cells := 1, slots := 42, locals := 76 } : Room)) (fun a U => a = #[(.ref a1), (.ref a2)] ∧ Z.Warmed39 U.vm ∧ U.heap = h0) (fun _ _ _ _ _ => True) (fun _ U o U' => ∃ v L, o = .returned v ∧ Q9_40 Z a1 a2 a5 k7 p9 a14 k16 h0 n0 v U'.heap L ∧ FrameEnd U o U' L ({ frames := 5, cells := 1, slots := 42, locals := 76 } : Room).cells ({ frames := 5, cells := 1, slots := 42, locals := 76 } : Room).slots) := by
  refine MetFree.of_bodySF (plainFor_of_name pn_3) hisR ?_
  intro p e s m args below meth c s₁ Bd hml0 hP hK
  obtain ⟨rfl, hZ, hh⟩ := hP
  have hx := Bd.exec
  have hby := Bd.bytes
  have hml : c.maxLocals = 2 := hml0
  have hown : s.vm.findClass "java/lang/StringBuilder" = some m.cls := findClass_of_methodNamed Bd.named
  have hnm := (name_of_methodNamed Bd.named Bd.method).1
  have X0 : Stand p l e ({ frames := 5, cells := 1, slots := 42, locals := 76 } : Room) s m #[(.ref a1), (.ref a2)] below meth c s₁ [] 0 0 := Stand.of_body Bd
  have e0 : s₁.heap = h0 := by rw [← hh, Bd.state]; rfl
  have N0 := Fr.nil n0
  have pre0 : ∀ t, Steps p.tables e below (s₁.setTop (mkF m 0 #[.val (.ref a1), .val (.ref a2)] [])) t → Steps p.tables e below (s₁.setTop (entryFrame m #[(.ref a1), (.ref a2)] 2)) t := fun t k => castTop (ef_rm9_40 m a1 a2) k
  obtain ⟨_, _, ⟨T21, L21, k21, n21⟩, -, X21, ⟨Lc21, hQ21, l21, y21, z21⟩, st21⟩ := superBack X0 hx hZ (y := M_7) hown (hw _ (gw 74 rfl)) (own_sameSelf (y := M_7) (y' := M_3) rfl (hw _ (gw 82 rfl)) (hw _ (gw 65 rfl)) (by decide)) (hw _ (gw 65 rfl)) (hw _ (gw 75 rfl)) (by decide) (backOf (W := 0) (rm10_41 l Z a0 hw [] a1 a2 a5 k7 p9 a14 k16 h0 n0  O0 E_4 F6 V8 S_10 hk11 F12 F13 E_3 F15 V17 F18 g_a1 lt_a1 hne19 hne20) hZ (hw _ (gw 76 rfl)) (hw _ (gw 35 rfl)) (by decide) (by decide)) e0 (Ins.self E_3) (g := (mkF m 2 #[.val (.ref a1), .val (.ref a2)] [(.ref a2), (.ref a1)])) rfl (by rw [hml]; rfl) (hw _ (gw 76 rfl)) (argsL := [(.ref a2)]) (rest := []) (lenOf pd_7 rfl) rfl (by show 2 * 0 + _ ≤ _; exact Nat.le_of_eq rfl) (hb hby d9_2) (fun _ _ => ⟨rfl, e0, (by decide : 0 + 1 ≤ _), (by decide : 0 + 42 ≤ _)⟩)
  dsimp only [Pt.U, Pt.locs, Pt.cells, Pt.slots] at X21 l21 y21 z21 st21 hQ21
  subst l21 y21 z21
  obtain ⟨b22, k23, rfl, u25, u26, u27, Ku28, u29, u30, u31, u32, u33, u34⟩ := hQ21
  have Ou28 : Old Z n0 T21.heap := O0.keep Ku28 (allS g_a1 all0)
  have g_b22 : n0 ≤ b22 := Nat.le_trans (own_z O0) u26
  have sz_b22 : h0.size ≤ b22 := Nat.le_trans (Nat.le_refl _) u26
  have N21 := Fr.app N0 u25
  obtain ⟨fs, hr, hrun, hended, hW, hsame⟩ := X21.leave (v := some (.ref a1)) (fun h => by rw [Bd.returns] at h; cases h)
  refine ⟨_, _, pre0 _ ?_, hrun, hended, _, _, rfl, ?_, ⟨_, rfl⟩, hW, hsame.mono (by decide) (by decide)⟩
  · show Steps p.tables e below (s₁.setTop (mkF m 0 #[.val (.ref a1), .val (.ref a2)] [])) _
    refine XS.aloadN X0.here hx rfl (hb hby d9_0) rfl rfl ?_
    refine XS.aloadN X0.here hx rfl (hb hby d9_1) rfl rfl ?_
    refine st21.trans ?_
    refine XS.pop X21.here hx rfl (hb hby d9_5) rfl rfl ?_
    refine XS.aloadN X21.here hx rfl (hb hby d9_6) rfl rfl ?_
    show Steps p.tables e below (T21.setTop (mkF m 7 #[.val (.ref a1), .val (.ref a2)] [(.ref a1)])) _
    jvm_step X21.here [X21.here.top, hx, (hb hby d9_7), X21.method', Bd.returns, Value.isRef, FieldType.isReference]
    first | (intro acts; rw [hr _ acts rfl rfl rfl]) | rw [hr _ _ rfl rfl rfl]
    exact Steps.refl _
  · show Q9_40 Z _ _ _ _ _ _ _ h0 n0 _ T21.heap _
    exact ⟨b22, k23, rfl, N21, sz_b22, u27, ((Keep.refl h0 [a1]).trans Ku28 (allS (Or.inl (List.mem_of_getElem? (i := 0) rfl)) all0)), u29, u30, u31, u32, u33, u34⟩
theorem ef_rm6_53 (m : MethodId) (x0 : Addr) : entryFrame m #[(.ref x0)] 1 = mkF m 0 #[.val (.ref x0)] [] := by first | (simp [entryFrame, mkF, argsToLocals, Value.category]; done) | rfl
def Q6_53 (Z : State) (a1 : Addr) (a2 : Addr) (k5 : ClassId) (p9 : Int32) (h0 : Heap) (n0 : Nat) (v : Option Value) (h : Heap) (L : List Loc) : Prop := (v = some (.int (7 : Int32)) ∧ Fr n0 L ∧ h = h0)
set_option maxRecDepth 65536 in
set_option maxHeartbeats 40000000 in
theorem rm6_53 (l : Launch) (Z : State) (a0 : Array Value) (hw : ∀ d ∈ own_ws, d.before a0 Z = true) (ws : List Jvm.Cond) (a1 : Addr) (a2 : Addr) (k5 : ClassId) (p9 : Int32) (h0 : Heap) (n0 : Nat) (O0 : Old Z n0 h0) (F3 : Fld Z Z.heap a1 C_4 "value" "[B" (.ref a2)) (V6 : Arv Z Z.heap a2 k5 .byte (7 : Int32) [(.int (67 : Int32)), (.int (111 : Int32)), (.int (110 : Int32)), (.int (116 : Int32)), (.int (114 : Int32)), (.int (111 : Int32)), (.int (108 : Int32))] (.int (0 : Int32))) (E_8 : Exa Z Z.heap a1 C_4) (S_10 : Sta Z Z.heap C_4 "COMPACT_STRINGS" "Z" (.int p9)) (hk11 : ¬ (p9 = (0 : Int32))) (F12 : Fld Z Z.heap a1 C_4 "coder" "B" (.int (0 : Int32))) :
    MetFree l M_2 (head1 (Jvm.Cond.code M_2 jdk_42_method_54_code 1 (some .int) :: ws) ({ frames := 1, cells := 0, slots := 0, locals := 13 } : Room)) (fun a U => a = #[(.ref a1)] ∧ Z.Warmed39 U.vm ∧ U.heap = h0) (fun _ _ _ _ _ => True) (fun _ U o U' => ∃ v L, o = .returned v ∧ Q6_53 Z a1 a2 k5 p9 h0 n0 v U'.heap L ∧ FrameEnd U o U' L ({ frames := 1, cells := 0, slots := 0, locals := 13 } : Room).cells ({ frames := 1, cells := 0, slots := 0, locals := 13 } : Room).slots) := by
  refine MetFree.of_bodySF (plainFor_of_name pn_1) hisR ?_
  intro p e s m args below meth c s₁ Bd hml0 hP hK
  obtain ⟨rfl, hZ, hh⟩ := hP
  have hx := Bd.exec
  have hby := Bd.bytes
  have hml : c.maxLocals = 1 := hml0
  have hown : s.vm.findClass "java/lang/String" = some m.cls := findClass_of_methodNamed Bd.named
  have hnm := (name_of_methodNamed Bd.named Bd.method).1
  have X0 : Stand p l e ({ frames := 1, cells := 0, slots := 0, locals := 13 } : Room) s m #[(.ref a1)] below meth c s₁ [] 0 0 := Stand.of_body Bd
  have e0 : s₁.heap = h0 := by rw [← hh, Bd.state]; rfl
  have N0 := Fr.nil n0
  have pre0 : ∀ t, Steps p.tables e below (s₁.setTop (mkF m 0 #[.val (.ref a1)] [])) t → Steps p.tables e below (s₁.setTop (entryFrame m #[(.ref a1)] 1)) t := fun t k => castTop (ef_rm6_53 m a1) k
  obtain ⟨T4, X4, e4, st4⟩ := getF X0 hx hZ hown (host := "") (Or.inl (hw _ (gw 46 rfl))) Via.refl e0 (Fld.ext O0.2 F3) (g := (mkF m 1 #[.val (.ref a1)] [(.ref a1)])) rfl rfl (hb hby d6_1)
  obtain ⟨cl7, Ar7, -, Sz7, Nn7, -, -⟩ := id (V6.ext O0.2)
  obtain ⟨cq13, kq13, q13a, q13b, q13c⟩ := isOf hZ e4 (Exa.ext O0.2 E_8)
  obtain ⟨_, _, ⟨T13, L13, k13, n13⟩, -, X13, ⟨Lc13, hQ13, l13, y13, z13⟩, st13⟩ := X4.virtualBack hx (y := M_1) (z := M_1) hown (mvT hZ (hw _ (gw 48 rfl))) (mvT hZ (hw _ (gw 49 rfl))) (notFace_of_selects (args := #[]) (mvT hZ (hw _ (gw 51 rfl)))) (mvT hZ (hw _ (gw 51 rfl))) (mvT hZ (hw _ (gw 50 rfl))) (by decide) (backOf (W := 1) (rm7_7 l Z a0 hw [] a1 p9 h0 n0  O0 S_10 hk11 F12) hZ (hw _ (gw 52 rfl)) (hw _ (gw 44 rfl)) (by decide) (by decide)) q13a q13c (g := (mkF m 6 #[.val (.ref a1)] [(.ref a1), (.int (7 : Int32))])) rfl (by rw [hml]; rfl) (Steps.refl _) (argsL := []) (rest := [(.int (7 : Int32))]) (lenOf pd_1 rfl) rfl (by show 2 * 0 + _ ≤ _; exact Nat.le_of_eq rfl) (hb hby d6_6) (fun _ _ => ⟨rfl, e4, (by decide : 0 + 0 ≤ _), (by decide : 0 + 0 ≤ _)⟩)
  dsimp only [Pt.U, Pt.locs, Pt.cells, Pt.slots] at X13 l13 y13 z13 st13 hQ13
  subst l13 y13 z13
  obtain ⟨rfl, u15, u16⟩ := hQ13
  have N13 := Fr.app N0 u15
  obtain ⟨fs, hr, hrun, hended, hW, hsame⟩ := X13.leave (v := some (.int (7 : Int32))) (fun h => by rw [Bd.returns] at h; cases h)
  refine ⟨_, _, pre0 _ ?_, hrun, hended, _, _, rfl, ?_, ⟨_, rfl⟩, hW, hsame.mono (by decide) (by decide)⟩
  · show Steps p.tables e below (s₁.setTop (mkF m 0 #[.val (.ref a1)] [])) _
    refine XS.aloadN X0.here hx rfl (hb hby d6_0) rfl rfl ?_
    refine st4 _ ?_
    refine X4.arraylength hx (by rw [e4]; exact Ar7.1) (State.isArrayOf_alike hZ.alike Ar7.2.1) (g := (mkF m 4 #[.val (.ref a1)] [(.ref a2)])) rfl rfl (hb hby d6_4) _ ?_
    rw [len_of Sz7 Nn7]
    refine XS.aloadN X4.here hx rfl (hb hby d6_5) rfl rfl ?_
    refine st13.trans ?_
    refine XS.ishr X13.here hx rfl (hb hby d6_9) rfl ?_
    show Steps p.tables e below (T13.setTop (mkF m 10 #[.val (.ref a1)] [(.int ((7 : Int32) >>> ((0 : Int32) &&& 31)))])) _
    rw [(by decide +kernel : ((7 : Int32) >>> ((0 : Int32) &&& 31)) = (7 : Int32))]
    show Steps p.tables e below (T13.setTop (mkF m 10 #[.val (.ref a1)] [(.int (7 : Int32))])) _
    exact retI X13 hx Bd.returns (hb hby d6_10) hr
  · show Q6_53 Z _ _ _ _ h0 n0 _ T13.heap _
    rw [u16]
    exact ⟨rfl, N13, rfl⟩
theorem ef_rm11_54 (m : MethodId) (x0 : Addr) : entryFrame m #[(.ref x0), (.int (31 : Int32))] 3 = mkF m 0 #[.val (.ref x0), .val (.int (31 : Int32)), .unset] [] := by first | (simp [entryFrame, mkF, argsToLocals, Value.category]; done) | rfl
def Q11_54 (Z : State) (a1 : Addr) (a2 : Addr) (k5 : ClassId) (h0 : Heap) (n0 : Nat) (v : Option Value) (h : Heap) (L : List Loc) : Prop := (v = none ∧ Fr n0 L ∧ h = h0)
set_option maxRecDepth 65536 in
set_option maxHeartbeats 40000000 in
theorem rm11_54 (l : Launch) (Z : State) (a0 : Array Value) (hw : ∀ d ∈ own_ws, d.before a0 Z = true) (ws : List Jvm.Cond) (a1 : Addr) (a2 : Addr) (k5 : ClassId) (h0 : Heap) (n0 : Nat) (O0 : Old Z n0 h0) (F3 : Fld Z h0 a1 C_2 "value" "[B" (.ref a2)) (V6 : Arv Z h0 a2 k5 .byte (42 : Int32) [(.int (82 : Int32)), (.int (101 : Int32)), (.int (97 : Int32)), (.int (100 : Int32)), (.int (44 : Int32)), (.int (32 : Int32)), (.int (87 : Int32)), (.int (114 : Int32)), (.int (105 : Int32)), (.int (116 : Int32)), (.int (101 : Int32)), (.int (44 : Int32)), (.int (32 : Int32)), (.int (65 : Int32)), (.int (112 : Int32)), (.int (112 : Int32)), (.int (101 : Int32)), (.int (110 : Int32)), (.int (100 : Int32)), (.int (32 : Int32)), (.int (97 : Int32)), (.int (110 : Int32)), (.int (100 : Int32)), (.int (32 : Int32))] (.int (0 : Int32))) (F8 : Fld Z h0 a1 C_2 "coder" "B" (.int (0 : Int32))) :
    MetFree l M_3 (head1 (Jvm.Cond.code M_3 jdk_68_method_9_code 3 none :: ws) ({ frames := 0, cells := 0, slots := 0, locals := 0 } : Room)) (fun a U => a = #[(.ref a1), (.int (31 : Int32))] ∧ Z.Warmed39 U.vm ∧ U.heap = h0) (fun _ _ _ _ _ => True) (fun _ U o U' => ∃ v L, o = .returned v ∧ Q11_54 Z a1 a2 k5 h0 n0 v U'.heap L ∧ FrameEnd U o U' L ({ frames := 0, cells := 0, slots := 0, locals := 0 } : Room).cells ({ frames := 0, cells := 0, slots := 0, locals := 0 } : Room).slots) := by
  refine MetFree.of_bodySF (plainFor_of_name pn_2) hisR ?_
  intro p e s m args below meth c s₁ Bd hml0 hP hK
  obtain ⟨rfl, hZ, hh⟩ := hP
  have hx := Bd.exec
  have hby := Bd.bytes
  have hml : c.maxLocals = 3 := hml0
  have hown : s.vm.findClass "java/lang/AbstractStringBuilder" = some m.cls := findClass_of_methodNamed Bd.named
  have hnm := (name_of_methodNamed Bd.named Bd.method).1
  have X0 : Stand p l e ({ frames := 0, cells := 0, slots := 0, locals := 0 } : Room) s m #[(.ref a1), (.int (31 : Int32))] below meth c s₁ [] 0 0 := Stand.of_body Bd
  have e0 : s₁.heap = h0 := by rw [← hh, Bd.state]; rfl
  have N0 := Fr.nil n0
  have pre0 : ∀ t, Steps p.tables e below (s₁.setTop (mkF m 0 #[.val (.ref a1), .val (.int (31 : Int32)), .unset] [])) t → Steps p.tables e below (s₁.setTop (entryFrame m #[(.ref a1), (.int (31 : Int32))] 3)) t := fun t k => castTop (ef_rm11_54 m a1) k
  obtain ⟨T4, X4, e4, st4⟩ := getF X0 hx hZ hown (host := "") (Or.inl (hw _ (gw 61 rfl))) Via.refl e0 F3 (g := (mkF m 1 #[.val (.ref a1), .val (.int (31 : Int32)), .unset] [(.ref a1)])) rfl rfl (hb hby d11_1)
  obtain ⟨cl7, Ar7, -, Sz7, Nn7, -, -⟩ := id V6
  obtain ⟨T9, X9, e9, st9⟩ := getF X4 hx hZ hown (host := "") (Or.inl (hw _ (gw 58 rfl))) Via.refl e4 F8 (g := (mkF m 6 #[.val (.ref a1), .val (.int (31 : Int32)), .unset] [(.ref a1), (.int (42 : Int32))])) rfl rfl (hb hby d11_6)
  obtain ⟨fs, hr, hrun, hended, hW, hsame⟩ := X9.leave (v := none) (fun _ => rfl)
  refine ⟨_, _, pre0 _ ?_, hrun, hended, _, _, rfl, ?_, ⟨_, rfl⟩, hW, hsame.mono (by decide) (by decide)⟩
  · show Steps p.tables e below (s₁.setTop (mkF m 0 #[.val (.ref a1), .val (.int (31 : Int32)), .unset] [])) _
    refine XS.aloadN X0.here hx rfl (hb hby d11_0) rfl rfl ?_
    refine st4 _ ?_
    refine X4.arraylength hx (by rw [e4]; exact Ar7.1) (State.isArrayOf_alike hZ.alike Ar7.2.1) (g := (mkF m 4 #[.val (.ref a1), .val (.int (31 : Int32)), .unset] [(.ref a2)])) rfl rfl (hb hby d11_4) _ ?_
    rw [len_of Sz7 Nn7]
    refine XS.aloadN X4.here hx rfl (hb hby d11_5) rfl rfl ?_
    refine st9 _ ?_
    refine XS.ishr X9.here hx rfl (hb hby d11_9) rfl ?_
    show Steps p.tables e below (T9.setTop (mkF m 10 #[.val (.ref a1), .val (.int (31 : Int32)), .unset] [(.int ((42 : Int32) >>> ((0 : Int32) &&& 31)))])) _
    rw [(by decide +kernel : ((42 : Int32) >>> ((0 : Int32) &&& 31)) = (42 : Int32))]
    refine XS.istoreN X9.here hx rfl (hb hby d11_10) rfl (l' := #[.val (.ref a1), .val (.int (31 : Int32)), .val (.int (42 : Int32))]) rfl ?_
    refine XS.iloadN X9.here hx rfl (hb hby d11_11) rfl ?_
    refine XS.iloadN X9.here hx rfl (hb hby d11_12) rfl ?_
    refine XS.isub X9.here hx rfl (hb hby d11_13) rfl ?_
    show Steps p.tables e below (T9.setTop (mkF m 14 #[.val (.ref a1), .val (.int (31 : Int32)), .val (.int (42 : Int32))] [(.int ((31 : Int32) - (42 : Int32)))])) _
    rw [(by decide +kernel : ((31 : Int32) - (42 : Int32)) = (-11 : Int32))]
    refine XS.ifYes X9.here hx rfl (pc0 := 14) (pc' := 38) rfl (hb hby d11_14) rfl ((if0 _ _).trans (flt (by decide +kernel : ¬ ((0 : Int32) < (-11 : Int32)))).2.2.2) (by decide) (by decide) ?_
    show Steps p.tables e below (T9.setTop (mkF m 38 #[.val (.ref a1), .val (.int (31 : Int32)), .val (.int (42 : Int32))] [])) _
    exact X9.returnOut hx Bd.returns (hb hby d11_38) hr
  · show Q11_54 Z _ _ _ h0 n0 _ T9.heap _
    rw [e9]
    exact ⟨rfl, N0, rfl⟩
theorem ef_rm14_56 (m : MethodId) (x0 : Addr) (x1 : Addr) : entryFrame m #[(.ref x0), (.ref x1), (.int (24 : Int32)), (.int (0 : Int32))] 4 = mkF m 0 #[.val (.ref x0), .val (.ref x1), .val (.int (24 : Int32)), .val (.int (0 : Int32))] [] := by first | (simp [entryFrame, mkF, argsToLocals, Value.category]; done) | rfl
def Q14_56 (Z : State) (a1 : Addr) (a2 : Addr) (p4 : Int32) (a12 : Addr) (k16 : ClassId) (k19 : ClassId) (h0 : Heap) (n0 : Nat) (v : Option Value) (h : Heap) (L : List Loc) : Prop := (v = none ∧ Fr n0 L ∧ Keep h0 h [a2] ∧ Exa Z h a2 "[B" ∧ Arv Z h a2 k19 .byte (42 : Int32) [(.int (82 : Int32)), (.int (101 : Int32)), (.int (97 : Int32)), (.int (100 : Int32)), (.int (44 : Int32)), (.int (32 : Int32)), (.int (87 : Int32)), (.int (114 : Int32)), (.int (105 : Int32)), (.int (116 : Int32)), (.int (101 : Int32)), (.int (44 : Int32)), (.int (32 : Int32)), (.int (65 : Int32)), (.int (112 : Int32)), (.int (112 : Int32)), (.int (101 : Int32)), (.int (110 : Int32)), (.int (100 : Int32)), (.int (32 : Int32)), (.int (97 : Int32)), (.int (110 : Int32)), (.int (100 : Int32)), (.int (32 : Int32)), (.int (67 : Int32)), (.int (111 : Int32)), (.int (110 : Int32)), (.int (116 : Int32)), (.int (114 : Int32)), (.int (111 : Int32)), (.int (108 : Int32))] (.int (0 : Int32)))
set_option maxRecDepth 65536 in
set_option maxHeartbeats 40000000 in
theorem rm14_56 (l : Launch) (Z : State) (a0 : Array Value) (hw : ∀ d ∈ own_ws, d.before a0 Z = true) (ws : List Jvm.Cond) (a1 : Addr) (a2 : Addr) (p4 : Int32) (a12 : Addr) (k16 : ClassId) (k19 : ClassId) (h0 : Heap) (n0 : Nat) (O0 : Old Z n0 h0) (E_3 : Exa Z Z.heap a1 C_4) (S_5 : Sta Z Z.heap C_4 "COMPACT_STRINGS" "Z" (.int p4)) (hk6 : ¬ (p4 = (0 : Int32))) (F7 : Fld Z Z.heap a1 C_4 "coder" "B" (.int (0 : Int32))) (F13 : Fld Z Z.heap a1 C_4 "value" "[B" (.ref a12)) (V17 : Arv Z Z.heap a12 k16 .byte (7 : Int32) [(.int (67 : Int32)), (.int (111 : Int32)), (.int (110 : Int32)), (.int (116 : Int32)), (.int (114 : Int32)), (.int (111 : Int32)), (.int (108 : Int32))] (.int (0 : Int32))) (V20 : Arv Z h0 a2 k19 .byte (42 : Int32) [(.int (82 : Int32)), (.int (101 : Int32)), (.int (97 : Int32)), (.int (100 : Int32)), (.int (44 : Int32)), (.int (32 : Int32)), (.int (87 : Int32)), (.int (114 : Int32)), (.int (105 : Int32)), (.int (116 : Int32)), (.int (101 : Int32)), (.int (44 : Int32)), (.int (32 : Int32)), (.int (65 : Int32)), (.int (112 : Int32)), (.int (112 : Int32)), (.int (101 : Int32)), (.int (110 : Int32)), (.int (100 : Int32)), (.int (32 : Int32)), (.int (97 : Int32)), (.int (110 : Int32)), (.int (100 : Int32)), (.int (32 : Int32))] (.int (0 : Int32))) (E_21 : Exa Z h0 a2 "[B") (g_a2 : n0 ≤ a2) :
    MetFree l M_5 (head1 (Jvm.Cond.code M_5 jdk_42_method_147_code 4 none :: ws) ({ frames := 1, cells := 0, slots := 0, locals := 18 } : Room)) (fun a U => a = #[(.ref a1), (.ref a2), (.int (24 : Int32)), (.int (0 : Int32))] ∧ Z.Warmed39 U.vm ∧ U.heap = h0) (fun _ _ _ _ _ => True) (fun _ U o U' => ∃ v L, o = .returned v ∧ Q14_56 Z a1 a2 p4 a12 k16 k19 h0 n0 v U'.heap L ∧ FrameEnd U o U' L ({ frames := 1, cells := 0, slots := 0, locals := 18 } : Room).cells ({ frames := 1, cells := 0, slots := 0, locals := 18 } : Room).slots) := by
  refine MetFree.of_bodySF (plainFor_of_name pn_1) hisR ?_
  intro p e s m args below meth c s₁ Bd hml0 hP hK
  obtain ⟨rfl, hZ, hh⟩ := hP
  have hx := Bd.exec
  have hby := Bd.bytes
  have hml : c.maxLocals = 4 := hml0
  have hown : s.vm.findClass "java/lang/String" = some m.cls := findClass_of_methodNamed Bd.named
  have hnm := (name_of_methodNamed Bd.named Bd.method).1
  have X0 : Stand p l e ({ frames := 1, cells := 0, slots := 0, locals := 18 } : Room) s m #[(.ref a1), (.ref a2), (.int (24 : Int32)), (.int (0 : Int32))] below meth c s₁ [] 0 0 := Stand.of_body Bd
  have e0 : s₁.heap = h0 := by rw [← hh, Bd.state]; rfl
  have N0 := Fr.nil n0
  have pre0 : ∀ t, Steps p.tables e below (s₁.setTop (mkF m 0 #[.val (.ref a1), .val (.ref a2), .val (.int (24 : Int32)), .val (.int (0 : Int32))] [])) t → Steps p.tables e below (s₁.setTop (entryFrame m #[(.ref a1), (.ref a2), (.int (24 : Int32)), (.int (0 : Int32))] 4)) t := fun t k => castTop (ef_rm14_56 m a1 a2) k
  obtain ⟨cq8, kq8, q8a, q8b, q8c⟩ := isOf hZ e0 (Exa.ext O0.2 E_3)
  obtain ⟨_, _, ⟨T8, L8, k8, n8⟩, -, X8, ⟨Lc8, hQ8, l8, y8, z8⟩, st8⟩ := X0.virtualBack hx (y := M_1) (z := M_1) hown (mvT hZ (hw _ (gw 48 rfl))) (mvT hZ (hw _ (gw 49 rfl))) (notFace_of_selects (args := #[]) (mvT hZ (hw _ (gw 51 rfl)))) (mvT hZ (hw _ (gw 51 rfl))) (mvT hZ (hw _ (gw 50 rfl))) (by decide) (backOf (W := 0) (rm7_7 l Z a0 hw [] a1 p4 h0 n0  O0 S_5 hk6 F7) hZ (hw _ (gw 52 rfl)) (hw _ (gw 44 rfl)) (by decide) (by decide)) q8a q8c (g := (mkF m 1 #[.val (.ref a1), .val (.ref a2), .val (.int (24 : Int32)), .val (.int (0 : Int32))] [(.ref a1)])) rfl (by rw [hml]; rfl) (Steps.refl _) (argsL := []) (rest := []) (lenOf pd_1 rfl) rfl (by show 2 * 0 + _ ≤ _; exact Nat.le_of_eq rfl) (hb hby d14_1) (fun _ _ => ⟨rfl, e0, (by decide : 0 + 0 ≤ _), (by decide : 0 + 0 ≤ _)⟩)
  dsimp only [Pt.U, Pt.locs, Pt.cells, Pt.slots] at X8 l8 y8 z8 st8 hQ8
  subst l8 y8 z8
  obtain ⟨rfl, u10, u11⟩ := hQ8
  have N8 := Fr.app N0 u10
  obtain ⟨T14, X14, e14, st14⟩ := getF X8 hx hZ hown (host := "") (Or.inl (hw _ (gw 46 rfl))) Via.refl u11 (Fld.ext O0.2 F13) (g := (mkF m 9 #[.val (.ref a1), .val (.ref a2), .val (.int (24 : Int32)), .val (.int (0 : Int32))] [(.ref a1)])) rfl rfl (hb hby d14_9)
  obtain ⟨T15, X15, e15, st15⟩ := getF X14 hx hZ hown (host := "") (Or.inl (hw _ (gw 46 rfl))) Via.refl e14 (Fld.ext O0.2 F13) (g := (mkF m 18 #[.val (.ref a1), .val (.ref a2), .val (.int (24 : Int32)), .val (.int (0 : Int32))] [(.ref a1), (.int (24 : Int32)), (.ref a2), (.int (0 : Int32)), (.ref a12)])) rfl rfl (hb hby d14_18)
  obtain ⟨cl18, Ar18, -, Sz18, Nn18, -, -⟩ := id (V17.ext O0.2)
  have Vp22 : Arv Z h0 a2 k19 .byte (42 : Int32) [(.int (82 : Int32)), (.int (101 : Int32)), (.int (97 : Int32)), (.int (100 : Int32)), (.int (44 : Int32)), (.int (32 : Int32)), (.int (87 : Int32)), (.int (114 : Int32)), (.int (105 : Int32)), (.int (116 : Int32)), (.int (101 : Int32)), (.int (44 : Int32)), (.int (32 : Int32)), (.int (65 : Int32)), (.int (112 : Int32)), (.int (112 : Int32)), (.int (101 : Int32)), (.int (110 : Int32)), (.int (100 : Int32)), (.int (32 : Int32)), (.int (97 : Int32)), (.int (110 : Int32)), (.int (100 : Int32)), (.int (32 : Int32)), (.int (0 : Int32)), (.int (0 : Int32)), (.int (0 : Int32)), (.int (0 : Int32)), (.int (0 : Int32)), (.int (0 : Int32)), (.int (0 : Int32))] (.int (0 : Int32)) := V20.pad (pad_rep [(.int (82 : Int32)), (.int (101 : Int32)), (.int (97 : Int32)), (.int (100 : Int32)), (.int (44 : Int32)), (.int (32 : Int32)), (.int (87 : Int32)), (.int (114 : Int32)), (.int (105 : Int32)), (.int (116 : Int32)), (.int (101 : Int32)), (.int (44 : Int32)), (.int (32 : Int32)), (.int (65 : Int32)), (.int (112 : Int32)), (.int (112 : Int32)), (.int (101 : Int32)), (.int (110 : Int32)), (.int (100 : Int32)), (.int (32 : Int32)), (.int (97 : Int32)), (.int (110 : Int32)), (.int (100 : Int32)), (.int (32 : Int32))] (.int (0 : Int32)) 7)
  obtain ⟨T23, h23, L23, X23, e23, N23, Ku23, V23, st23⟩ := cpA X15 hx hZ hown (hw _ (gw 100 rfl)) (hw _ (gw 103 rfl)) (hw _ (gw 101 rfl)) (hw _ (gw 102 rfl)) e15 (sp := (0 : Int32)) (dp := (24 : Int32)) (nn := (7 : Int32)) (us := [(.int (67 : Int32)), (.int (111 : Int32)), (.int (110 : Int32)), (.int (116 : Int32)), (.int (114 : Int32)), (.int (111 : Int32)), (.int (108 : Int32))]) (V17.ext O0.2) Vp22 (Or.inl ⟨rfl, rfl⟩) (by decide +kernel) (by decide +kernel) (by decide +kernel) (by decide +kernel) (by decide +kernel) rfl (Nat.le_of_ble_eq_true rfl) N8 g_a2 (g := (mkF m 22 #[.val (.ref a1), .val (.ref a2), .val (.int (24 : Int32)), .val (.int (0 : Int32))] [(.int (7 : Int32)), (.int (24 : Int32)), (.ref a2), (.int (0 : Int32)), (.ref a12)])) rfl (by rw [hml]; rfl) rfl (hb hby d14_22) (by decide) (W := 0) (by show 2 * 0 + _ ≤ _; exact Nat.le_of_eq rfl) (by decide +kernel)
  have Ou23 : Old Z n0 h23 := O0.keep Ku23 (allS g_a2 all0)
  have Vc23 : Arv Z h23 a2 k19 .byte (42 : Int32) [(.int (82 : Int32)), (.int (101 : Int32)), (.int (97 : Int32)), (.int (100 : Int32)), (.int (44 : Int32)), (.int (32 : Int32)), (.int (87 : Int32)), (.int (114 : Int32)), (.int (105 : Int32)), (.int (116 : Int32)), (.int (101 : Int32)), (.int (44 : Int32)), (.int (32 : Int32)), (.int (65 : Int32)), (.int (112 : Int32)), (.int (112 : Int32)), (.int (101 : Int32)), (.int (110 : Int32)), (.int (100 : Int32)), (.int (32 : Int32)), (.int (97 : Int32)), (.int (110 : Int32)), (.int (100 : Int32)), (.int (32 : Int32)), (.int (67 : Int32)), (.int (111 : Int32)), (.int (110 : Int32)), (.int (116 : Int32)), (.int (114 : Int32)), (.int (111 : Int32)), (.int (108 : Int32))] (.int (0 : Int32)) := V23
  obtain ⟨fs, hr, hrun, hended, hW, hsame⟩ := X23.leave (v := none) (fun _ => rfl)
  have f24 : Exa Z h23 a2 "[B" := (E_21.keep Ku23)
  refine ⟨_, _, pre0 _ ?_, hrun, hended, _, _, rfl, ?_, ⟨_, rfl⟩, hW, hsame.mono (by decide) (by decide)⟩
  · show Steps p.tables e below (s₁.setTop (mkF m 0 #[.val (.ref a1), .val (.ref a2), .val (.int (24 : Int32)), .val (.int (0 : Int32))] [])) _
    refine XS.aloadN X0.here hx rfl (hb hby d14_0) rfl rfl ?_
    refine st8.trans ?_
    refine XS.iloadN X8.here hx rfl (hb hby d14_4) rfl ?_
    refine XS.icmpNo X8.here hx rfl (hb hby d14_5) rfl (teq (by decide +kernel : (0 : Int32) = (0 : Int32))).2 ?_
    refine XS.aloadN X8.here hx rfl (hb hby d14_8) rfl rfl ?_
    refine st14 _ ?_
    refine XS.iconst X14.here hx rfl (hb hby d14_12) ?_
    refine XS.aloadN X14.here hx rfl (hb hby d14_13) rfl rfl ?_
    refine XS.iloadN X14.here hx rfl (hb hby d14_14) rfl ?_
    show Steps p.tables e below (T14.setTop (mkF m 15 #[.val (.ref a1), .val (.ref a2), .val (.int (24 : Int32)), .val (.int (0 : Int32))] [(.int (24 : Int32)), (.ref a2), (.int (0 : Int32)), (.ref a12)])) _
    refine XS.iloadN X14.here hx rfl (hb hby d14_15) rfl ?_
    refine XS.ishl X14.here hx rfl (hb hby d14_16) rfl ?_
    show Steps p.tables e below (T14.setTop (mkF m 17 #[.val (.ref a1), .val (.ref a2), .val (.int (24 : Int32)), .val (.int (0 : Int32))] [(.int ((24 : Int32) <<< ((0 : Int32) &&& 31))), (.ref a2), (.int (0 : Int32)), (.ref a12)])) _
    rw [(by decide +kernel : ((24 : Int32) <<< ((0 : Int32) &&& 31)) = (24 : Int32))]
    refine XS.aloadN X14.here hx rfl (hb hby d14_17) rfl rfl ?_
    refine st15 _ ?_
    refine X15.arraylength hx (by rw [e15]; exact Ar18.1) (State.isArrayOf_alike hZ.alike Ar18.2.1) (g := (mkF m 21 #[.val (.ref a1), .val (.ref a2), .val (.int (24 : Int32)), .val (.int (0 : Int32))] [(.ref a12), (.int (24 : Int32)), (.ref a2), (.int (0 : Int32)), (.ref a12)])) rfl rfl (hb hby d14_21) _ ?_
    rw [len_of Sz18 Nn18]
    refine st23 _ ?_
    refine XS.goto X23.here hx rfl (pc0 := 25) (pc' := 43) rfl (hb hby d14_25) (by decide) (by decide) ?_
    show Steps p.tables e below (T23.setTop (mkF m 43 #[.val (.ref a1), .val (.ref a2), .val (.int (24 : Int32)), .val (.int (0 : Int32))] [])) _
    exact X23.returnOut hx Bd.returns (hb hby d14_43) hr
  · show Q14_56 Z _ _ _ _ _ _ h0 n0 _ T23.heap _
    rw [e23]
    exact ⟨rfl, N23, ((Keep.refl h0 [a2]).trans Ku23 (allS (Or.inl (List.mem_of_getElem? (i := 0) rfl)) all0)), f24, Vc23⟩
theorem ef_rm12_55 (m : MethodId) (x0 : Addr) (x2 : Addr) : entryFrame m #[(.ref x0), (.int (24 : Int32)), (.ref x2)] 3 = mkF m 0 #[.val (.ref x0), .val (.int (24 : Int32)), .val (.ref x2)] [] := by first | (simp [entryFrame, mkF, argsToLocals, Value.category]; done) | rfl
def Q12_55 (Z : State) (a1 : Addr) (a2 : Addr) (p4 : Int32) (a14 : Addr) (a18 : Addr) (k20 : ClassId) (k22 : ClassId) (h0 : Heap) (n0 : Nat) (v : Option Value) (h : Heap) (L : List Loc) : Prop := (v = none ∧ Fr n0 L ∧ Keep h0 h [a14] ∧ Exa Z h a14 "[B" ∧ Arv Z h a14 k22 .byte (42 : Int32) [(.int (82 : Int32)), (.int (101 : Int32)), (.int (97 : Int32)), (.int (100 : Int32)), (.int (44 : Int32)), (.int (32 : Int32)), (.int (87 : Int32)), (.int (114 : Int32)), (.int (105 : Int32)), (.int (116 : Int32)), (.int (101 : Int32)), (.int (44 : Int32)), (.int (32 : Int32)), (.int (65 : Int32)), (.int (112 : Int32)), (.int (112 : Int32)), (.int (101 : Int32)), (.int (110 : Int32)), (.int (100 : Int32)), (.int (32 : Int32)), (.int (97 : Int32)), (.int (110 : Int32)), (.int (100 : Int32)), (.int (32 : Int32)), (.int (67 : Int32)), (.int (111 : Int32)), (.int (110 : Int32)), (.int (116 : Int32)), (.int (114 : Int32)), (.int (111 : Int32)), (.int (108 : Int32))] (.int (0 : Int32)))
set_option maxRecDepth 65536 in
set_option maxHeartbeats 40000000 in
theorem rm12_55 (l : Launch) (Z : State) (a0 : Array Value) (hw : ∀ d ∈ own_ws, d.before a0 Z = true) (ws : List Jvm.Cond) (a1 : Addr) (a2 : Addr) (p4 : Int32) (a14 : Addr) (a18 : Addr) (k20 : ClassId) (k22 : ClassId) (h0 : Heap) (n0 : Nat) (O0 : Old Z n0 h0) (E_3 : Exa Z h0 a1 C_5) (S_5 : Sta Z Z.heap C_4 "COMPACT_STRINGS" "Z" (.int p4)) (hk6 : ¬ (p4 = (0 : Int32))) (F7 : Fld Z h0 a1 C_2 "coder" "B" (.int (0 : Int32))) (E_8 : Exa Z Z.heap a2 C_4) (F9 : Fld Z Z.heap a2 C_4 "coder" "B" (.int (0 : Int32))) (F15 : Fld Z h0 a1 C_2 "value" "[B" (.ref a14)) (F19 : Fld Z Z.heap a2 C_4 "value" "[B" (.ref a18)) (V21 : Arv Z Z.heap a18 k20 .byte (7 : Int32) [(.int (67 : Int32)), (.int (111 : Int32)), (.int (110 : Int32)), (.int (116 : Int32)), (.int (114 : Int32)), (.int (111 : Int32)), (.int (108 : Int32))] (.int (0 : Int32))) (V23 : Arv Z h0 a14 k22 .byte (42 : Int32) [(.int (82 : Int32)), (.int (101 : Int32)), (.int (97 : Int32)), (.int (100 : Int32)), (.int (44 : Int32)), (.int (32 : Int32)), (.int (87 : Int32)), (.int (114 : Int32)), (.int (105 : Int32)), (.int (116 : Int32)), (.int (101 : Int32)), (.int (44 : Int32)), (.int (32 : Int32)), (.int (65 : Int32)), (.int (112 : Int32)), (.int (112 : Int32)), (.int (101 : Int32)), (.int (110 : Int32)), (.int (100 : Int32)), (.int (32 : Int32)), (.int (97 : Int32)), (.int (110 : Int32)), (.int (100 : Int32)), (.int (32 : Int32))] (.int (0 : Int32))) (E_24 : Exa Z h0 a14 "[B") (g_a14 : n0 ≤ a14) :
    MetFree l M_6 (head1 (Jvm.Cond.code M_6 jdk_68_method_73_code 3 none :: ws) ({ frames := 2, cells := 0, slots := 0, locals := 33 } : Room)) (fun a U => a = #[(.ref a1), (.int (24 : Int32)), (.ref a2)] ∧ Z.Warmed39 U.vm ∧ U.heap = h0) (fun _ _ _ _ _ => True) (fun _ U o U' => ∃ v L, o = .returned v ∧ Q12_55 Z a1 a2 p4 a14 a18 k20 k22 h0 n0 v U'.heap L ∧ FrameEnd U o U' L ({ frames := 2, cells := 0, slots := 0, locals := 33 } : Room).cells ({ frames := 2, cells := 0, slots := 0, locals := 33 } : Room).slots) := by
  refine MetFree.of_bodySF (plainFor_of_name pn_2) hisR ?_
  intro p e s m args below meth c s₁ Bd hml0 hP hK
  obtain ⟨rfl, hZ, hh⟩ := hP
  have hx := Bd.exec
  have hby := Bd.bytes
  have hml : c.maxLocals = 3 := hml0
  have hown : s.vm.findClass "java/lang/AbstractStringBuilder" = some m.cls := findClass_of_methodNamed Bd.named
  have hnm := (name_of_methodNamed Bd.named Bd.method).1
  have X0 : Stand p l e ({ frames := 2, cells := 0, slots := 0, locals := 33 } : Room) s m #[(.ref a1), (.int (24 : Int32)), (.ref a2)] below meth c s₁ [] 0 0 := Stand.of_body Bd
  have e0 : s₁.heap = h0 := by rw [← hh, Bd.state]; rfl
  have N0 := Fr.nil n0
  have pre0 : ∀ t, Steps p.tables e below (s₁.setTop (mkF m 0 #[.val (.ref a1), .val (.int (24 : Int32)), .val (.ref a2)] [])) t → Steps p.tables e below (s₁.setTop (entryFrame m #[(.ref a1), (.int (24 : Int32)), (.ref a2)] 3)) t := fun t k => castTop (ef_rm12_55 m a1 a2) k
  obtain ⟨cq10, q10, q10'⟩ := E_3.cell
  obtain ⟨_, _, ⟨T10, L10, k10, n10⟩, -, X10, ⟨Lc10, hQ10, l10, y10, z10⟩, st10⟩ := X0.privateBack hx (y := M_4) hown (mvT hZ (hw _ (gw 89 rfl))) (mvT hZ (hw _ (gw 90 rfl))) (own_selSelf (args := #[]) (mvT hZ (hw _ (gw 92 rfl))) (Cond.privateMethod_at (mvP hZ (hw _ (gw 91 rfl)) (args := #[]))) (mvT hZ (hw _ (gw 90 rfl))) (by decide)) (Cond.privateMethod_at (mvP hZ (hw _ (gw 91 rfl)) (args := #[]))) (mvT hZ (hw _ (gw 93 rfl))) (by decide) (backOf (W := 0) (rm13_13 l Z a0 hw [] a1 a2 p4 h0 n0  O0 S_5 hk6 F7 E_8 F9) hZ (hw _ (gw 93 rfl)) (hw _ (gw 35 rfl)) (by decide) (by decide)) (g := (mkF m 2 #[.val (.ref a1), .val (.int (24 : Int32)), .val (.ref a2)] [(.ref a2), (.ref a1)])) rfl (by rw [hml]; rfl) (Steps.refl _) (a := a1) (by rw [e0]; exact q10) q10' (argsL := [(.ref a2)]) (rest := []) (lenOf pd_4 rfl) rfl (by show 2 * 0 + _ ≤ _; exact Nat.le_of_eq rfl) (hb hby d12_2) (fun _ _ => ⟨rfl, e0, (by decide : 0 + 0 ≤ _), (by decide : 0 + 0 ≤ _)⟩)
  dsimp only [Pt.U, Pt.locs, Pt.cells, Pt.slots] at X10 l10 y10 z10 st10 hQ10
  subst l10 y10 z10
  obtain ⟨rfl, u12, u13⟩ := hQ10
  have N10 := Fr.app N0 u12
  obtain ⟨T16, X16, e16, st16⟩ := getF X10 hx hZ hown (host := "") (Or.inl (hw _ (gw 61 rfl))) Via.refl u13 F15 (g := (mkF m 7 #[.val (.ref a1), .val (.int (24 : Int32)), .val (.ref a2)] [(.ref a1), (.ref a2)])) rfl rfl (hb hby d12_7)
  obtain ⟨T17, X17, e17, st17⟩ := getF X16 hx hZ hown (host := "") (Or.inl (hw _ (gw 58 rfl))) Via.refl e16 F7 (g := (mkF m 12 #[.val (.ref a1), .val (.int (24 : Int32)), .val (.ref a2)] [(.ref a1), (.int (24 : Int32)), (.ref a14), (.ref a2)])) rfl rfl (hb hby d12_12)
  obtain ⟨cq25, kq25, q25a, q25b, q25c⟩ := isOf hZ e17 (Exa.ext O0.2 E_8)
  obtain ⟨_, _, ⟨T25, L25, k25, n25⟩, -, X25, ⟨Lc25, hQ25, l25, y25, z25⟩, st25⟩ := X17.virtualBack hx (y := M_5) (z := M_5) hown (mvT hZ (hw _ (gw 95 rfl))) (mvT hZ (hw _ (gw 96 rfl))) (notFace_of_selects (args := #[]) (mvT hZ (hw _ (gw 98 rfl)))) (mvT hZ (hw _ (gw 98 rfl))) (mvT hZ (hw _ (gw 97 rfl))) (by decide) (backOf (W := 0) (rm14_56 l Z a0 hw [] a2 a14 p4 a18 k20 k22 h0 n0  O0 E_8 S_5 hk6 F9 F19 V21 V23 E_24 g_a14) hZ (hw _ (gw 99 rfl)) (hw _ (gw 44 rfl)) (by decide) (by decide)) q25a q25c (g := (mkF m 15 #[.val (.ref a1), .val (.int (24 : Int32)), .val (.ref a2)] [(.int (0 : Int32)), (.int (24 : Int32)), (.ref a14), (.ref a2)])) rfl (by rw [hml]; rfl) (Steps.refl _) (argsL := [(.ref a14), (.int (24 : Int32)), (.int (0 : Int32))]) (rest := []) (lenOf pd_5 rfl) rfl (by show 2 * 0 + _ ≤ _; exact Nat.le_of_eq rfl) (hb hby d12_15) (fun _ _ => ⟨rfl, e17, (by decide : 0 + 0 ≤ _), (by decide : 0 + 0 ≤ _)⟩)
  dsimp only [Pt.U, Pt.locs, Pt.cells, Pt.slots] at X25 l25 y25 z25 st25 hQ25
  subst l25 y25 z25
  obtain ⟨rfl, u27, Ku28, u29, u30⟩ := hQ25
  have Ou28 : Old Z n0 T25.heap := O0.keep Ku28 (allS g_a14 all0)
  have N25 := Fr.app N10 u27
  obtain ⟨fs, hr, hrun, hended, hW, hsame⟩ := X25.leave (v := none) (fun _ => rfl)
  refine ⟨_, _, pre0 _ ?_, hrun, hended, _, _, rfl, ?_, ⟨_, rfl⟩, hW, hsame.mono (by decide) (by decide)⟩
  · show Steps p.tables e below (s₁.setTop (mkF m 0 #[.val (.ref a1), .val (.int (24 : Int32)), .val (.ref a2)] [])) _
    refine XS.aloadN X0.here hx rfl (hb hby d12_0) rfl rfl ?_
    refine XS.aloadN X0.here hx rfl (hb hby d12_1) rfl rfl ?_
    refine st10.trans ?_
    refine XS.aloadN X10.here hx rfl (hb hby d12_5) rfl rfl ?_
    refine XS.aloadN X10.here hx rfl (hb hby d12_6) rfl rfl ?_
    refine st16 _ ?_
    refine XS.iloadN X16.here hx rfl (hb hby d12_10) rfl ?_
    refine XS.aloadN X16.here hx rfl (hb hby d12_11) rfl rfl ?_
    refine st17 _ ?_
    show Steps p.tables e below (T17.setTop (mkF m 15 #[.val (.ref a1), .val (.int (24 : Int32)), .val (.ref a2)] [(.int (0 : Int32)), (.int (24 : Int32)), (.ref a14), (.ref a2)])) _
    refine st25.trans ?_
    show Steps p.tables e below (T25.setTop (mkF m 18 #[.val (.ref a1), .val (.int (24 : Int32)), .val (.ref a2)] [])) _
    exact X25.returnOut hx Bd.returns (hb hby d12_18) hr
  · show Q12_55 Z _ _ _ _ _ _ _ h0 n0 _ T25.heap _
    exact ⟨rfl, N25, ((Keep.refl h0 [a14]).trans Ku28 (allS (Or.inl (List.mem_of_getElem? (i := 0) rfl)) all0)), u29, u30⟩
theorem ef_rm10_52 (m : MethodId) (x0 : Addr) (x1 : Addr) : entryFrame m #[(.ref x0), (.ref x1)] 3 = mkF m 0 #[.val (.ref x0), .val (.ref x1), .unset] [] := by first | (simp [entryFrame, mkF, argsToLocals, Value.category]; done) | rfl
def Q10_52 (Z : State) (a1 : Addr) (a2 : Addr) (a4 : Addr) (k6 : ClassId) (p8 : Int32) (a19 : Addr) (k21 : ClassId) (h0 : Heap) (n0 : Nat) (v : Option Value) (h : Heap) (L : List Loc) : Prop := (v = some (.ref a1) ∧ Fr n0 L ∧ Keep h0 h [a19, a1] ∧ Exa Z h a1 C_5 ∧ Fld Z h a1 C_2 "coder" "B" (.int (0 : Int32)) ∧ Fld Z h a1 C_2 "count" "I" (.int (31 : Int32)) ∧ Fld Z h a1 C_2 "value" "[B" (.ref a19) ∧ Exa Z h a19 "[B" ∧ Arv Z h a19 k21 .byte (42 : Int32) [(.int (82 : Int32)), (.int (101 : Int32)), (.int (97 : Int32)), (.int (100 : Int32)), (.int (44 : Int32)), (.int (32 : Int32)), (.int (87 : Int32)), (.int (114 : Int32)), (.int (105 : Int32)), (.int (116 : Int32)), (.int (101 : Int32)), (.int (44 : Int32)), (.int (32 : Int32)), (.int (65 : Int32)), (.int (112 : Int32)), (.int (112 : Int32)), (.int (101 : Int32)), (.int (110 : Int32)), (.int (100 : Int32)), (.int (32 : Int32)), (.int (97 : Int32)), (.int (110 : Int32)), (.int (100 : Int32)), (.int (32 : Int32)), (.int (67 : Int32)), (.int (111 : Int32)), (.int (110 : Int32)), (.int (116 : Int32)), (.int (114 : Int32)), (.int (111 : Int32)), (.int (108 : Int32))] (.int (0 : Int32)))
set_option maxRecDepth 65536 in
set_option maxHeartbeats 40000000 in
theorem rm10_52 (l : Launch) (Z : State) (a0 : Array Value) (hw : ∀ d ∈ own_ws, d.before a0 Z = true) (ws : List Jvm.Cond) (a1 : Addr) (a2 : Addr) (a4 : Addr) (k6 : ClassId) (p8 : Int32) (a19 : Addr) (k21 : ClassId) (h0 : Heap) (n0 : Nat) (O0 : Old Z n0 h0) (E_3 : Exa Z Z.heap a2 C_4) (F5 : Fld Z Z.heap a2 C_4 "value" "[B" (.ref a4)) (V7 : Arv Z Z.heap a4 k6 .byte (7 : Int32) [(.int (67 : Int32)), (.int (111 : Int32)), (.int (110 : Int32)), (.int (116 : Int32)), (.int (114 : Int32)), (.int (111 : Int32)), (.int (108 : Int32))] (.int (0 : Int32))) (S_9 : Sta Z Z.heap C_4 "COMPACT_STRINGS" "Z" (.int p8)) (hk10 : ¬ (p8 = (0 : Int32))) (F11 : Fld Z Z.heap a2 C_4 "coder" "B" (.int (0 : Int32))) (F16 : Fld Z h0 a1 C_2 "count" "I" (.int (24 : Int32))) (E_18 : Exa Z h0 a1 C_5) (F20 : Fld Z h0 a1 C_2 "value" "[B" (.ref a19)) (V22 : Arv Z h0 a19 k21 .byte (42 : Int32) [(.int (82 : Int32)), (.int (101 : Int32)), (.int (97 : Int32)), (.int (100 : Int32)), (.int (44 : Int32)), (.int (32 : Int32)), (.int (87 : Int32)), (.int (114 : Int32)), (.int (105 : Int32)), (.int (116 : Int32)), (.int (101 : Int32)), (.int (44 : Int32)), (.int (32 : Int32)), (.int (65 : Int32)), (.int (112 : Int32)), (.int (112 : Int32)), (.int (101 : Int32)), (.int (110 : Int32)), (.int (100 : Int32)), (.int (32 : Int32)), (.int (97 : Int32)), (.int (110 : Int32)), (.int (100 : Int32)), (.int (32 : Int32))] (.int (0 : Int32))) (F23 : Fld Z h0 a1 C_2 "coder" "B" (.int (0 : Int32))) (E_29 : Exa Z h0 a19 "[B") (g_a19 : n0 ≤ a19) (hne36 : a1 ≠ a19) (g_a1 : n0 ≤ a1) :
    MetFree l M_7 (head1 (Jvm.Cond.code M_7 jdk_68_method_22_code 3 (some (.object "java/lang/AbstractStringBuilder")) :: ws) ({ frames := 3, cells := 0, slots := 0, locals := 47 } : Room)) (fun a U => a = #[(.ref a1), (.ref a2)] ∧ Z.Warmed39 U.vm ∧ U.heap = h0) (fun _ _ _ _ _ => True) (fun _ U o U' => ∃ v L, o = .returned v ∧ Q10_52 Z a1 a2 a4 k6 p8 a19 k21 h0 n0 v U'.heap L ∧ FrameEnd U o U' L ({ frames := 3, cells := 0, slots := 0, locals := 47 } : Room).cells ({ frames := 3, cells := 0, slots := 0, locals := 47 } : Room).slots) := by
  refine MetFree.of_bodySF (plainFor_of_name pn_2) hisR ?_
  intro p e s m args below meth c s₁ Bd hml0 hP hK
  obtain ⟨rfl, hZ, hh⟩ := hP
  have hx := Bd.exec
  have hby := Bd.bytes
  have hml : c.maxLocals = 3 := hml0
  have hown : s.vm.findClass "java/lang/AbstractStringBuilder" = some m.cls := findClass_of_methodNamed Bd.named
  have hnm := (name_of_methodNamed Bd.named Bd.method).1
  have X0 : Stand p l e ({ frames := 3, cells := 0, slots := 0, locals := 47 } : Room) s m #[(.ref a1), (.ref a2)] below meth c s₁ [] 0 0 := Stand.of_body Bd
  have e0 : s₁.heap = h0 := by rw [← hh, Bd.state]; rfl
  have N0 := Fr.nil n0
  have pre0 : ∀ t, Steps p.tables e below (s₁.setTop (mkF m 0 #[.val (.ref a1), .val (.ref a2), .unset] [])) t → Steps p.tables e below (s₁.setTop (entryFrame m #[(.ref a1), (.ref a2)] 3)) t := fun t k => castTop (ef_rm10_52 m a1 a2) k
  obtain ⟨cq12, kq12, q12a, q12b, q12c⟩ := isOf hZ e0 (Exa.ext O0.2 E_3)
  obtain ⟨_, _, ⟨T12, L12, k12, n12⟩, -, X12, ⟨Lc12, hQ12, l12, y12, z12⟩, st12⟩ := X0.virtualBack hx (y := M_2) (z := M_2) hown (mvT hZ (hw _ (gw 40 rfl))) (mvT hZ (hw _ (gw 41 rfl))) (notFace_of_selects (args := #[]) (mvT hZ (hw _ (gw 43 rfl)))) (mvT hZ (hw _ (gw 43 rfl))) (mvT hZ (hw _ (gw 42 rfl))) (by decide) (backOf (W := 0) (rm6_53 l Z a0 hw [] a2 a4 k6 p8 h0 n0  O0 F5 V7 E_3 S_9 hk10 F11) hZ (hw _ (gw 45 rfl)) (hw _ (gw 44 rfl)) (by decide) (by decide)) q12a q12c (g := (mkF m 10 #[.val (.ref a1), .val (.ref a2), .unset] [(.ref a2)])) rfl (by rw [hml]; rfl) (Steps.refl _) (argsL := []) (rest := []) (lenOf pd_2 rfl) rfl (by show 2 * 0 + _ ≤ _; exact Nat.le_of_eq rfl) (hb hby d10_10) (fun _ _ => ⟨rfl, e0, (by decide : 0 + 0 ≤ _), (by decide : 0 + 0 ≤ _)⟩)
  dsimp only [Pt.U, Pt.locs, Pt.cells, Pt.slots] at X12 l12 y12 z12 st12 hQ12
  subst l12 y12 z12
  obtain ⟨rfl, u14, u15⟩ := hQ12
  have N12 := Fr.app N0 u14
  obtain ⟨T17, X17, e17, st17⟩ := getF X12 hx hZ hown (host := "") (Or.inl (hw _ (gw 77 rfl))) Via.refl u15 F16 (g := (mkF m 16 #[.val (.ref a1), .val (.ref a2), .val (.int (7 : Int32))] [(.ref a1), (.ref a1)])) rfl rfl (hb hby d10_16)
  obtain ⟨cq24, q24, q24'⟩ := E_18.cell
  obtain ⟨_, _, ⟨T24, L24, k24, n24⟩, -, X24, ⟨Lc24, hQ24, l24, y24, z24⟩, st24⟩ := X17.privateBack hx (y := M_3) hown (mvT hZ (hw _ (gw 79 rfl))) (mvT hZ (hw _ (gw 80 rfl))) (own_selSelf (args := #[]) (mvT hZ (hw _ (gw 82 rfl))) (Cond.privateMethod_at (mvP hZ (hw _ (gw 81 rfl)) (args := #[]))) (mvT hZ (hw _ (gw 80 rfl))) (by decide)) (Cond.privateMethod_at (mvP hZ (hw _ (gw 81 rfl)) (args := #[]))) (mvT hZ (hw _ (gw 83 rfl))) (by decide) (backOf (W := 0) (rm11_54 l Z a0 hw [] a1 a19 k21 h0 n0  O0 F20 V22 F23) hZ (hw _ (gw 83 rfl)) (hw _ (gw 35 rfl)) (by decide) (by decide)) (g := (mkF m 21 #[.val (.ref a1), .val (.ref a2), .val (.int (7 : Int32))] [(.int (31 : Int32)), (.ref a1)])) rfl (by rw [hml]; rfl) (Steps.refl _) (a := a1) (by rw [e17]; exact q24) q24' (argsL := [(.int (31 : Int32))]) (rest := []) (lenOf pd_3 rfl) rfl (by show 2 * 0 + _ ≤ _; exact Nat.le_of_eq rfl) (hb hby d10_21) (fun _ _ => ⟨rfl, e17, (by decide : 0 + 0 ≤ _), (by decide : 0 + 0 ≤ _)⟩)
  dsimp only [Pt.U, Pt.locs, Pt.cells, Pt.slots] at X24 l24 y24 z24 st24 hQ24
  subst l24 y24 z24
  obtain ⟨rfl, u26, u27⟩ := hQ24
  have N24 := Fr.app N12 u26
  obtain ⟨T28, X28, e28, st28⟩ := getF X24 hx hZ hown (host := "") (Or.inl (hw _ (gw 77 rfl))) Via.refl u27 F16 (g := (mkF m 26 #[.val (.ref a1), .val (.ref a2), .val (.int (7 : Int32))] [(.ref a1), (.ref a1)])) rfl rfl (hb hby d10_26)
  obtain ⟨cq30, q30, q30'⟩ := E_18.cell
  obtain ⟨_, _, ⟨T30, L30, k30, n30⟩, -, X30, ⟨Lc30, hQ30, l30, y30, z30⟩, st30⟩ := X28.privateBack hx (y := M_6) hown (mvT hZ (hw _ (gw 84 rfl))) (mvT hZ (hw _ (gw 85 rfl))) (own_selSelf (args := #[]) (mvT hZ (hw _ (gw 87 rfl))) (Cond.privateMethod_at (mvP hZ (hw _ (gw 86 rfl)) (args := #[]))) (mvT hZ (hw _ (gw 85 rfl))) (by decide)) (Cond.privateMethod_at (mvP hZ (hw _ (gw 86 rfl)) (args := #[]))) (mvT hZ (hw _ (gw 88 rfl))) (by decide) (backOf (W := 0) (rm12_55 l Z a0 hw [] a1 a2 p8 a19 a4 k6 k21 h0 n0  O0 E_18 S_9 hk10 F23 E_3 F11 F20 F5 V7 V22 E_29 g_a19) hZ (hw _ (gw 88 rfl)) (hw _ (gw 35 rfl)) (by decide) (by decide)) (g := (mkF m 30 #[.val (.ref a1), .val (.ref a2), .val (.int (7 : Int32))] [(.ref a2), (.int (24 : Int32)), (.ref a1)])) rfl (by rw [hml]; rfl) (Steps.refl _) (a := a1) (by rw [e28]; exact q30) q30' (argsL := [(.int (24 : Int32)), (.ref a2)]) (rest := []) (lenOf pd_6 rfl) rfl (by show 2 * 0 + _ ≤ _; exact Nat.le_of_eq rfl) (hb hby d10_30) (fun _ _ => ⟨rfl, e28, (by decide : 0 + 0 ≤ _), (by decide : 0 + 0 ≤ _)⟩)
  dsimp only [Pt.U, Pt.locs, Pt.cells, Pt.slots] at X30 l30 y30 z30 st30 hQ30
  subst l30 y30 z30
  obtain ⟨rfl, u32, Ku33, u34, u35⟩ := hQ30
  have Ou33 : Old Z n0 T30.heap := O0.keep Ku33 (allS g_a19 all0)
  have N30 := Fr.app N24 u32
  have f37 : Fld Z T30.heap a1 C_2 "count" "I" (.int (24 : Int32)) := (F16.keep Ku33 (ninS hne36 nin0))
  obtain ⟨T38, X38, e38, st38⟩ := getF X30 hx hZ hown (host := "") (Or.inl (hw _ (gw 77 rfl))) Via.refl rfl f37 (g := (mkF m 35 #[.val (.ref a1), .val (.ref a2), .val (.int (7 : Int32))] [(.ref a1), (.ref a1)])) rfl rfl (hb hby d10_35)
  have f39 : Exa Z T30.heap a1 C_5 := (E_18.keep Ku33)
  obtain ⟨T40, h40, X40, e40, W40, st40⟩ := putF X38 hx hZ hown (host := "") (Or.inl (hw _ (gw 77 rfl))) Via.refl e38 f37 f39 (Or.inl (hw _ (gw 78 rfl))) (hw _ (gw 24 rfl)) (ty := .int) (by decide) rfl rfl (g := (mkF m 40 #[.val (.ref a1), .val (.ref a2), .val (.int (7 : Int32))] [(.int (31 : Int32)), (.ref a1)])) rfl rfl (hb hby d10_40)
  have O40 : Old Z n0 h40 := Ou33.wr W40 g_a1
  have Fw40 : Fld Z h40 a1 C_2 "count" "I" (.int (31 : Int32)) := Fld.same W40 f37
  have N40 := Fr.snoc X40 N30 g_a1
  obtain ⟨fs, hr, hrun, hended, hW, hsame⟩ := X40.leave (v := some (.ref a1)) (fun h => by rw [Bd.returns] at h; cases h)
  have f41 : Exa Z h40 a1 C_5 := (Exa.wr W40 f39)
  have f42 : Fld Z h40 a1 C_2 "coder" "B" (.int (0 : Int32)) := (Fld.other W40 (F23.keep Ku33 (ninS hne36 nin0)) (Or.inr (slot_ne (Or.inl (hw _ (gw 59 rfl))) (Or.inl (hw _ (gw 78 rfl))) (by decide) (t := .byte) (t' := .int) (by decide) (by decide))))
  have f43 : Fld Z h40 a1 C_2 "value" "[B" (.ref a19) := (Fld.other W40 (F20.keep Ku33 (ninS hne36 nin0)) (Or.inr (slot_ne (Or.inl (hw _ (gw 62 rfl))) (Or.inl (hw _ (gw 78 rfl))) (by decide) (t := (.array .byte)) (t' := .int) (by decide) (by decide))))
  have f44 : Exa Z h40 a19 "[B" := (Exa.wr W40 u34)
  have f45 : Arv Z h40 a19 k21 .byte (42 : Int32) [(.int (82 : Int32)), (.int (101 : Int32)), (.int (97 : Int32)), (.int (100 : Int32)), (.int (44 : Int32)), (.int (32 : Int32)), (.int (87 : Int32)), (.int (114 : Int32)), (.int (105 : Int32)), (.int (116 : Int32)), (.int (101 : Int32)), (.int (44 : Int32)), (.int (32 : Int32)), (.int (65 : Int32)), (.int (112 : Int32)), (.int (112 : Int32)), (.int (101 : Int32)), (.int (110 : Int32)), (.int (100 : Int32)), (.int (32 : Int32)), (.int (97 : Int32)), (.int (110 : Int32)), (.int (100 : Int32)), (.int (32 : Int32)), (.int (67 : Int32)), (.int (111 : Int32)), (.int (110 : Int32)), (.int (116 : Int32)), (.int (114 : Int32)), (.int (111 : Int32)), (.int (108 : Int32))] (.int (0 : Int32)) := (u35.other W40 (Ne.symm hne36))
  refine ⟨_, _, pre0 _ ?_, hrun, hended, _, _, rfl, ?_, ⟨_, rfl⟩, hW, hsame.mono (by decide) (by decide)⟩
  · show Steps p.tables e below (s₁.setTop (mkF m 0 #[.val (.ref a1), .val (.ref a2), .unset] [])) _
    refine XS.aloadN X0.here hx rfl (hb hby d10_0) rfl rfl ?_
    refine XS.ifnonnullYes X0.here hx rfl (pc0 := 1) (pc' := 9) rfl (hb hby d10_1) rfl (by decide) (by decide) ?_
    refine XS.aloadN X0.here hx rfl (hb hby d10_9) rfl rfl ?_
    refine st12.trans ?_
    refine XS.istoreN X12.here hx rfl (hb hby d10_13) rfl (l' := #[.val (.ref a1), .val (.ref a2), .val (.int (7 : Int32))]) rfl ?_
    refine XS.aloadN X12.here hx rfl (hb hby d10_14) rfl rfl ?_
    refine XS.aloadN X12.here hx rfl (hb hby d10_15) rfl rfl ?_
    refine st17 _ ?_
    refine XS.iloadN X17.here hx rfl (hb hby d10_19) rfl ?_
    show Steps p.tables e below (T17.setTop (mkF m 20 #[.val (.ref a1), .val (.ref a2), .val (.int (7 : Int32))] [(.int (7 : Int32)), (.int (24 : Int32)), (.ref a1)])) _
    refine XS.iadd X17.here hx rfl (hb hby d10_20) rfl ?_
    show Steps p.tables e below (T17.setTop (mkF m 21 #[.val (.ref a1), .val (.ref a2), .val (.int (7 : Int32))] [(.int ((24 : Int32) + (7 : Int32))), (.ref a1)])) _
    rw [(by decide +kernel : ((24 : Int32) + (7 : Int32)) = (31 : Int32))]
    refine st24.trans ?_
    refine XS.aloadN X24.here hx rfl (hb hby d10_24) rfl rfl ?_
    refine XS.aloadN X24.here hx rfl (hb hby d10_25) rfl rfl ?_
    refine st28 _ ?_
    refine XS.aloadN X28.here hx rfl (hb hby d10_29) rfl rfl ?_
    refine st30.trans ?_
    refine XS.aloadN X30.here hx rfl (hb hby d10_33) rfl rfl ?_
    refine XS.dup X30.here hx rfl (hb hby d10_34) rfl rfl ?_
    show Steps p.tables e below (T30.setTop (mkF m 35 #[.val (.ref a1), .val (.ref a2), .val (.int (7 : Int32))] [(.ref a1), (.ref a1)])) _
    refine st38 _ ?_
    refine XS.iloadN X38.here hx rfl (hb hby d10_38) rfl ?_
    refine XS.iadd X38.here hx rfl (hb hby d10_39) rfl ?_
    show Steps p.tables e below (T38.setTop (mkF m 40 #[.val (.ref a1), .val (.ref a2), .val (.int (7 : Int32))] [(.int ((24 : Int32) + (7 : Int32))), (.ref a1)])) _
    rw [(by decide +kernel : ((24 : Int32) + (7 : Int32)) = (31 : Int32))]
    refine st40 _ ?_
    refine XS.aloadN X40.here hx rfl (hb hby d10_43) rfl rfl ?_
    show Steps p.tables e below (T40.setTop (mkF m 44 #[.val (.ref a1), .val (.ref a2), .val (.int (7 : Int32))] [(.ref a1)])) _
    jvm_step X40.here [X40.here.top, hx, (hb hby d10_44), X40.method', Bd.returns, Value.isRef, FieldType.isReference]
    first | (intro acts; rw [hr _ acts rfl rfl rfl]) | rw [hr _ _ rfl rfl rfl]
    exact Steps.refl _
  · show Q10_52 Z _ _ _ _ _ _ _ h0 n0 _ T40.heap _
    rw [e40]
    exact ⟨rfl, N40, (((Keep.refl h0 [a19, a1]).trans Ku33 (allS (Or.inl (List.mem_of_getElem? (i := 0) rfl)) all0)).wr W40 (Or.inl (List.mem_of_getElem? (i := 1) rfl))), f41, f42, Fw40, f43, f44, f45⟩
theorem ef_rm9_51 (m : MethodId) (x0 : Addr) (x1 : Addr) : entryFrame m #[(.ref x0), (.ref x1)] 2 = mkF m 0 #[.val (.ref x0), .val (.ref x1)] [] := by first | (simp [entryFrame, mkF, argsToLocals, Value.category]; done) | rfl
def Q9_51 (Z : State) (a1 : Addr) (a2 : Addr) (a5 : Addr) (k7 : ClassId) (p9 : Int32) (a14 : Addr) (k16 : ClassId) (h0 : Heap) (n0 : Nat) (v : Option Value) (h : Heap) (L : List Loc) : Prop := (v = some (.ref a1) ∧ Fr n0 L ∧ Keep h0 h [a14, a1] ∧ Exa Z h a1 C_5 ∧ Fld Z h a1 C_2 "coder" "B" (.int (0 : Int32)) ∧ Fld Z h a1 C_2 "count" "I" (.int (31 : Int32)) ∧ Fld Z h a1 C_2 "value" "[B" (.ref a14) ∧ Exa Z h a14 "[B" ∧ Arv Z h a14 k16 .byte (42 : Int32) [(.int (82 : Int32)), (.int (101 : Int32)), (.int (97 : Int32)), (.int (100 : Int32)), (.int (44 : Int32)), (.int (32 : Int32)), (.int (87 : Int32)), (.int (114 : Int32)), (.int (105 : Int32)), (.int (116 : Int32)), (.int (101 : Int32)), (.int (44 : Int32)), (.int (32 : Int32)), (.int (65 : Int32)), (.int (112 : Int32)), (.int (112 : Int32)), (.int (101 : Int32)), (.int (110 : Int32)), (.int (100 : Int32)), (.int (32 : Int32)), (.int (97 : Int32)), (.int (110 : Int32)), (.int (100 : Int32)), (.int (32 : Int32)), (.int (67 : Int32)), (.int (111 : Int32)), (.int (110 : Int32)), (.int (116 : Int32)), (.int (114 : Int32)), (.int (111 : Int32)), (.int (108 : Int32))] (.int (0 : Int32)))
set_option maxRecDepth 65536 in
set_option maxHeartbeats 40000000 in
theorem rm9_51 (l : Launch) (Z : State) (a0 : Array Value) (hw : ∀ d ∈ own_ws, d.before a0 Z = true) (ws : List Jvm.Cond) (a1 : Addr) (a2 : Addr) (a5 : Addr) (k7 : ClassId) (p9 : Int32) (a14 : Addr) (k16 : ClassId) (h0 : Heap) (n0 : Nat) (O0 : Old Z n0 h0) (E_3 : Exa Z h0 a1 C_5) (E_4 : Exa Z Z.heap a2 C_4) (F6 : Fld Z Z.heap a2 C_4 "value" "[B" (.ref a5)) (V8 : Arv Z Z.heap a5 k7 .byte (7 : Int32) [(.int (67 : Int32)), (.int (111 : Int32)), (.int (110 : Int32)), (.int (116 : Int32)), (.int (114 : Int32)), (.int (111 : Int32)), (.int (108 : Int32))] (.int (0 : Int32))) (S_10 : Sta Z Z.heap C_4 "COMPACT_STRINGS" "Z" (.int p9)) (hk11 : ¬ (p9 = (0 : Int32))) (F12 : Fld Z Z.heap a2 C_4 "coder" "B" (.int (0 : Int32))) (F13 : Fld Z h0 a1 C_2 "count" "I" (.int (24 : Int32))) (F15 : Fld Z h0 a1 C_2 "value" "[B" (.ref a14)) (V17 : Arv Z h0 a14 k16 .byte (42 : Int32) [(.int (82 : Int32)), (.int (101 : Int32)), (.int (97 : Int32)), (.int (100 : Int32)), (.int (44 : Int32)), (.int (32 : Int32)), (.int (87 : Int32)), (.int (114 : Int32)), (.int (105 : Int32)), (.int (116 : Int32)), (.int (101 : Int32)), (.int (44 : Int32)), (.int (32 : Int32)), (.int (65 : Int32)), (.int (112 : Int32)), (.int (112 : Int32)), (.int (101 : Int32)), (.int (110 : Int32)), (.int (100 : Int32)), (.int (32 : Int32)), (.int (97 : Int32)), (.int (110 : Int32)), (.int (100 : Int32)), (.int (32 : Int32))] (.int (0 : Int32))) (F18 : Fld Z h0 a1 C_2 "coder" "B" (.int (0 : Int32))) (E_19 : Exa Z h0 a14 "[B") (hne20 : a1 ≠ a14) (g_a14 : n0 ≤ a14) (g_a1 : n0 ≤ a1) :
    MetFree l M_8 (head1 (Jvm.Cond.code M_8 jdk_67_method_7_code 2 (some (.object "java/lang/StringBuilder")) :: ws) ({ frames := 4, cells := 0, slots := 0, locals := 61 } : Room)) (fun a U => a = #[(.ref a1), (.ref a2)] ∧ Z.Warmed39 U.vm ∧ U.heap = h0) (fun _ _ _ _ _ => True) (fun _ U o U' => ∃ v L, o = .returned v ∧ Q9_51 Z a1 a2 a5 k7 p9 a14 k16 h0 n0 v U'.heap L ∧ FrameEnd U o U' L ({ frames := 4, cells := 0, slots := 0, locals := 61 } : Room).cells ({ frames := 4, cells := 0, slots := 0, locals := 61 } : Room).slots) := by
  refine MetFree.of_bodySF (plainFor_of_name pn_3) hisR ?_
  intro p e s m args below meth c s₁ Bd hml0 hP hK
  obtain ⟨rfl, hZ, hh⟩ := hP
  have hx := Bd.exec
  have hby := Bd.bytes
  have hml : c.maxLocals = 2 := hml0
  have hown : s.vm.findClass "java/lang/StringBuilder" = some m.cls := findClass_of_methodNamed Bd.named
  have hnm := (name_of_methodNamed Bd.named Bd.method).1
  have X0 : Stand p l e ({ frames := 4, cells := 0, slots := 0, locals := 61 } : Room) s m #[(.ref a1), (.ref a2)] below meth c s₁ [] 0 0 := Stand.of_body Bd
  have e0 : s₁.heap = h0 := by rw [← hh, Bd.state]; rfl
  have N0 := Fr.nil n0
  have pre0 : ∀ t, Steps p.tables e below (s₁.setTop (mkF m 0 #[.val (.ref a1), .val (.ref a2)] [])) t → Steps p.tables e below (s₁.setTop (entryFrame m #[(.ref a1), (.ref a2)] 2)) t := fun t k => castTop (ef_rm9_51 m a1 a2) k
  obtain ⟨_, _, ⟨T21, L21, k21, n21⟩, -, X21, ⟨Lc21, hQ21, l21, y21, z21⟩, st21⟩ := superBack X0 hx hZ (y := M_7) hown (hw _ (gw 74 rfl)) (own_sameSelf (y := M_7) (y' := M_3) rfl (hw _ (gw 82 rfl)) (hw _ (gw 65 rfl)) (by decide)) (hw _ (gw 65 rfl)) (hw _ (gw 75 rfl)) (by decide) (backOf (W := 0) (rm10_52 l Z a0 hw [] a1 a2 a5 k7 p9 a14 k16 h0 n0  O0 E_4 F6 V8 S_10 hk11 F12 F13 E_3 F15 V17 F18 E_19 g_a14 hne20 g_a1) hZ (hw _ (gw 76 rfl)) (hw _ (gw 35 rfl)) (by decide) (by decide)) e0 (Ins.self E_3) (g := (mkF m 2 #[.val (.ref a1), .val (.ref a2)] [(.ref a2), (.ref a1)])) rfl (by rw [hml]; rfl) (hw _ (gw 76 rfl)) (argsL := [(.ref a2)]) (rest := []) (lenOf pd_7 rfl) rfl (by show 2 * 0 + _ ≤ _; exact Nat.le_of_eq rfl) (hb hby d9_2) (fun _ _ => ⟨rfl, e0, (by decide : 0 + 0 ≤ _), (by decide : 0 + 0 ≤ _)⟩)
  dsimp only [Pt.U, Pt.locs, Pt.cells, Pt.slots] at X21 l21 y21 z21 st21 hQ21
  subst l21 y21 z21
  obtain ⟨rfl, u23, Ku24, u25, u26, u27, u28, u29, u30⟩ := hQ21
  have Ou24 : Old Z n0 T21.heap := O0.keep Ku24 (allS g_a14 (allS g_a1 all0))
  have N21 := Fr.app N0 u23
  obtain ⟨fs, hr, hrun, hended, hW, hsame⟩ := X21.leave (v := some (.ref a1)) (fun h => by rw [Bd.returns] at h; cases h)
  refine ⟨_, _, pre0 _ ?_, hrun, hended, _, _, rfl, ?_, ⟨_, rfl⟩, hW, hsame.mono (by decide) (by decide)⟩
  · show Steps p.tables e below (s₁.setTop (mkF m 0 #[.val (.ref a1), .val (.ref a2)] [])) _
    refine XS.aloadN X0.here hx rfl (hb hby d9_0) rfl rfl ?_
    refine XS.aloadN X0.here hx rfl (hb hby d9_1) rfl rfl ?_
    refine st21.trans ?_
    refine XS.pop X21.here hx rfl (hb hby d9_5) rfl rfl ?_
    refine XS.aloadN X21.here hx rfl (hb hby d9_6) rfl rfl ?_
    show Steps p.tables e below (T21.setTop (mkF m 7 #[.val (.ref a1), .val (.ref a2)] [(.ref a1)])) _
    jvm_step X21.here [X21.here.top, hx, (hb hby d9_7), X21.method', Bd.returns, Value.isRef, FieldType.isReference]
    first | (intro acts; rw [hr _ acts rfl rfl rfl]) | rw [hr _ _ rfl rfl rfl]
    exact Steps.refl _
  · show Q9_51 Z _ _ _ _ _ _ _ h0 n0 _ T21.heap _
    exact ⟨rfl, N21, ((Keep.refl h0 [a14, a1]).trans Ku24 (allS (Or.inl (List.mem_of_getElem? (i := 0) rfl)) (allS (Or.inl (List.mem_of_getElem? (i := 1) rfl)) all0))), u25, u26, u27, u28, u29, u30⟩
theorem ef_rm23_60 (m : MethodId) (x0 : Addr) : entryFrame m #[(.ref x0)] 1 = mkF m 0 #[.val (.ref x0)] [] := by first | (simp [entryFrame, mkF, argsToLocals, Value.category]; done) | rfl
def Q23_60 (Z : State) (a1 : Addr) (a2 : Addr) (h0 : Heap) (n0 : Nat) (v : Option Value) (h : Heap) (L : List Loc) : Prop := (v = some (.ref a2) ∧ Fr n0 L ∧ h = h0)
set_option maxRecDepth 65536 in
set_option maxHeartbeats 40000000 in
theorem rm23_60 (l : Launch) (Z : State) (a0 : Array Value) (hw : ∀ d ∈ own_ws, d.before a0 Z = true) (ws : List Jvm.Cond) (a1 : Addr) (a2 : Addr) (h0 : Heap) (n0 : Nat) (O0 : Old Z n0 h0) (F3 : Fld Z h0 a1 C_2 "value" "[B" (.ref a2)) :
    MetFree l M_17 (head1 (Jvm.Cond.code M_17 jdk_68_method_64_code 1 (some (.array .byte)) :: ws) ({ frames := 0, cells := 0, slots := 0, locals := 0 } : Room)) (fun a U => a = #[(.ref a1)] ∧ Z.Warmed39 U.vm ∧ U.heap = h0) (fun _ _ _ _ _ => True) (fun _ U o U' => ∃ v L, o = .returned v ∧ Q23_60 Z a1 a2 h0 n0 v U'.heap L ∧ FrameEnd U o U' L ({ frames := 0, cells := 0, slots := 0, locals := 0 } : Room).cells ({ frames := 0, cells := 0, slots := 0, locals := 0 } : Room).slots) := by
  refine MetFree.of_bodySF (plainFor_of_name pn_2) hisR ?_
  intro p e s m args below meth c s₁ Bd hml0 hP hK
  obtain ⟨rfl, hZ, hh⟩ := hP
  have hx := Bd.exec
  have hby := Bd.bytes
  have hml : c.maxLocals = 1 := hml0
  have hown : s.vm.findClass "java/lang/AbstractStringBuilder" = some m.cls := findClass_of_methodNamed Bd.named
  have hnm := (name_of_methodNamed Bd.named Bd.method).1
  have X0 : Stand p l e ({ frames := 0, cells := 0, slots := 0, locals := 0 } : Room) s m #[(.ref a1)] below meth c s₁ [] 0 0 := Stand.of_body Bd
  have e0 : s₁.heap = h0 := by rw [← hh, Bd.state]; rfl
  have N0 := Fr.nil n0
  have pre0 : ∀ t, Steps p.tables e below (s₁.setTop (mkF m 0 #[.val (.ref a1)] [])) t → Steps p.tables e below (s₁.setTop (entryFrame m #[(.ref a1)] 1)) t := fun t k => castTop (ef_rm23_60 m a1) k
  obtain ⟨T4, X4, e4, st4⟩ := getF X0 hx hZ hown (host := "") (Or.inl (hw _ (gw 61 rfl))) Via.refl e0 F3 (g := (mkF m 1 #[.val (.ref a1)] [(.ref a1)])) rfl rfl (hb hby d23_1)
  obtain ⟨fs, hr, hrun, hended, hW, hsame⟩ := X4.leave (v := some (.ref a2)) (fun h => by rw [Bd.returns] at h; cases h)
  refine ⟨_, _, pre0 _ ?_, hrun, hended, _, _, rfl, ?_, ⟨_, rfl⟩, hW, hsame.mono (by decide) (by decide)⟩
  · show Steps p.tables e below (s₁.setTop (mkF m 0 #[.val (.ref a1)] [])) _
    refine XS.aloadN X0.here hx rfl (hb hby d23_0) rfl rfl ?_
    refine st4 _ ?_
    show Steps p.tables e below (T4.setTop (mkF m 4 #[.val (.ref a1)] [(.ref a2)])) _
    jvm_step X4.here [X4.here.top, hx, (hb hby d23_4), X4.method', Bd.returns, Value.isRef, FieldType.isReference]
    first | (intro acts; rw [hr _ acts rfl rfl rfl]) | rw [hr _ _ rfl rfl rfl]
    exact Steps.refl _
  · show Q23_60 Z _ _ h0 n0 _ T4.heap _
    rw [e4]
    exact ⟨rfl, N0, rfl⟩
theorem ef_rm25_62 (m : MethodId) (x0 : Addr) : entryFrame m #[(.ref x0)] 1 = mkF m 0 #[.val (.ref x0)] [] := by first | (simp [entryFrame, mkF, argsToLocals, Value.category]; done) | rfl
def Q25_62 (Z : State) (a1 : Addr) (h0 : Heap) (n0 : Nat) (v : Option Value) (h : Heap) (L : List Loc) : Prop := (v = some (.int (31 : Int32)) ∧ Fr n0 L ∧ h = h0)
set_option maxRecDepth 65536 in
set_option maxHeartbeats 40000000 in
theorem rm25_62 (l : Launch) (Z : State) (a0 : Array Value) (hw : ∀ d ∈ own_ws, d.before a0 Z = true) (ws : List Jvm.Cond) (a1 : Addr) (h0 : Heap) (n0 : Nat) (O0 : Old Z n0 h0) (F2 : Fld Z h0 a1 C_2 "count" "I" (.int (31 : Int32))) :
    MetFree l M_18 (head1 (Jvm.Cond.code M_18 jdk_68_method_6_code 1 (some .int) :: ws) ({ frames := 0, cells := 0, slots := 0, locals := 0 } : Room)) (fun a U => a = #[(.ref a1)] ∧ Z.Warmed39 U.vm ∧ U.heap = h0) (fun _ _ _ _ _ => True) (fun _ U o U' => ∃ v L, o = .returned v ∧ Q25_62 Z a1 h0 n0 v U'.heap L ∧ FrameEnd U o U' L ({ frames := 0, cells := 0, slots := 0, locals := 0 } : Room).cells ({ frames := 0, cells := 0, slots := 0, locals := 0 } : Room).slots) := by
  refine MetFree.of_bodySF (plainFor_of_name pn_2) hisR ?_
  intro p e s m args below meth c s₁ Bd hml0 hP hK
  obtain ⟨rfl, hZ, hh⟩ := hP
  have hx := Bd.exec
  have hby := Bd.bytes
  have hml : c.maxLocals = 1 := hml0
  have hown : s.vm.findClass "java/lang/AbstractStringBuilder" = some m.cls := findClass_of_methodNamed Bd.named
  have hnm := (name_of_methodNamed Bd.named Bd.method).1
  have X0 : Stand p l e ({ frames := 0, cells := 0, slots := 0, locals := 0 } : Room) s m #[(.ref a1)] below meth c s₁ [] 0 0 := Stand.of_body Bd
  have e0 : s₁.heap = h0 := by rw [← hh, Bd.state]; rfl
  have N0 := Fr.nil n0
  have pre0 : ∀ t, Steps p.tables e below (s₁.setTop (mkF m 0 #[.val (.ref a1)] [])) t → Steps p.tables e below (s₁.setTop (entryFrame m #[(.ref a1)] 1)) t := fun t k => castTop (ef_rm25_62 m a1) k
  obtain ⟨T3, X3, e3, st3⟩ := getF X0 hx hZ hown (host := "") (Or.inl (hw _ (gw 77 rfl))) Via.refl e0 F2 (g := (mkF m 1 #[.val (.ref a1)] [(.ref a1)])) rfl rfl (hb hby d25_1)
  obtain ⟨fs, hr, hrun, hended, hW, hsame⟩ := X3.leave (v := some (.int (31 : Int32))) (fun h => by rw [Bd.returns] at h; cases h)
  refine ⟨_, _, pre0 _ ?_, hrun, hended, _, _, rfl, ?_, ⟨_, rfl⟩, hW, hsame.mono (by decide) (by decide)⟩
  · show Steps p.tables e below (s₁.setTop (mkF m 0 #[.val (.ref a1)] [])) _
    refine XS.aloadN X0.here hx rfl (hb hby d25_0) rfl rfl ?_
    refine st3 _ ?_
    show Steps p.tables e below (T3.setTop (mkF m 4 #[.val (.ref a1)] [(.int (31 : Int32))])) _
    exact retI X3 hx Bd.returns (hb hby d25_4) hr
  · show Q25_62 Z _ h0 n0 _ T3.heap _
    rw [e3]
    exact ⟨rfl, N0, rfl⟩
theorem ef_rm24_61 (m : MethodId) (x0 : Addr) : entryFrame m #[(.ref x0)] 1 = mkF m 0 #[.val (.ref x0)] [] := by first | (simp [entryFrame, mkF, argsToLocals, Value.category]; done) | rfl
def Q24_61 (Z : State) (a1 : Addr) (h0 : Heap) (n0 : Nat) (v : Option Value) (h : Heap) (L : List Loc) : Prop := (v = some (.int (31 : Int32)) ∧ Fr n0 L ∧ h = h0)
set_option maxRecDepth 65536 in
set_option maxHeartbeats 40000000 in
theorem rm24_61 (l : Launch) (Z : State) (a0 : Array Value) (hw : ∀ d ∈ own_ws, d.before a0 Z = true) (ws : List Jvm.Cond) (a1 : Addr) (h0 : Heap) (n0 : Nat) (O0 : Old Z n0 h0) (E_2 : Exa Z h0 a1 C_5) (F3 : Fld Z h0 a1 C_2 "count" "I" (.int (31 : Int32))) :
    MetFree l M_19 (head1 (Jvm.Cond.code M_19 jdk_67_method_93_code 1 (some .int) :: ws) ({ frames := 1, cells := 0, slots := 0, locals := 12 } : Room)) (fun a U => a = #[(.ref a1)] ∧ Z.Warmed39 U.vm ∧ U.heap = h0) (fun _ _ _ _ _ => True) (fun _ U o U' => ∃ v L, o = .returned v ∧ Q24_61 Z a1 h0 n0 v U'.heap L ∧ FrameEnd U o U' L ({ frames := 1, cells := 0, slots := 0, locals := 12 } : Room).cells ({ frames := 1, cells := 0, slots := 0, locals := 12 } : Room).slots) := by
  refine MetFree.of_bodySF (plainFor_of_name pn_3) hisR ?_
  intro p e s m args below meth c s₁ Bd hml0 hP hK
  obtain ⟨rfl, hZ, hh⟩ := hP
  have hx := Bd.exec
  have hby := Bd.bytes
  have hml : c.maxLocals = 1 := hml0
  have hown : s.vm.findClass "java/lang/StringBuilder" = some m.cls := findClass_of_methodNamed Bd.named
  have hnm := (name_of_methodNamed Bd.named Bd.method).1
  have X0 : Stand p l e ({ frames := 1, cells := 0, slots := 0, locals := 12 } : Room) s m #[(.ref a1)] below meth c s₁ [] 0 0 := Stand.of_body Bd
  have e0 : s₁.heap = h0 := by rw [← hh, Bd.state]; rfl
  have N0 := Fr.nil n0
  have pre0 : ∀ t, Steps p.tables e below (s₁.setTop (mkF m 0 #[.val (.ref a1)] [])) t → Steps p.tables e below (s₁.setTop (entryFrame m #[(.ref a1)] 1)) t := fun t k => castTop (ef_rm24_61 m a1) k
  obtain ⟨_, _, ⟨T4, L4, k4, n4⟩, -, X4, ⟨Lc4, hQ4, l4, y4, z4⟩, st4⟩ := superBack X0 hx hZ (y := M_18) hown (hw _ (gw 158 rfl)) (own_sameSelf (y := M_18) (y' := M_3) rfl (hw _ (gw 82 rfl)) (hw _ (gw 154 rfl)) (by decide)) (hw _ (gw 154 rfl)) (hw _ (gw 75 rfl)) (by decide) (backOf (W := 0) (rm25_62 l Z a0 hw [] a1 h0 n0  O0 F3) hZ (hw _ (gw 159 rfl)) (hw _ (gw 35 rfl)) (by decide) (by decide)) e0 (Ins.self E_2) (g := (mkF m 1 #[.val (.ref a1)] [(.ref a1)])) rfl (by rw [hml]; rfl) (hw _ (gw 159 rfl)) (argsL := []) (rest := []) (lenOf pd_2 rfl) rfl (by show 2 * 0 + _ ≤ _; exact Nat.le_of_eq rfl) (hb hby d24_1) (fun _ _ => ⟨rfl, e0, (by decide : 0 + 0 ≤ _), (by decide : 0 + 0 ≤ _)⟩)
  dsimp only [Pt.U, Pt.locs, Pt.cells, Pt.slots] at X4 l4 y4 z4 st4 hQ4
  subst l4 y4 z4
  obtain ⟨rfl, u6, u7⟩ := hQ4
  have N4 := Fr.app N0 u6
  obtain ⟨fs, hr, hrun, hended, hW, hsame⟩ := X4.leave (v := some (.int (31 : Int32))) (fun h => by rw [Bd.returns] at h; cases h)
  refine ⟨_, _, pre0 _ ?_, hrun, hended, _, _, rfl, ?_, ⟨_, rfl⟩, hW, hsame.mono (by decide) (by decide)⟩
  · show Steps p.tables e below (s₁.setTop (mkF m 0 #[.val (.ref a1)] [])) _
    refine XS.aloadN X0.here hx rfl (hb hby d24_0) rfl rfl ?_
    refine st4.trans ?_
    show Steps p.tables e below (T4.setTop (mkF m 4 #[.val (.ref a1)] [(.int (31 : Int32))])) _
    exact retI X4 hx Bd.returns (hb hby d24_4) hr
  · show Q24_61 Z _ h0 n0 _ T4.heap _
    rw [u7]
    exact ⟨rfl, N4, rfl⟩
theorem ef_rm26_63 (m : MethodId) (x0 : Addr) : entryFrame m #[(.ref x0)] 1 = mkF m 0 #[.val (.ref x0)] [] := by first | (simp [entryFrame, mkF, argsToLocals, Value.category]; done) | rfl
def Q26_63 (Z : State) (a1 : Addr) (p2 : Int32) (h0 : Heap) (n0 : Nat) (v : Option Value) (h : Heap) (L : List Loc) : Prop := (v = some (.int (1 : Int32)) ∧ Fr n0 L ∧ h = h0)
set_option maxRecDepth 65536 in
set_option maxHeartbeats 40000000 in
theorem rm26_63 (l : Launch) (Z : State) (a0 : Array Value) (hw : ∀ d ∈ own_ws, d.before a0 Z = true) (ws : List Jvm.Cond) (a1 : Addr) (p2 : Int32) (h0 : Heap) (n0 : Nat) (O0 : Old Z n0 h0) (S_3 : Sta Z Z.heap C_4 "COMPACT_STRINGS" "Z" (.int p2)) (hk5 : ¬ (p2 = (0 : Int32))) (F6 : Fld Z h0 a1 C_2 "coder" "B" (.int (0 : Int32))) :
    MetFree l M_20 (head1 (Jvm.Cond.code M_20 jdk_68_method_68_code 1 (some .boolean) :: ws) ({ frames := 0, cells := 0, slots := 0, locals := 0 } : Room)) (fun a U => a = #[(.ref a1)] ∧ Z.Warmed39 U.vm ∧ U.heap = h0) (fun _ _ _ _ _ => True) (fun _ U o U' => ∃ v L, o = .returned v ∧ Q26_63 Z a1 p2 h0 n0 v U'.heap L ∧ FrameEnd U o U' L ({ frames := 0, cells := 0, slots := 0, locals := 0 } : Room).cells ({ frames := 0, cells := 0, slots := 0, locals := 0 } : Room).slots) := by
  refine MetFree.of_bodySF (plainFor_of_name pn_2) hisR ?_
  intro p e s m args below meth c s₁ Bd hml0 hP hK
  obtain ⟨rfl, hZ, hh⟩ := hP
  have hx := Bd.exec
  have hby := Bd.bytes
  have hml : c.maxLocals = 1 := hml0
  have hown : s.vm.findClass "java/lang/AbstractStringBuilder" = some m.cls := findClass_of_methodNamed Bd.named
  have hnm := (name_of_methodNamed Bd.named Bd.method).1
  have X0 : Stand p l e ({ frames := 0, cells := 0, slots := 0, locals := 0 } : Room) s m #[(.ref a1)] below meth c s₁ [] 0 0 := Stand.of_body Bd
  have e0 : s₁.heap = h0 := by rw [← hh, Bd.state]; rfl
  have N0 := Fr.nil n0
  have pre0 : ∀ t, Steps p.tables e below (s₁.setTop (mkF m 0 #[.val (.ref a1)] [])) t → Steps p.tables e below (s₁.setTop (entryFrame m #[(.ref a1)] 1)) t := fun t k => castTop (ef_rm26_63 m a1) k
  obtain ⟨T4, X4, e4, st4⟩ := getS2 X0 hx hZ hown (host := "") (Or.inl (hw _ (gw 94 rfl))) Via.refl e0 (Sta.ext O0.2 S_3) (g := (mkF m 0 #[.val (.ref a1)] [])) rfl (hb hby d26_0)
  obtain ⟨T7, X7, e7, st7⟩ := getF X4 hx hZ hown (host := "") (Or.inl (hw _ (gw 58 rfl))) Via.refl e4 F6 (g := (mkF m 7 #[.val (.ref a1)] [(.ref a1)])) rfl rfl (hb hby d26_7)
  obtain ⟨fs, hr, hrun, hended, hW, hsame⟩ := X7.leave (v := some (.int (1 : Int32))) (fun h => by rw [Bd.returns] at h; cases h)
  refine ⟨_, _, pre0 _ ?_, hrun, hended, _, _, rfl, ?_, ⟨_, rfl⟩, hW, hsame.mono (by decide) (by decide)⟩
  · show Steps p.tables e below (s₁.setTop (mkF m 0 #[.val (.ref a1)] [])) _
    refine st4 _ ?_
    refine XS.ifNo X4.here hx rfl (hb hby d26_3) rfl ((if0 _ _).trans (feq hk5).1) ?_
    refine XS.aloadN X4.here hx rfl (hb hby d26_6) rfl rfl ?_
    refine st7 _ ?_
    refine XS.ifNo X7.here hx rfl (hb hby d26_10) rfl ((if0 _ _).trans (teq (by decide +kernel : (0 : Int32) = (0 : Int32))).2) ?_
    refine XS.iconst X7.here hx rfl (hb hby d26_13) ?_
    refine XS.goto X7.here hx rfl (pc0 := 14) (pc' := 18) rfl (hb hby d26_14) (by decide) (by decide) ?_
    show Steps p.tables e below (T7.setTop (mkF m 18 #[.val (.ref a1)] [(.int (1 : Int32))])) _
    exact retN X7 hx (t := .boolean) Bd.returns (by simp) (hb hby d26_18) hr
  · show Q26_63 Z _ _ h0 n0 _ T7.heap _
    rw [e7]
    exact ⟨rfl, N0, rfl⟩
theorem ef_rm29_66 (m : MethodId)  : entryFrame m #[(.int (0 : Int32)), (.int (31 : Int32))] 2 = mkF m 0 #[.val (.int (0 : Int32)), .val (.int (31 : Int32))] [] := by first | (simp [entryFrame, mkF, argsToLocals, Value.category]; done) | rfl
def Q29_66 (Z : State)  (h0 : Heap) (n0 : Nat) (v : Option Value) (h : Heap) (L : List Loc) : Prop := (v = none ∧ Fr n0 L ∧ h = h0)
set_option maxRecDepth 65536 in
set_option maxHeartbeats 40000000 in
theorem rm29_66 (l : Launch) (Z : State) (a0 : Array Value) (hw : ∀ d ∈ own_ws, d.before a0 Z = true) (ws : List Jvm.Cond)  (h0 : Heap) (n0 : Nat) (O0 : Old Z n0 h0) :
    MetFree l M_21 (head1 (Jvm.Cond.code M_21 jdk_65_method_131_code 2 none :: ws) ({ frames := 0, cells := 0, slots := 0, locals := 0 } : Room)) (fun a U => a = #[(.int (0 : Int32)), (.int (31 : Int32))] ∧ Z.Warmed39 U.vm ∧ U.heap = h0) (fun _ _ _ _ _ => True) (fun _ U o U' => ∃ v L, o = .returned v ∧ Q29_66 Z  h0 n0 v U'.heap L ∧ FrameEnd U o U' L ({ frames := 0, cells := 0, slots := 0, locals := 0 } : Room).cells ({ frames := 0, cells := 0, slots := 0, locals := 0 } : Room).slots) := by
  refine MetFree.of_bodySF (plainFor_of_name pn_5) hisR ?_
  intro p e s m args below meth c s₁ Bd hml0 hP hK
  obtain ⟨rfl, hZ, hh⟩ := hP
  have hx := Bd.exec
  have hby := Bd.bytes
  have hml : c.maxLocals = 2 := hml0
  have hown : s.vm.findClass "java/util/Arrays" = some m.cls := findClass_of_methodNamed Bd.named
  have hnm := (name_of_methodNamed Bd.named Bd.method).1
  have X0 : Stand p l e ({ frames := 0, cells := 0, slots := 0, locals := 0 } : Room) s m #[(.int (0 : Int32)), (.int (31 : Int32))] below meth c s₁ [] 0 0 := Stand.of_body Bd
  have e0 : s₁.heap = h0 := by rw [← hh, Bd.state]; rfl
  have N0 := Fr.nil n0
  have pre0 : ∀ t, Steps p.tables e below (s₁.setTop (mkF m 0 #[.val (.int (0 : Int32)), .val (.int (31 : Int32))] [])) t → Steps p.tables e below (s₁.setTop (entryFrame m #[(.int (0 : Int32)), (.int (31 : Int32))] 2)) t := fun t k => castTop (ef_rm29_66 m ) k
  obtain ⟨fs, hr, hrun, hended, hW, hsame⟩ := X0.leave (v := none) (fun _ => rfl)
  refine ⟨_, _, pre0 _ ?_, hrun, hended, _, _, rfl, ?_, ⟨_, rfl⟩, hW, hsame.mono (by decide) (by decide)⟩
  · show Steps p.tables e below (s₁.setTop (mkF m 0 #[.val (.int (0 : Int32)), .val (.int (31 : Int32))] [])) _
    refine XS.iloadN X0.here hx rfl (hb hby d29_0) rfl ?_
    refine XS.iloadN X0.here hx rfl (hb hby d29_1) rfl ?_
    refine XS.icmpYes X0.here hx rfl (pc0 := 2) (pc' := 37) rfl (hb hby d29_2) rfl (flt (by decide +kernel : ¬ ((31 : Int32) < (0 : Int32)))).2.1 (by decide) (by decide) ?_
    show Steps p.tables e below (s₁.setTop (mkF m 37 #[.val (.int (0 : Int32)), .val (.int (31 : Int32))] [])) _
    exact X0.returnOut hx Bd.returns (hb hby d29_37) hr
  · show Q29_66 Z h0 n0 _ s₁.heap _
    rw [e0]
    exact ⟨rfl, N0, rfl⟩
theorem ef_rm19_67 (m : MethodId)  : entryFrame m #[(.int (42 : Int32)), (.int (31 : Int32))] 2 = mkF m 0 #[.val (.int (42 : Int32)), .val (.int (31 : Int32))] [] := by first | (simp [entryFrame, mkF, argsToLocals, Value.category]; done) | rfl
def Q19_67 (Z : State)  (h0 : Heap) (n0 : Nat) (v : Option Value) (h : Heap) (L : List Loc) : Prop := (v = some (.int (31 : Int32)) ∧ Fr n0 L ∧ h = h0)
set_option maxRecDepth 65536 in
set_option maxHeartbeats 40000000 in
theorem rm19_67 (l : Launch) (Z : State) (a0 : Array Value) (hw : ∀ d ∈ own_ws, d.before a0 Z = true) (ws : List Jvm.Cond)  (h0 : Heap) (n0 : Nat) (O0 : Old Z n0 h0) :
    MetFree l M_15 (head1 (Jvm.Cond.code M_15 jdk_29_method_69_code 2 (some .int) :: ws) ({ frames := 0, cells := 0, slots := 0, locals := 0 } : Room)) (fun a U => a = #[(.int (42 : Int32)), (.int (31 : Int32))] ∧ Z.Warmed39 U.vm ∧ U.heap = h0) (fun _ _ _ _ _ => True) (fun _ U o U' => ∃ v L, o = .returned v ∧ Q19_67 Z  h0 n0 v U'.heap L ∧ FrameEnd U o U' L ({ frames := 0, cells := 0, slots := 0, locals := 0 } : Room).cells ({ frames := 0, cells := 0, slots := 0, locals := 0 } : Room).slots) := by
  refine MetFree.of_bodySF (Jvm.Free.JP.mathPlain rfl (by decide +kernel)) hisR ?_
  intro p e s m args below meth c s₁ Bd hml0 hP hK
  obtain ⟨rfl, hZ, hh⟩ := hP
  have hx := Bd.exec
  have hby := Bd.bytes
  have hml : c.maxLocals = 2 := hml0
  have hown : s.vm.findClass "java/lang/Math" = some m.cls := findClass_of_methodNamed Bd.named
  have hnm := (name_of_methodNamed Bd.named Bd.method).1
  have X0 : Stand p l e ({ frames := 0, cells := 0, slots := 0, locals := 0 } : Room) s m #[(.int (42 : Int32)), (.int (31 : Int32))] below meth c s₁ [] 0 0 := Stand.of_body Bd
  have e0 : s₁.heap = h0 := by rw [← hh, Bd.state]; rfl
  have N0 := Fr.nil n0
  have pre0 : ∀ t, Steps p.tables e below (s₁.setTop (mkF m 0 #[.val (.int (42 : Int32)), .val (.int (31 : Int32))] [])) t → Steps p.tables e below (s₁.setTop (entryFrame m #[(.int (42 : Int32)), (.int (31 : Int32))] 2)) t := fun t k => castTop (ef_rm19_67 m ) k
  obtain ⟨fs, hr, hrun, hended, hW, hsame⟩ := X0.leave (v := some (.int (31 : Int32))) (fun h => by rw [Bd.returns] at h; cases h)
  refine ⟨_, _, pre0 _ ?_, hrun, hended, _, _, rfl, ?_, ⟨_, rfl⟩, hW, hsame.mono (by decide) (by decide)⟩
  · show Steps p.tables e below (s₁.setTop (mkF m 0 #[.val (.int (42 : Int32)), .val (.int (31 : Int32))] [])) _
    refine XS.iloadN X0.here hx rfl (hb hby d19_0) rfl ?_
    refine XS.iloadN X0.here hx rfl (hb hby d19_1) rfl ?_
    refine XS.icmpYes X0.here hx rfl (pc0 := 2) (pc' := 9) rfl (hb hby d19_2) rfl (tlt (by decide +kernel : (31 : Int32) < (42 : Int32))).2.2.1 (by decide) (by decide) ?_
    refine XS.iloadN X0.here hx rfl (hb hby d19_9) rfl ?_
    show Steps p.tables e below (s₁.setTop (mkF m 10 #[.val (.int (42 : Int32)), .val (.int (31 : Int32))] [(.int (31 : Int32))])) _
    exact retI X0 hx Bd.returns (hb hby d19_10) hr
  · show Q19_67 Z h0 n0 _ s₁.heap _
    rw [e0]
    exact ⟨rfl, N0, rfl⟩
theorem ef_rm28_65 (m : MethodId) (x0 : Addr) : entryFrame m #[(.ref x0), (.int (0 : Int32)), (.int (31 : Int32))] 5 = mkF m 0 #[.val (.ref x0), .val (.int (0 : Int32)), .val (.int (31 : Int32)), .unset, .unset] [] := by first | (simp [entryFrame, mkF, argsToLocals, Value.category]; done) | rfl
def Q28_65 (Z : State) (a1 : Addr) (k7 : ClassId) (h0 : Heap) (n0 : Nat) (v : Option Value) (h : Heap) (L : List Loc) : Prop := (∃ (b6 : Addr) (k6 : ClassId), v = some (.ref b6) ∧ Fr n0 L ∧ h0.size ≤ b6 ∧ b6 < h.size ∧ Keep h0 h [] ∧ Exa Z h b6 "[B" ∧ Arv Z h b6 k6 .byte (31 : Int32) [(.int (82 : Int32)), (.int (101 : Int32)), (.int (97 : Int32)), (.int (100 : Int32)), (.int (44 : Int32)), (.int (32 : Int32)), (.int (87 : Int32)), (.int (114 : Int32)), (.int (105 : Int32)), (.int (116 : Int32)), (.int (101 : Int32)), (.int (44 : Int32)), (.int (32 : Int32)), (.int (65 : Int32)), (.int (112 : Int32)), (.int (112 : Int32)), (.int (101 : Int32)), (.int (110 : Int32)), (.int (100 : Int32)), (.int (32 : Int32)), (.int (97 : Int32)), (.int (110 : Int32)), (.int (100 : Int32)), (.int (32 : Int32)), (.int (67 : Int32)), (.int (111 : Int32)), (.int (110 : Int32)), (.int (116 : Int32)), (.int (114 : Int32)), (.int (111 : Int32)), (.int (108 : Int32))] (.int (0 : Int32)))
set_option maxRecDepth 65536 in
set_option maxHeartbeats 40000000 in
theorem rm28_65 (l : Launch) (Z : State) (a0 : Array Value) (hw : ∀ d ∈ own_ws, d.before a0 Z = true) (ws : List Jvm.Cond) (a1 : Addr) (k7 : ClassId) (h0 : Heap) (n0 : Nat) (O0 : Old Z n0 h0) (V8 : Arv Z h0 a1 k7 .byte (42 : Int32) [(.int (82 : Int32)), (.int (101 : Int32)), (.int (97 : Int32)), (.int (100 : Int32)), (.int (44 : Int32)), (.int (32 : Int32)), (.int (87 : Int32)), (.int (114 : Int32)), (.int (105 : Int32)), (.int (116 : Int32)), (.int (101 : Int32)), (.int (44 : Int32)), (.int (32 : Int32)), (.int (65 : Int32)), (.int (112 : Int32)), (.int (112 : Int32)), (.int (101 : Int32)), (.int (110 : Int32)), (.int (100 : Int32)), (.int (32 : Int32)), (.int (97 : Int32)), (.int (110 : Int32)), (.int (100 : Int32)), (.int (32 : Int32)), (.int (67 : Int32)), (.int (111 : Int32)), (.int (110 : Int32)), (.int (116 : Int32)), (.int (114 : Int32)), (.int (111 : Int32)), (.int (108 : Int32))] (.int (0 : Int32))) :
    MetFree l M_22 (head1 (Jvm.Cond.code M_22 jdk_65_method_133_code 5 (some (.array .byte)) :: ws) ({ frames := 1, cells := 1, slots := 31, locals := 18 } : Room)) (fun a U => a = #[(.ref a1), (.int (0 : Int32)), (.int (31 : Int32))] ∧ Z.Warmed39 U.vm ∧ U.heap = h0) (fun _ _ _ _ _ => True) (fun _ U o U' => ∃ v L, o = .returned v ∧ Q28_65 Z a1 k7 h0 n0 v U'.heap L ∧ FrameEnd U o U' L ({ frames := 1, cells := 1, slots := 31, locals := 18 } : Room).cells ({ frames := 1, cells := 1, slots := 31, locals := 18 } : Room).slots) := by
  refine MetFree.of_bodySF (plainFor_of_name pn_5) hisR ?_
  intro p e s m args below meth c s₁ Bd hml0 hP hK
  obtain ⟨rfl, hZ, hh⟩ := hP
  have hx := Bd.exec
  have hby := Bd.bytes
  have hml : c.maxLocals = 5 := hml0
  have hown : s.vm.findClass "java/util/Arrays" = some m.cls := findClass_of_methodNamed Bd.named
  have hnm := (name_of_methodNamed Bd.named Bd.method).1
  have X0 : Stand p l e ({ frames := 1, cells := 1, slots := 31, locals := 18 } : Room) s m #[(.ref a1), (.int (0 : Int32)), (.int (31 : Int32))] below meth c s₁ [] 0 0 := Stand.of_body Bd
  have e0 : s₁.heap = h0 := by rw [← hh, Bd.state]; rfl
  have N0 := Fr.nil n0
  have pre0 : ∀ t, Steps p.tables e below (s₁.setTop (mkF m 0 #[.val (.ref a1), .val (.int (0 : Int32)), .val (.int (31 : Int32)), .unset, .unset] [])) t → Steps p.tables e below (s₁.setTop (entryFrame m #[(.ref a1), (.int (0 : Int32)), (.int (31 : Int32))] 5)) t := fun t k => castTop (ef_rm28_65 m a1) k
  obtain ⟨_, _, ⟨T2, L2, k2, n2⟩, -, X2, ⟨Lc2, hQ2, l2, y2, z2⟩, st2⟩ := Jvm.LawKit.callS X0 hx (y := M_21) hown (mvT hZ (hw _ (gw 171 rfl))) (mvT hZ (hw _ (gw 172 rfl))) (mvT hZ (hw _ (gw 127 rfl))) (mvT hZ (hw _ (gw 173 rfl))) (by decide) (backOf (W := 0) (rm29_66 l Z a0 hw []  h0 n0  O0) hZ (hw _ (gw 173 rfl)) (hw _ (gw 127 rfl)) (by decide) (by decide)) (g := (mkF m 2 #[.val (.ref a1), .val (.int (0 : Int32)), .val (.int (31 : Int32)), .unset, .unset] [(.int (31 : Int32)), (.int (0 : Int32))])) rfl (by rw [hml]; rfl) (argsL := [(.int (0 : Int32)), (.int (31 : Int32))]) (rest := []) (lenOf pd_15 rfl) rfl (by show 2 * 0 + _ ≤ _; exact Nat.le_of_eq rfl) (hb hby d28_2) (fun _ _ => ⟨rfl, e0, (by decide : 0 + 0 ≤ _), (by decide : 0 + 0 ≤ _)⟩)
  dsimp only [Pt.U, Pt.locs, Pt.cells, Pt.slots] at X2 l2 y2 z2 st2 hQ2
  subst l2 y2 z2
  obtain ⟨rfl, u4, u5⟩ := hQ2
  have N2 := Fr.app N0 u4
  obtain ⟨T6, h6, k6, X6, e6, E6, A6, Ex6, st6⟩ := newPE X2 hx hZ (hw _ (gw 60 rfl)) u5 (g := (mkF m 10 #[.val (.ref a1), .val (.int (0 : Int32)), .val (.int (31 : Int32)), .val (.int (31 : Int32)), .unset] [(.int (31 : Int32))])) rfl (hb hby d28_10) rfl (by decide +kernel) (cap := 31) (by decide +kernel) (by decide) (by decide) (by decide) (ad := "[B") (by decide +kernel)
  obtain ⟨b6, g6⟩ : ∃ z, z = h0.size := ⟨_, rfl⟩
  rw [← g6] at A6 Ex6 st6
  have O6 : Old Z n0 h6 := O0.ext E6
  have bd_b6 : h0.size ≤ b6 := Nat.le_of_eq g6.symm
  have g_b6 : n0 ≤ b6 := Nat.le_trans (own_z O0) bd_b6
  have sz_b6 : h0.size ≤ b6 := Nat.le_trans (Nat.le_refl _) bd_b6
  have lt_b6 : b6 < h6.size := A6.lt
  have V6 : Arv Z h6 b6 k6 .byte (31 : Int32) [] (.int (0 : Int32)) := Arv.new A6 (by decide +kernel)
  have f9 : Arv Z h6 a1 k7 .byte (42 : Int32) [(.int (82 : Int32)), (.int (101 : Int32)), (.int (97 : Int32)), (.int (100 : Int32)), (.int (44 : Int32)), (.int (32 : Int32)), (.int (87 : Int32)), (.int (114 : Int32)), (.int (105 : Int32)), (.int (116 : Int32)), (.int (101 : Int32)), (.int (44 : Int32)), (.int (32 : Int32)), (.int (65 : Int32)), (.int (112 : Int32)), (.int (112 : Int32)), (.int (101 : Int32)), (.int (110 : Int32)), (.int (100 : Int32)), (.int (32 : Int32)), (.int (97 : Int32)), (.int (110 : Int32)), (.int (100 : Int32)), (.int (32 : Int32)), (.int (67 : Int32)), (.int (111 : Int32)), (.int (110 : Int32)), (.int (116 : Int32)), (.int (114 : Int32)), (.int (111 : Int32)), (.int (108 : Int32))] (.int (0 : Int32)) := (V8.ext E6)
  obtain ⟨cl10, Ar10, -, Sz10, Nn10, -, -⟩ := id f9
  obtain ⟨_, _, ⟨T11, L11, k11, n11⟩, -, X11, ⟨Lc11, hQ11, l11, y11, z11⟩, st11⟩ := Jvm.LawKit.callS X6 hx (y := M_15) hown (mvT hZ (hw _ (gw 129 rfl))) (mvT hZ (hw _ (gw 130 rfl))) (mvT hZ (hw _ (gw 121 rfl))) (mvT hZ (hw _ (gw 131 rfl))) (by decide) (backOf (W := 4) (rm19_67 l Z a0 hw []  h6 n0  O6) hZ (hw _ (gw 131 rfl)) (hw _ (gw 121 rfl)) (by decide) (by decide)) (g := (mkF m 24 #[.val (.ref a1), .val (.int (0 : Int32)), .val (.int (31 : Int32)), .val (.int (31 : Int32)), .val (.ref b6)] [(.int (31 : Int32)), (.int (42 : Int32)), (.int (0 : Int32)), (.ref b6), (.int (0 : Int32)), (.ref a1)])) rfl (by rw [hml]; rfl) (argsL := [(.int (42 : Int32)), (.int (31 : Int32))]) (rest := [(.int (0 : Int32)), (.ref b6), (.int (0 : Int32)), (.ref a1)]) (lenOf pd_9 rfl) rfl (by show 2 * 0 + _ ≤ _; exact Nat.le_of_eq rfl) (hb hby d28_24) (fun _ _ => ⟨rfl, e6, (by decide : 1 + 0 ≤ _), (by decide : 31 + 0 ≤ _)⟩)
  dsimp only [Pt.U, Pt.locs, Pt.cells, Pt.slots] at X11 l11 y11 z11 st11 hQ11
  subst l11 y11 z11
  obtain ⟨rfl, u13, u14⟩ := hQ11
  have N11 := Fr.app N2 u13
  have Vp15 : Arv Z h6 b6 k6 .byte (31 : Int32) [(.int (0 : Int32)), (.int (0 : Int32)), (.int (0 : Int32)), (.int (0 : Int32)), (.int (0 : Int32)), (.int (0 : Int32)), (.int (0 : Int32)), (.int (0 : Int32)), (.int (0 : Int32)), (.int (0 : Int32)), (.int (0 : Int32)), (.int (0 : Int32)), (.int (0 : Int32)), (.int (0 : Int32)), (.int (0 : Int32)), (.int (0 : Int32)), (.int (0 : Int32)), (.int (0 : Int32)), (.int (0 : Int32)), (.int (0 : Int32)), (.int (0 : Int32)), (.int (0 : Int32)), (.int (0 : Int32)), (.int (0 : Int32)), (.int (0 : Int32)), (.int (0 : Int32)), (.int (0 : Int32)), (.int (0 : Int32)), (.int (0 : Int32)), (.int (0 : Int32)), (.int (0 : Int32))] (.int (0 : Int32)) := V6.pad (pad_rep [] (.int (0 : Int32)) 31)
  obtain ⟨T16, h16, L16, X16, e16, N16, Ku16, V16, st16⟩ := cpA X11 hx hZ hown (hw _ (gw 132 rfl)) (hw _ (gw 103 rfl)) (hw _ (gw 101 rfl)) (hw _ (gw 102 rfl)) u14 (sp := (0 : Int32)) (dp := (0 : Int32)) (nn := (31 : Int32)) (us := [(.int (82 : Int32)), (.int (101 : Int32)), (.int (97 : Int32)), (.int (100 : Int32)), (.int (44 : Int32)), (.int (32 : Int32)), (.int (87 : Int32)), (.int (114 : Int32)), (.int (105 : Int32)), (.int (116 : Int32)), (.int (101 : Int32)), (.int (44 : Int32)), (.int (32 : Int32)), (.int (65 : Int32)), (.int (112 : Int32)), (.int (112 : Int32)), (.int (101 : Int32)), (.int (110 : Int32)), (.int (100 : Int32)), (.int (32 : Int32)), (.int (97 : Int32)), (.int (110 : Int32)), (.int (100 : Int32)), (.int (32 : Int32)), (.int (67 : Int32)), (.int (111 : Int32)), (.int (110 : Int32)), (.int (116 : Int32)), (.int (114 : Int32)), (.int (111 : Int32)), (.int (108 : Int32))]) f9 Vp15 (Or.inl ⟨rfl, rfl⟩) (by decide +kernel) (by decide +kernel) (by decide +kernel) (by decide +kernel) (by decide +kernel) rfl (Nat.le_of_ble_eq_true rfl) N11 g_b6 (g := (mkF m 27 #[.val (.ref a1), .val (.int (0 : Int32)), .val (.int (31 : Int32)), .val (.int (31 : Int32)), .val (.ref b6)] [(.int (31 : Int32)), (.int (0 : Int32)), (.ref b6), (.int (0 : Int32)), (.ref a1)])) rfl (by rw [hml]; rfl) rfl (hb hby d28_27) (by decide) (W := 0) (by show 2 * 0 + _ ≤ _; exact Nat.le_of_eq rfl) (by decide +kernel)
  have Ou16 : Old Z n0 h16 := O6.keep Ku16 (allS g_b6 all0)
  have Vc16 : Arv Z h16 b6 k6 .byte (31 : Int32) [(.int (82 : Int32)), (.int (101 : Int32)), (.int (97 : Int32)), (.int (100 : Int32)), (.int (44 : Int32)), (.int (32 : Int32)), (.int (87 : Int32)), (.int (114 : Int32)), (.int (105 : Int32)), (.int (116 : Int32)), (.int (101 : Int32)), (.int (44 : Int32)), (.int (32 : Int32)), (.int (65 : Int32)), (.int (112 : Int32)), (.int (112 : Int32)), (.int (101 : Int32)), (.int (110 : Int32)), (.int (100 : Int32)), (.int (32 : Int32)), (.int (97 : Int32)), (.int (110 : Int32)), (.int (100 : Int32)), (.int (32 : Int32)), (.int (67 : Int32)), (.int (111 : Int32)), (.int (110 : Int32)), (.int (116 : Int32)), (.int (114 : Int32)), (.int (111 : Int32)), (.int (108 : Int32))] (.int (0 : Int32)) := V16
  obtain ⟨fs, hr, hrun, hended, hW, hsame⟩ := X16.leave (v := some (.ref b6)) (fun h => by rw [Bd.returns] at h; cases h)
  have f17 : Exa Z h16 b6 "[B" := (Ex6.keep Ku16)
  refine ⟨_, _, pre0 _ ?_, hrun, hended, _, _, rfl, ?_, ⟨_, rfl⟩, hW, hsame.mono (by decide) (by decide)⟩
  · show Steps p.tables e below (s₁.setTop (mkF m 0 #[.val (.ref a1), .val (.int (0 : Int32)), .val (.int (31 : Int32)), .unset, .unset] [])) _
    refine XS.iloadN X0.here hx rfl (hb hby d28_0) rfl ?_
    refine XS.iloadN X0.here hx rfl (hb hby d28_1) rfl ?_
    refine st2 _ ?_
    refine XS.iloadN X2.here hx rfl (hb hby d28_5) rfl ?_
    refine XS.iloadN X2.here hx rfl (hb hby d28_6) rfl ?_
    refine XS.isub X2.here hx rfl (hb hby d28_7) rfl ?_
    show Steps p.tables e below (T2.setTop (mkF m 8 #[.val (.ref a1), .val (.int (0 : Int32)), .val (.int (31 : Int32)), .unset, .unset] [(.int ((31 : Int32) - (0 : Int32)))])) _
    rw [(by decide +kernel : ((31 : Int32) - (0 : Int32)) = (31 : Int32))]
    refine XS.istoreN X2.here hx rfl (hb hby d28_8) rfl (l' := #[.val (.ref a1), .val (.int (0 : Int32)), .val (.int (31 : Int32)), .val (.int (31 : Int32)), .unset]) rfl ?_
    refine XS.iloadN X2.here hx rfl (hb hby d28_9) rfl ?_
    refine st6 _ ?_
    refine XS.astore X6.here hx rfl (hb hby d28_12) rfl rfl (l' := #[.val (.ref a1), .val (.int (0 : Int32)), .val (.int (31 : Int32)), .val (.int (31 : Int32)), .val (.ref b6)]) rfl ?_
    refine XS.aloadN X6.here hx rfl (hb hby d28_14) rfl rfl ?_
    refine XS.iloadN X6.here hx rfl (hb hby d28_15) rfl ?_
    refine XS.aload X6.here hx rfl (hb hby d28_16) rfl rfl ?_
    refine XS.iconst X6.here hx rfl (hb hby d28_18) ?_
    show Steps p.tables e below (T6.setTop (mkF m 19 #[.val (.ref a1), .val (.int (0 : Int32)), .val (.int (31 : Int32)), .val (.int (31 : Int32)), .val (.ref b6)] [(.int (0 : Int32)), (.ref b6), (.int (0 : Int32)), (.ref a1)])) _
    refine XS.aloadN X6.here hx rfl (hb hby d28_19) rfl rfl ?_
    refine X6.arraylength hx (by rw [e6]; exact Ar10.1) (State.isArrayOf_alike hZ.alike Ar10.2.1) (g := (mkF m 20 #[.val (.ref a1), .val (.int (0 : Int32)), .val (.int (31 : Int32)), .val (.int (31 : Int32)), .val (.ref b6)] [(.ref a1), (.int (0 : Int32)), (.ref b6), (.int (0 : Int32)), (.ref a1)])) rfl rfl (hb hby d28_20) _ ?_
    rw [len_of Sz10 Nn10]
    refine XS.iloadN X6.here hx rfl (hb hby d28_21) rfl ?_
    refine XS.isub X6.here hx rfl (hb hby d28_22) rfl ?_
    show Steps p.tables e below (T6.setTop (mkF m 23 #[.val (.ref a1), .val (.int (0 : Int32)), .val (.int (31 : Int32)), .val (.int (31 : Int32)), .val (.ref b6)] [(.int ((42 : Int32) - (0 : Int32))), (.int (0 : Int32)), (.ref b6), (.int (0 : Int32)), (.ref a1)])) _
    rw [(by decide +kernel : ((42 : Int32) - (0 : Int32)) = (42 : Int32))]
    refine XS.iloadN X6.here hx rfl (hb hby d28_23) rfl ?_
    refine st11 _ ?_
    refine st16 _ ?_
    refine XS.aload X16.here hx rfl (hb hby d28_30) rfl rfl ?_
    show Steps p.tables e below (T16.setTop (mkF m 32 #[.val (.ref a1), .val (.int (0 : Int32)), .val (.int (31 : Int32)), .val (.int (31 : Int32)), .val (.ref b6)] [(.ref b6)])) _
    jvm_step X16.here [X16.here.top, hx, (hb hby d28_32), X16.method', Bd.returns, Value.isRef, FieldType.isReference]
    first | (intro acts; rw [hr _ acts rfl rfl rfl]) | rw [hr _ _ rfl rfl rfl]
    exact Steps.refl _
  · show Q28_65 Z _ _ h0 n0 _ T16.heap _
    rw [e16]
    exact ⟨b6, k6, rfl, N16, sz_b6, (Nat.lt_of_lt_of_le lt_b6 Ku16.1), (((Keep.refl h0 []).ext E6).trans Ku16 (allS (Or.inr sz_b6) all0)), f17, Vc16⟩
theorem ef_rm27_64 (m : MethodId) (x0 : Addr) : entryFrame m #[(.ref x0), (.int (0 : Int32)), (.int (31 : Int32))] 3 = mkF m 0 #[.val (.ref x0), .val (.int (0 : Int32)), .val (.int (31 : Int32))] [] := by first | (simp [entryFrame, mkF, argsToLocals, Value.category]; done) | rfl
def Q27_64 (Z : State) (a1 : Addr) (k2 : ClassId) (h0 : Heap) (n0 : Nat) (v : Option Value) (h : Heap) (L : List Loc) : Prop := (∃ (b6 : Addr) (k7 : ClassId), v = some (.ref b6) ∧ Fr n0 L ∧ h0.size ≤ b6 ∧ b6 < h.size ∧ Keep h0 h [] ∧ Exa Z h b6 "[B" ∧ Arv Z h b6 k7 .byte (31 : Int32) [(.int (82 : Int32)), (.int (101 : Int32)), (.int (97 : Int32)), (.int (100 : Int32)), (.int (44 : Int32)), (.int (32 : Int32)), (.int (87 : Int32)), (.int (114 : Int32)), (.int (105 : Int32)), (.int (116 : Int32)), (.int (101 : Int32)), (.int (44 : Int32)), (.int (32 : Int32)), (.int (65 : Int32)), (.int (112 : Int32)), (.int (112 : Int32)), (.int (101 : Int32)), (.int (110 : Int32)), (.int (100 : Int32)), (.int (32 : Int32)), (.int (97 : Int32)), (.int (110 : Int32)), (.int (100 : Int32)), (.int (32 : Int32)), (.int (67 : Int32)), (.int (111 : Int32)), (.int (110 : Int32)), (.int (116 : Int32)), (.int (114 : Int32)), (.int (111 : Int32)), (.int (108 : Int32))] (.int (0 : Int32)))
set_option maxRecDepth 65536 in
set_option maxHeartbeats 40000000 in
theorem rm27_64 (l : Launch) (Z : State) (a0 : Array Value) (hw : ∀ d ∈ own_ws, d.before a0 Z = true) (ws : List Jvm.Cond) (a1 : Addr) (k2 : ClassId) (h0 : Heap) (n0 : Nat) (O0 : Old Z n0 h0) (V3 : Arv Z h0 a1 k2 .byte (42 : Int32) [(.int (82 : Int32)), (.int (101 : Int32)), (.int (97 : Int32)), (.int (100 : Int32)), (.int (44 : Int32)), (.int (32 : Int32)), (.int (87 : Int32)), (.int (114 : Int32)), (.int (105 : Int32)), (.int (116 : Int32)), (.int (101 : Int32)), (.int (44 : Int32)), (.int (32 : Int32)), (.int (65 : Int32)), (.int (112 : Int32)), (.int (112 : Int32)), (.int (101 : Int32)), (.int (110 : Int32)), (.int (100 : Int32)), (.int (32 : Int32)), (.int (97 : Int32)), (.int (110 : Int32)), (.int (100 : Int32)), (.int (32 : Int32)), (.int (67 : Int32)), (.int (111 : Int32)), (.int (110 : Int32)), (.int (116 : Int32)), (.int (114 : Int32)), (.int (111 : Int32)), (.int (108 : Int32))] (.int (0 : Int32))) :
    MetFree l M_23 (head1 (Jvm.Cond.code M_23 jdk_65_method_132_code 3 (some (.array .byte)) :: ws) ({ frames := 2, cells := 1, slots := 31, locals := 34 } : Room)) (fun a U => a = #[(.ref a1), (.int (0 : Int32)), (.int (31 : Int32))] ∧ Z.Warmed39 U.vm ∧ U.heap = h0) (fun _ _ _ _ _ => True) (fun _ U o U' => ∃ v L, o = .returned v ∧ Q27_64 Z a1 k2 h0 n0 v U'.heap L ∧ FrameEnd U o U' L ({ frames := 2, cells := 1, slots := 31, locals := 34 } : Room).cells ({ frames := 2, cells := 1, slots := 31, locals := 34 } : Room).slots) := by
  refine MetFree.of_bodySF (plainFor_of_name pn_5) hisR ?_
  intro p e s m args below meth c s₁ Bd hml0 hP hK
  obtain ⟨rfl, hZ, hh⟩ := hP
  have hx := Bd.exec
  have hby := Bd.bytes
  have hml : c.maxLocals = 3 := hml0
  have hown : s.vm.findClass "java/util/Arrays" = some m.cls := findClass_of_methodNamed Bd.named
  have hnm := (name_of_methodNamed Bd.named Bd.method).1
  have X0 : Stand p l e ({ frames := 2, cells := 1, slots := 31, locals := 34 } : Room) s m #[(.ref a1), (.int (0 : Int32)), (.int (31 : Int32))] below meth c s₁ [] 0 0 := Stand.of_body Bd
  have e0 : s₁.heap = h0 := by rw [← hh, Bd.state]; rfl
  have N0 := Fr.nil n0
  have pre0 : ∀ t, Steps p.tables e below (s₁.setTop (mkF m 0 #[.val (.ref a1), .val (.int (0 : Int32)), .val (.int (31 : Int32))] [])) t → Steps p.tables e below (s₁.setTop (entryFrame m #[(.ref a1), (.int (0 : Int32)), (.int (31 : Int32))] 3)) t := fun t k => castTop (ef_rm27_64 m a1) k
  obtain ⟨cl4, Ar4, -, Sz4, Nn4, -, -⟩ := id V3
  obtain ⟨_, _, ⟨T5, L5, k5, n5⟩, -, X5, ⟨Lc5, hQ5, l5, y5, z5⟩, st5⟩ := Jvm.LawKit.callS X0 hx (y := M_22) hown (mvT hZ (hw _ (gw 168 rfl))) (mvT hZ (hw _ (gw 169 rfl))) (mvT hZ (hw _ (gw 127 rfl))) (mvT hZ (hw _ (gw 170 rfl))) (by decide) (backOf (W := 0) (rm28_65 l Z a0 hw [] a1 k2 h0 n0  O0 V3) hZ (hw _ (gw 170 rfl)) (hw _ (gw 127 rfl)) (by decide) (by decide)) (g := (mkF m 13 #[.val (.ref a1), .val (.int (0 : Int32)), .val (.int (31 : Int32))] [(.int (31 : Int32)), (.int (0 : Int32)), (.ref a1)])) rfl (by rw [hml]; rfl) (argsL := [(.ref a1), (.int (0 : Int32)), (.int (31 : Int32))]) (rest := []) (lenOf pd_16 rfl) rfl (by show 2 * 0 + _ ≤ _; exact Nat.le_of_eq rfl) (hb hby d27_13) (fun _ _ => ⟨rfl, e0, (by decide : 0 + 1 ≤ _), (by decide : 0 + 31 ≤ _)⟩)
  dsimp only [Pt.U, Pt.locs, Pt.cells, Pt.slots] at X5 l5 y5 z5 st5 hQ5
  subst l5 y5 z5
  obtain ⟨b6, k7, rfl, u9, u10, u11, Ku12, u13, u14⟩ := hQ5
  have Ou12 : Old Z n0 T5.heap := O0.keep Ku12 all0
  have g_b6 : n0 ≤ b6 := Nat.le_trans (own_z O0) u10
  have sz_b6 : h0.size ≤ b6 := Nat.le_trans (Nat.le_refl _) u10
  have N5 := Fr.app N0 u9
  obtain ⟨fs, hr, hrun, hended, hW, hsame⟩ := X5.leave (v := some (.ref b6)) (fun h => by rw [Bd.returns] at h; cases h)
  refine ⟨_, _, pre0 _ ?_, hrun, hended, _, _, rfl, ?_, ⟨_, rfl⟩, hW, hsame.mono (by decide) (by decide)⟩
  · show Steps p.tables e below (s₁.setTop (mkF m 0 #[.val (.ref a1), .val (.int (0 : Int32)), .val (.int (31 : Int32))] [])) _
    refine XS.iloadN X0.here hx rfl (hb hby d27_0) rfl ?_
    refine XS.ifNo X0.here hx rfl (hb hby d27_1) rfl ((if0 _ _).trans (teq (by decide +kernel : (0 : Int32) = (0 : Int32))).2) ?_
    refine XS.iloadN X0.here hx rfl (hb hby d27_4) rfl ?_
    refine XS.aloadN X0.here hx rfl (hb hby d27_5) rfl rfl ?_
    refine X0.arraylength hx (by rw [e0]; exact Ar4.1) (State.isArrayOf_alike hZ.alike Ar4.2.1) (g := (mkF m 6 #[.val (.ref a1), .val (.int (0 : Int32)), .val (.int (31 : Int32))] [(.ref a1), (.int (31 : Int32))])) rfl rfl (hb hby d27_6) _ ?_
    rw [len_of Sz4 Nn4]
    refine XS.icmpNo X0.here hx rfl (hb hby d27_7) rfl (feq (by decide +kernel : ¬ ((31 : Int32) = (42 : Int32)))).1 ?_
    refine XS.aloadN X0.here hx rfl (hb hby d27_10) rfl rfl ?_
    refine XS.iloadN X0.here hx rfl (hb hby d27_11) rfl ?_
    refine XS.iloadN X0.here hx rfl (hb hby d27_12) rfl ?_
    show Steps p.tables e below (s₁.setTop (mkF m 13 #[.val (.ref a1), .val (.int (0 : Int32)), .val (.int (31 : Int32))] [(.int (31 : Int32)), (.int (0 : Int32)), (.ref a1)])) _
    refine st5 _ ?_
    show Steps p.tables e below (T5.setTop (mkF m 16 #[.val (.ref a1), .val (.int (0 : Int32)), .val (.int (31 : Int32))] [(.ref b6)])) _
    jvm_step X5.here [X5.here.top, hx, (hb hby d27_16), X5.method', Bd.returns, Value.isRef, FieldType.isReference]
    first | (intro acts; rw [hr _ acts rfl rfl rfl]) | rw [hr _ _ rfl rfl rfl]
    exact Steps.refl _
  · show Q27_64 Z _ _ h0 n0 _ T5.heap _
    exact ⟨b6, k7, rfl, N5, sz_b6, u11, ((Keep.refl h0 []).trans Ku12 all0), u13, u14⟩
theorem ef_rm22_59 (m : MethodId) (x0 : Addr) (x1 : Addr) : entryFrame m #[(.ref x0), (.ref x1), .null] 5 = mkF m 0 #[.val (.ref x0), .val (.ref x1), .val .null, .unset, .unset] [] := by first | (simp [entryFrame, mkF, argsToLocals, Value.category]; done) | rfl
def Q22_59 (Z : State) (a1 : Addr) (a2 : Addr) (a5 : Addr) (p16 : Int32) (k28 : ClassId) (h0 : Heap) (n0 : Nat) (v : Option Value) (h : Heap) (L : List Loc) : Prop := (∃ (b33 : Addr) (k34 : ClassId), v = none ∧ Fr n0 L ∧ h0.size ≤ b33 ∧ b33 < h.size ∧ Keep h0 h [a1] ∧ Exa Z h a1 C_4 ∧ Fld Z h a1 C_4 "coder" "B" (.int (0 : Int32)) ∧ Fld Z h a1 C_4 "value" "[B" (.ref b33) ∧ Exa Z h b33 "[B" ∧ Arv Z h b33 k34 .byte (31 : Int32) [(.int (82 : Int32)), (.int (101 : Int32)), (.int (97 : Int32)), (.int (100 : Int32)), (.int (44 : Int32)), (.int (32 : Int32)), (.int (87 : Int32)), (.int (114 : Int32)), (.int (105 : Int32)), (.int (116 : Int32)), (.int (101 : Int32)), (.int (44 : Int32)), (.int (32 : Int32)), (.int (65 : Int32)), (.int (112 : Int32)), (.int (112 : Int32)), (.int (101 : Int32)), (.int (110 : Int32)), (.int (100 : Int32)), (.int (32 : Int32)), (.int (97 : Int32)), (.int (110 : Int32)), (.int (100 : Int32)), (.int (32 : Int32)), (.int (67 : Int32)), (.int (111 : Int32)), (.int (110 : Int32)), (.int (116 : Int32)), (.int (114 : Int32)), (.int (111 : Int32)), (.int (108 : Int32))] (.int (0 : Int32)))
set_option maxRecDepth 65536 in
set_option maxHeartbeats 40000000 in
theorem rm22_59 (l : Launch) (Z : State) (a0 : Array Value) (hw : ∀ d ∈ own_ws, d.before a0 Z = true) (ws : List Jvm.Cond) (a1 : Addr) (a2 : Addr) (a5 : Addr) (p16 : Int32) (k28 : ClassId) (h0 : Heap) (n0 : Nat) (O0 : Old Z n0 h0) (E_4 : Exa Z h0 a2 C_5) (F6 : Fld Z h0 a2 C_2 "value" "[B" (.ref a5)) (F11 : Fld Z h0 a2 C_2 "count" "I" (.int (31 : Int32))) (S_17 : Sta Z Z.heap C_4 "COMPACT_STRINGS" "Z" (.int p16)) (hk18 : ¬ (p16 = (0 : Int32))) (F19 : Fld Z h0 a2 C_2 "coder" "B" (.int (0 : Int32))) (E_24 : Exa Z h0 a1 C_4) (F25 : Fld Z h0 a1 C_4 "coder" "B" (.int (0 : Int32))) (F26 : Fld Z h0 a1 C_4 "value" "[B" .null) (g_a1 : n0 ≤ a1) (V29 : Arv Z h0 a5 k28 .byte (42 : Int32) [(.int (82 : Int32)), (.int (101 : Int32)), (.int (97 : Int32)), (.int (100 : Int32)), (.int (44 : Int32)), (.int (32 : Int32)), (.int (87 : Int32)), (.int (114 : Int32)), (.int (105 : Int32)), (.int (116 : Int32)), (.int (101 : Int32)), (.int (44 : Int32)), (.int (32 : Int32)), (.int (65 : Int32)), (.int (112 : Int32)), (.int (112 : Int32)), (.int (101 : Int32)), (.int (110 : Int32)), (.int (100 : Int32)), (.int (32 : Int32)), (.int (97 : Int32)), (.int (110 : Int32)), (.int (100 : Int32)), (.int (32 : Int32)), (.int (67 : Int32)), (.int (111 : Int32)), (.int (110 : Int32)), (.int (116 : Int32)), (.int (114 : Int32)), (.int (111 : Int32)), (.int (108 : Int32))] (.int (0 : Int32))) (hne30 : a5 ≠ a1) (lt_a1 : a1 < h0.size) :
    MetFree l M_24 (head1 (Jvm.Cond.code M_24 jdk_42_method_150_code 5 none :: ws) ({ frames := 3, cells := 1, slots := 31, locals := 49 } : Room)) (fun a U => a = #[(.ref a1), (.ref a2), .null] ∧ Z.Warmed39 U.vm ∧ U.heap = h0) (fun _ _ _ _ _ => True) (fun _ U o U' => ∃ v L, o = .returned v ∧ Q22_59 Z a1 a2 a5 p16 k28 h0 n0 v U'.heap L ∧ FrameEnd U o U' L ({ frames := 3, cells := 1, slots := 31, locals := 49 } : Room).cells ({ frames := 3, cells := 1, slots := 31, locals := 49 } : Room).slots) := by
  refine MetFree.of_bodySF (plainFor_of_name pn_1) hisR ?_
  intro p e s m args below meth c s₁ Bd hml0 hP hK
  obtain ⟨rfl, hZ, hh⟩ := hP
  have hx := Bd.exec
  have hby := Bd.bytes
  have hml : c.maxLocals = 5 := hml0
  have hown : s.vm.findClass "java/lang/String" = some m.cls := findClass_of_methodNamed Bd.named
  have hnm := (name_of_methodNamed Bd.named Bd.method).1
  have X0 : Stand p l e ({ frames := 3, cells := 1, slots := 31, locals := 49 } : Room) s m #[(.ref a1), (.ref a2), .null] below meth c s₁ [] 0 0 := Stand.of_body Bd
  have e0 : s₁.heap = h0 := by rw [← hh, Bd.state]; rfl
  have N0 := Fr.nil n0
  have pre0 : ∀ t, Steps p.tables e below (s₁.setTop (mkF m 0 #[.val (.ref a1), .val (.ref a2), .val .null, .unset, .unset] [])) t → Steps p.tables e below (s₁.setTop (entryFrame m #[(.ref a1), (.ref a2), .null] 5)) t := fun t k => castTop (ef_rm22_59 m a1 a2) k
  obtain ⟨T3, X3, e3, st3⟩ := initO X0 hx hZ hown (hw _ (gw 146 rfl)) (hw _ (gw 38 rfl)) (hw _ (gw 39 rfl)) e0 (g := (mkF m 1 #[.val (.ref a1), .val (.ref a2), .val .null, .unset, .unset] [(.ref a1)])) rfl (by rw [hml]; rfl) rfl (hb hby d22_1) (by decide) (W := 0) (by show 2 * 0 + _ ≤ _; exact Nat.le_of_eq rfl) (by decide)
  obtain ⟨cq7, kq7, q7a, q7b, q7c⟩ := isOf hZ e3 E_4
  obtain ⟨_, _, ⟨T7, L7, k7, n7⟩, -, X7, ⟨Lc7, hQ7, l7, y7, z7⟩, st7⟩ := X3.virtualBack hx (y := M_17) (z := M_17) hown (mvT hZ (hw _ (gw 147 rfl))) (mvT hZ (hw _ (gw 148 rfl))) (notFace_of_selects (args := #[]) (mvT hZ (hw _ (gw 150 rfl)))) (mvT hZ (hw _ (gw 150 rfl))) (mvT hZ (hw _ (gw 149 rfl))) (by decide) (backOf (W := 0) (rm23_60 l Z a0 hw [] a2 a5 h0 n0  O0 F6) hZ (hw _ (gw 151 rfl)) (hw _ (gw 35 rfl)) (by decide) (by decide)) q7a q7c (g := (mkF m 5 #[.val (.ref a1), .val (.ref a2), .val .null, .unset, .unset] [(.ref a2)])) rfl (by rw [hml]; rfl) (Steps.refl _) (argsL := []) (rest := []) (lenOf pd_13 rfl) rfl (by show 2 * 0 + _ ≤ _; exact Nat.le_of_eq rfl) (hb hby d22_5) (fun _ _ => ⟨rfl, e3, (by decide : 0 + 0 ≤ _), (by decide : 0 + 0 ≤ _)⟩)
  dsimp only [Pt.U, Pt.locs, Pt.cells, Pt.slots] at X7 l7 y7 z7 st7 hQ7
  subst l7 y7 z7
  obtain ⟨rfl, u9, u10⟩ := hQ7
  have N7 := Fr.app N0 u9
  obtain ⟨cq12, kq12, q12a, q12b, q12c⟩ := isOf hZ u10 E_4
  obtain ⟨_, _, ⟨T12, L12, k12, n12⟩, -, X12, ⟨Lc12, hQ12, l12, y12, z12⟩, st12⟩ := X7.virtualBack hx (y := M_18) (z := M_19) hown (mvT hZ (hw _ (gw 152 rfl))) (mvT hZ (hw _ (gw 153 rfl))) (own_notFace (args := #[]) (y' := M_3) rfl (mvT hZ (hw _ (gw 82 rfl)))) (mvT hZ (hw _ (gw 155 rfl))) (mvT hZ (hw _ (gw 156 rfl))) (by decide) (backOf (W := 0) (rm24_61 l Z a0 hw [] a2 h0 n0  O0 E_4 F11) hZ (hw _ (gw 157 rfl)) (hw _ (gw 25 rfl)) (by decide) (by decide)) q12a q12c (g := (mkF m 10 #[.val (.ref a1), .val (.ref a2), .val .null, .val (.ref a5), .unset] [(.ref a2)])) rfl (by rw [hml]; rfl) (Steps.refl _) (argsL := []) (rest := []) (lenOf pd_2 rfl) rfl (by show 2 * 0 + _ ≤ _; exact Nat.le_of_eq rfl) (hb hby d22_10) (fun _ _ => ⟨rfl, u10, (by decide : 0 + 0 ≤ _), (by decide : 0 + 0 ≤ _)⟩)
  dsimp only [Pt.U, Pt.locs, Pt.cells, Pt.slots] at X12 l12 y12 z12 st12 hQ12
  subst l12 y12 z12
  obtain ⟨rfl, u14, u15⟩ := hQ12
  have N12 := Fr.app N7 u14
  obtain ⟨cq20, kq20, q20a, q20b, q20c⟩ := isOf hZ u15 E_4
  obtain ⟨_, _, ⟨T20, L20, k20, n20⟩, -, X20, ⟨Lc20, hQ20, l20, y20, z20⟩, st20⟩ := X12.virtualBack hx (y := M_20) (z := M_20) hown (mvT hZ (hw _ (gw 160 rfl))) (mvT hZ (hw _ (gw 161 rfl))) (notFace_of_selects (args := #[]) (mvT hZ (hw _ (gw 163 rfl)))) (mvT hZ (hw _ (gw 163 rfl))) (mvT hZ (hw _ (gw 162 rfl))) (by decide) (backOf (W := 0) (rm26_63 l Z a0 hw [] a2 p16 h0 n0  O0 S_17 hk18 F19) hZ (hw _ (gw 164 rfl)) (hw _ (gw 35 rfl)) (by decide) (by decide)) q20a q20c (g := (mkF m 16 #[.val (.ref a1), .val (.ref a2), .val .null, .val (.ref a5), .val (.int (31 : Int32))] [(.ref a2)])) rfl (by rw [hml]; rfl) (Steps.refl _) (argsL := []) (rest := []) (lenOf pd_14 rfl) rfl (by show 2 * 0 + _ ≤ _; exact Nat.le_of_eq rfl) (hb hby d22_16) (fun _ _ => ⟨rfl, u15, (by decide : 0 + 0 ≤ _), (by decide : 0 + 0 ≤ _)⟩)
  dsimp only [Pt.U, Pt.locs, Pt.cells, Pt.slots] at X20 l20 y20 z20 st20 hQ20
  subst l20 y20 z20
  obtain ⟨rfl, u22, u23⟩ := hQ20
  have N20 := Fr.app N12 u22
  obtain ⟨T27, h27, X27, e27, W27, st27⟩ := putFN X20 hx hZ hown (hw _ (gw 54 rfl)) Via.refl u23 F25 E_24 (Or.inr ⟨(hw _ (gw 55 rfl)), rfl, hnm⟩) (hw _ (gw 105 rfl)) (ty := .byte) (v' := (.int (0 : Int32))) (by decide) (by exact congrArg Value.int (by decide +kernel : (nar .byte (0 : Int32)) = (0 : Int32))) ((by decide +kernel : (nar .byte (0 : Int32)) = (0 : Int32)) ▸ fits_nar_byte _) (g := (mkF m 24 #[.val (.ref a1), .val (.ref a2), .val .null, .val (.ref a5), .val (.int (31 : Int32))] [(.int (0 : Int32)), (.ref a1)])) rfl rfl (hb hby d22_24)
  have O27 : Old Z n0 h27 := O0.wr W27 g_a1
  have Fw27 : Fld Z h27 a1 C_4 "coder" "B" (.int (0 : Int32)) := Fld.same W27 F25
  have N27 := Fr.snoc X27 N20 g_a1
  have f31 : Arv Z h27 a5 k28 .byte (42 : Int32) [(.int (82 : Int32)), (.int (101 : Int32)), (.int (97 : Int32)), (.int (100 : Int32)), (.int (44 : Int32)), (.int (32 : Int32)), (.int (87 : Int32)), (.int (114 : Int32)), (.int (105 : Int32)), (.int (116 : Int32)), (.int (101 : Int32)), (.int (44 : Int32)), (.int (32 : Int32)), (.int (65 : Int32)), (.int (112 : Int32)), (.int (112 : Int32)), (.int (101 : Int32)), (.int (110 : Int32)), (.int (100 : Int32)), (.int (32 : Int32)), (.int (97 : Int32)), (.int (110 : Int32)), (.int (100 : Int32)), (.int (32 : Int32)), (.int (67 : Int32)), (.int (111 : Int32)), (.int (110 : Int32)), (.int (116 : Int32)), (.int (114 : Int32)), (.int (111 : Int32)), (.int (108 : Int32))] (.int (0 : Int32)) := (V29.other W27 hne30)
  obtain ⟨_, _, ⟨T32, L32, k32, n32⟩, -, X32, ⟨Lc32, hQ32, l32, y32, z32⟩, st32⟩ := Jvm.LawKit.callS X27 hx (y := M_23) hown (mvT hZ (hw _ (gw 165 rfl))) (mvT hZ (hw _ (gw 166 rfl))) (mvT hZ (hw _ (gw 127 rfl))) (mvT hZ (hw _ (gw 167 rfl))) (by decide) (backOf (W := 1) (rm27_64 l Z a0 hw [] a5 k28 h27 n0  O27 f31) hZ (hw _ (gw 167 rfl)) (hw _ (gw 127 rfl)) (by decide) (by decide)) (g := (mkF m 32 #[.val (.ref a1), .val (.ref a2), .val .null, .val (.ref a5), .val (.int (31 : Int32))] [(.int (31 : Int32)), (.int (0 : Int32)), (.ref a5), (.ref a1)])) rfl (by rw [hml]; rfl) (argsL := [(.ref a5), (.int (0 : Int32)), (.int (31 : Int32))]) (rest := [(.ref a1)]) (lenOf pd_16 rfl) rfl (by show 2 * 0 + _ ≤ _; exact Nat.le_of_eq rfl) (hb hby d22_32) (fun _ _ => ⟨rfl, e27, (by decide : 0 + 1 ≤ _), (by decide : 0 + 31 ≤ _)⟩)
  dsimp only [Pt.U, Pt.locs, Pt.cells, Pt.slots] at X32 l32 y32 z32 st32 hQ32
  subst l32 y32 z32
  obtain ⟨b33, k34, rfl, u36, u37, u38, Ku39, u40, u41⟩ := hQ32
  have Ou39 : Old Z n0 T32.heap := O27.keep Ku39 all0
  have g_b33 : n0 ≤ b33 := Nat.le_trans (own_z O27) u37
  have sz_b33 : h0.size ≤ b33 := Nat.le_trans (Keep.of_wr W27).1 u37
  have N32 := Fr.app N27 u36
  have f42 : Fld Z T32.heap a1 C_4 "value" "[B" .null := ((Fld.other W27 F26 (Or.inr (slot_ne (Or.inr (hw _ (gw 47 rfl))) (Or.inr (hw _ (gw 55 rfl))) (by decide) (t := (.array .byte)) (t' := .byte) (by decide) (by decide)))).keep Ku39 nin0)
  have f43 : Exa Z T32.heap a1 C_4 := ((Exa.wr W27 E_24).keep Ku39)
  obtain ⟨T44, h44, X44, e44, W44, st44⟩ := putF X32 hx hZ hown (host := "") (Or.inl (hw _ (gw 46 rfl))) Via.refl rfl f42 f43 (Or.inr ⟨(hw _ (gw 47 rfl)), rfl, hnm⟩) (hw _ (gw 105 rfl)) (ty := (.array .byte)) (by decide) rfl rfl (g := (mkF m 35 #[.val (.ref a1), .val (.ref a2), .val .null, .val (.ref a5), .val (.int (31 : Int32))] [(.ref b33), (.ref a1)])) rfl rfl (hb hby d22_35)
  have O44 : Old Z n0 h44 := Ou39.wr W44 g_a1
  have Fw44 : Fld Z h44 a1 C_4 "value" "[B" (.ref b33) := Fld.same W44 f42
  have N44 := Fr.snoc X44 N32 g_a1
  obtain ⟨fs, hr, hrun, hended, hW, hsame⟩ := X44.leave (v := none) (fun _ => rfl)
  have f45 : Exa Z h44 a1 C_4 := (Exa.wr W44 f43)
  have f46 : Fld Z h44 a1 C_4 "coder" "B" (.int (0 : Int32)) := (Fld.other W44 (Fw27.keep Ku39 nin0) (Or.inr (slot_ne (Or.inr (hw _ (gw 55 rfl))) (Or.inr (hw _ (gw 47 rfl))) (by decide) (t := .byte) (t' := (.array .byte)) (by decide) (by decide))))
  have f47 : Exa Z h44 b33 "[B" := (Exa.wr W44 u40)
  have f48 : Arv Z h44 b33 k34 .byte (31 : Int32) [(.int (82 : Int32)), (.int (101 : Int32)), (.int (97 : Int32)), (.int (100 : Int32)), (.int (44 : Int32)), (.int (32 : Int32)), (.int (87 : Int32)), (.int (114 : Int32)), (.int (105 : Int32)), (.int (116 : Int32)), (.int (101 : Int32)), (.int (44 : Int32)), (.int (32 : Int32)), (.int (65 : Int32)), (.int (112 : Int32)), (.int (112 : Int32)), (.int (101 : Int32)), (.int (110 : Int32)), (.int (100 : Int32)), (.int (32 : Int32)), (.int (97 : Int32)), (.int (110 : Int32)), (.int (100 : Int32)), (.int (32 : Int32)), (.int (67 : Int32)), (.int (111 : Int32)), (.int (110 : Int32)), (.int (116 : Int32)), (.int (114 : Int32)), (.int (111 : Int32)), (.int (108 : Int32))] (.int (0 : Int32)) := (u41.other W44 (Ne.symm (Nat.ne_of_lt (Nat.lt_of_lt_of_le (Nat.lt_of_lt_of_le lt_a1 (Keep.of_wr W27).1) u37))))
  refine ⟨_, _, pre0 _ ?_, hrun, hended, _, _, rfl, ?_, ⟨_, rfl⟩, hW, hsame.mono (by decide) (by decide)⟩
  · show Steps p.tables e below (s₁.setTop (mkF m 0 #[.val (.ref a1), .val (.ref a2), .val .null, .unset, .unset] [])) _
    refine XS.aloadN X0.here hx rfl (hb hby d22_0) rfl rfl ?_
    refine st3 _ ?_
    refine XS.aloadN X3.here hx rfl (hb hby d22_4) rfl rfl ?_
    refine st7.trans ?_
    refine XS.astoreN X7.here hx rfl (hb hby d22_8) rfl rfl (l' := #[.val (.ref a1), .val (.ref a2), .val .null, .val (.ref a5), .unset]) rfl ?_
    refine XS.aloadN X7.here hx rfl (hb hby d22_9) rfl rfl ?_
    refine st12.trans ?_
    refine XS.istore X12.here hx rfl (hb hby d22_13) rfl (l' := #[.val (.ref a1), .val (.ref a2), .val .null, .val (.ref a5), .val (.int (31 : Int32))]) rfl ?_
    refine XS.aloadN X12.here hx rfl (hb hby d22_15) rfl rfl ?_
    show Steps p.tables e below (T12.setTop (mkF m 16 #[.val (.ref a1), .val (.ref a2), .val .null, .val (.ref a5), .val (.int (31 : Int32))] [(.ref a2)])) _
    refine st20.trans ?_
    refine XS.ifNo X20.here hx rfl (hb hby d22_19) rfl ((if0 _ _).trans (feq (by decide +kernel : ¬ ((1 : Int32) = (0 : Int32)))).1) ?_
    refine XS.aloadN X20.here hx rfl (hb hby d22_22) rfl rfl ?_
    refine XS.iconst X20.here hx rfl (hb hby d22_23) ?_
    refine st27 _ ?_
    refine XS.aloadN X27.here hx rfl (hb hby d22_27) rfl rfl ?_
    refine XS.aloadN X27.here hx rfl (hb hby d22_28) rfl rfl ?_
    refine XS.iconst X27.here hx rfl (hb hby d22_29) ?_
    refine XS.iload X27.here hx rfl (hb hby d22_30) rfl ?_
    show Steps p.tables e below (T27.setTop (mkF m 32 #[.val (.ref a1), .val (.ref a2), .val .null, .val (.ref a5), .val (.int (31 : Int32))] [(.int (31 : Int32)), (.int (0 : Int32)), (.ref a5), (.ref a1)])) _
    refine st32 _ ?_
    refine st44 _ ?_
    refine XS.goto X44.here hx rfl (pc0 := 38) (pc' := 97) rfl (hb hby d22_38) (by decide) (by decide) ?_
    show Steps p.tables e below (T44.setTop (mkF m 97 #[.val (.ref a1), .val (.ref a2), .val .null, .val (.ref a5), .val (.int (31 : Int32))] [])) _
    exact X44.returnOut hx Bd.returns (hb hby d22_97) hr
  · show Q22_59 Z _ _ _ _ _ h0 n0 _ T44.heap _
    rw [e44]
    exact ⟨b33, k34, rfl, N44, sz_b33, (Nat.lt_of_lt_of_le u38 (Keep.of_wr W44).1), ((((Keep.refl h0 [a1]).wr W27 (Or.inl (List.mem_of_getElem? (i := 0) rfl))).trans Ku39 all0).wr W44 (Or.inl (List.mem_of_getElem? (i := 0) rfl))), f45, f46, Fw44, f47, f48⟩
theorem ef_rm21_58 (m : MethodId) (x0 : Addr) (x1 : Addr) : entryFrame m #[(.ref x0), (.ref x1)] 2 = mkF m 0 #[.val (.ref x0), .val (.ref x1)] [] := by first | (simp [entryFrame, mkF, argsToLocals, Value.category]; done) | rfl
def Q21_58 (Z : State) (a1 : Addr) (a2 : Addr) (a4 : Addr) (p7 : Int32) (k14 : ClassId) (h0 : Heap) (n0 : Nat) (v : Option Value) (h : Heap) (L : List Loc) : Prop := (∃ (b18 : Addr) (k19 : ClassId), v = none ∧ Fr n0 L ∧ h0.size ≤ b18 ∧ b18 < h.size ∧ Keep h0 h [a1] ∧ Exa Z h a1 C_4 ∧ Fld Z h a1 C_4 "coder" "B" (.int (0 : Int32)) ∧ Fld Z h a1 C_4 "value" "[B" (.ref b18) ∧ Exa Z h b18 "[B" ∧ Arv Z h b18 k19 .byte (31 : Int32) [(.int (82 : Int32)), (.int (101 : Int32)), (.int (97 : Int32)), (.int (100 : Int32)), (.int (44 : Int32)), (.int (32 : Int32)), (.int (87 : Int32)), (.int (114 : Int32)), (.int (105 : Int32)), (.int (116 : Int32)), (.int (101 : Int32)), (.int (44 : Int32)), (.int (32 : Int32)), (.int (65 : Int32)), (.int (112 : Int32)), (.int (112 : Int32)), (.int (101 : Int32)), (.int (110 : Int32)), (.int (100 : Int32)), (.int (32 : Int32)), (.int (97 : Int32)), (.int (110 : Int32)), (.int (100 : Int32)), (.int (32 : Int32)), (.int (67 : Int32)), (.int (111 : Int32)), (.int (110 : Int32)), (.int (116 : Int32)), (.int (114 : Int32)), (.int (111 : Int32)), (.int (108 : Int32))] (.int (0 : Int32)))
set_option maxRecDepth 65536 in
set_option maxHeartbeats 40000000 in
theorem rm21_58 (l : Launch) (Z : State) (a0 : Array Value) (hw : ∀ d ∈ own_ws, d.before a0 Z = true) (ws : List Jvm.Cond) (a1 : Addr) (a2 : Addr) (a4 : Addr) (p7 : Int32) (k14 : ClassId) (h0 : Heap) (n0 : Nat) (O0 : Old Z n0 h0) (E_3 : Exa Z h0 a2 C_5) (F5 : Fld Z h0 a2 C_2 "value" "[B" (.ref a4)) (F6 : Fld Z h0 a2 C_2 "count" "I" (.int (31 : Int32))) (S_8 : Sta Z Z.heap C_4 "COMPACT_STRINGS" "Z" (.int p7)) (hk9 : ¬ (p7 = (0 : Int32))) (F10 : Fld Z h0 a2 C_2 "coder" "B" (.int (0 : Int32))) (E_11 : Exa Z h0 a1 C_4) (F12 : Fld Z h0 a1 C_4 "coder" "B" (.int (0 : Int32))) (F13 : Fld Z h0 a1 C_4 "value" "[B" .null) (V15 : Arv Z h0 a4 k14 .byte (42 : Int32) [(.int (82 : Int32)), (.int (101 : Int32)), (.int (97 : Int32)), (.int (100 : Int32)), (.int (44 : Int32)), (.int (32 : Int32)), (.int (87 : Int32)), (.int (114 : Int32)), (.int (105 : Int32)), (.int (116 : Int32)), (.int (101 : Int32)), (.int (44 : Int32)), (.int (32 : Int32)), (.int (65 : Int32)), (.int (112 : Int32)), (.int (112 : Int32)), (.int (101 : Int32)), (.int (110 : Int32)), (.int (100 : Int32)), (.int (32 : Int32)), (.int (97 : Int32)), (.int (110 : Int32)), (.int (100 : Int32)), (.int (32 : Int32)), (.int (67 : Int32)), (.int (111 : Int32)), (.int (110 : Int32)), (.int (116 : Int32)), (.int (114 : Int32)), (.int (111 : Int32)), (.int (108 : Int32))] (.int (0 : Int32))) (hne16 : a4 ≠ a1) (g_a1 : n0 ≤ a1) (lt_a1 : a1 < h0.size) :
    MetFree l M_25 (head1 (Jvm.Cond.code M_25 jdk_42_method_53_code 2 none :: ws) ({ frames := 4, cells := 1, slots := 31, locals := 65 } : Room)) (fun a U => a = #[(.ref a1), (.ref a2)] ∧ Z.Warmed39 U.vm ∧ U.heap = h0) (fun _ _ _ _ _ => True) (fun _ U o U' => ∃ v L, o = .returned v ∧ Q21_58 Z a1 a2 a4 p7 k14 h0 n0 v U'.heap L ∧ FrameEnd U o U' L ({ frames := 4, cells := 1, slots := 31, locals := 65 } : Room).cells ({ frames := 4, cells := 1, slots := 31, locals := 65 } : Room).slots) := by
  refine MetFree.of_bodySF (plainFor_of_name pn_1) hisR ?_
  intro p e s m args below meth c s₁ Bd hml0 hP hK
  obtain ⟨rfl, hZ, hh⟩ := hP
  have hx := Bd.exec
  have hby := Bd.bytes
  have hml : c.maxLocals = 2 := hml0
  have hown : s.vm.findClass "java/lang/String" = some m.cls := findClass_of_methodNamed Bd.named
  have hnm := (name_of_methodNamed Bd.named Bd.method).1
  have X0 : Stand p l e ({ frames := 4, cells := 1, slots := 31, locals := 65 } : Room) s m #[(.ref a1), (.ref a2)] below meth c s₁ [] 0 0 := Stand.of_body Bd
  have e0 : s₁.heap = h0 := by rw [← hh, Bd.state]; rfl
  have N0 := Fr.nil n0
  have pre0 : ∀ t, Steps p.tables e below (s₁.setTop (mkF m 0 #[.val (.ref a1), .val (.ref a2)] [])) t → Steps p.tables e below (s₁.setTop (entryFrame m #[(.ref a1), (.ref a2)] 2)) t := fun t k => castTop (ef_rm21_58 m a1 a2) k
  obtain ⟨_, _, ⟨T17, L17, k17, n17⟩, -, X17, ⟨Lc17, hQ17, l17, y17, z17⟩, st17⟩ := X0.specialBack hx (y := M_24) rfl hown (mvT hZ (hw _ (gw 143 rfl))) (mvT hZ (hw _ (gw 144 rfl))) (mvT hZ (hw _ (gw 145 rfl))) (by decide) (backOf (W := 0) (rm22_59 l Z a0 hw [] a1 a2 a4 p7 k14 h0 n0  O0 E_3 F5 F6 S_8 hk9 F10 E_11 F12 F13 g_a1 V15 hne16 lt_a1) hZ (hw _ (gw 145 rfl)) (hw _ (gw 44 rfl)) (by decide) (by decide)) (g := (mkF m 3 #[.val (.ref a1), .val (.ref a2)] [.null, (.ref a2), (.ref a1)])) rfl (by rw [hml]; rfl) (Steps.refl _) (a := a1) (argsL := [(.ref a2), .null]) (rest := []) (lenOf pd_17 rfl) rfl (by show 2 * 0 + _ ≤ _; exact Nat.le_of_eq rfl) (hb hby d21_3) (fun _ _ => ⟨rfl, e0, (by decide : 0 + 1 ≤ _), (by decide : 0 + 31 ≤ _)⟩)
  dsimp only [Pt.U, Pt.locs, Pt.cells, Pt.slots] at X17 l17 y17 z17 st17 hQ17
  subst l17 y17 z17
  obtain ⟨b18, k19, rfl, u21, u22, u23, Ku24, u25, u26, u27, u28, u29⟩ := hQ17
  have Ou24 : Old Z n0 T17.heap := O0.keep Ku24 (allS g_a1 all0)
  have g_b18 : n0 ≤ b18 := Nat.le_trans (own_z O0) u22
  have sz_b18 : h0.size ≤ b18 := Nat.le_trans (Nat.le_refl _) u22
  have N17 := Fr.app N0 u21
  obtain ⟨fs, hr, hrun, hended, hW, hsame⟩ := X17.leave (v := none) (fun _ => rfl)
  refine ⟨_, _, pre0 _ ?_, hrun, hended, _, _, rfl, ?_, ⟨_, rfl⟩, hW, hsame.mono (by decide) (by decide)⟩
  · show Steps p.tables e below (s₁.setTop (mkF m 0 #[.val (.ref a1), .val (.ref a2)] [])) _
    refine XS.aloadN X0.here hx rfl (hb hby d21_0) rfl rfl ?_
    refine XS.aloadN X0.here hx rfl (hb hby d21_1) rfl rfl ?_
    refine XS.aconstNull X0.here hx rfl (hb hby d21_2) ?_
    refine st17.trans ?_
    show Steps p.tables e below (T17.setTop (mkF m 6 #[.val (.ref a1), .val (.ref a2)] [])) _
    exact X17.returnOut hx Bd.returns (hb hby d21_6) hr
  · show Q21_58 Z _ _ _ _ _ h0 n0 _ T17.heap _
    exact ⟨b18, k19, rfl, N17, sz_b18, u23, ((Keep.refl h0 [a1]).trans Ku24 (allS (Or.inl (List.mem_of_getElem? (i := 0) rfl)) all0)), u25, u26, u27, u28, u29⟩
theorem ef_rm20_57 (m : MethodId) (x0 : Addr) : entryFrame m #[(.ref x0)] 1 = mkF m 0 #[.val (.ref x0)] [] := by first | (simp [entryFrame, mkF, argsToLocals, Value.category]; done) | rfl
def Q20_57 (Z : State) (a1 : Addr) (a4 : Addr) (p7 : Int32) (k11 : ClassId) (h0 : Heap) (n0 : Nat) (v : Option Value) (h : Heap) (L : List Loc) : Prop := (∃ (b2 : Addr) (b19 : Addr) (k20 : ClassId), v = some (.ref b2) ∧ Fr n0 L ∧ h0.size ≤ b2 ∧ b2 < h.size ∧ h0.size ≤ b19 ∧ b19 < h.size ∧ b2 ≠ b19 ∧ Keep h0 h [] ∧ Exa Z h b2 C_4 ∧ Fld Z h b2 C_4 "coder" "B" (.int (0 : Int32)) ∧ Fld Z h b2 C_4 "value" "[B" (.ref b19) ∧ Exa Z h b19 "[B" ∧ Arv Z h b19 k20 .byte (31 : Int32) [(.int (82 : Int32)), (.int (101 : Int32)), (.int (97 : Int32)), (.int (100 : Int32)), (.int (44 : Int32)), (.int (32 : Int32)), (.int (87 : Int32)), (.int (114 : Int32)), (.int (105 : Int32)), (.int (116 : Int32)), (.int (101 : Int32)), (.int (44 : Int32)), (.int (32 : Int32)), (.int (65 : Int32)), (.int (112 : Int32)), (.int (112 : Int32)), (.int (101 : Int32)), (.int (110 : Int32)), (.int (100 : Int32)), (.int (32 : Int32)), (.int (97 : Int32)), (.int (110 : Int32)), (.int (100 : Int32)), (.int (32 : Int32)), (.int (67 : Int32)), (.int (111 : Int32)), (.int (110 : Int32)), (.int (116 : Int32)), (.int (114 : Int32)), (.int (111 : Int32)), (.int (108 : Int32))] (.int (0 : Int32)))
set_option maxRecDepth 65536 in
set_option maxHeartbeats 40000000 in
theorem rm20_57 (l : Launch) (Z : State) (a0 : Array Value) (hw : ∀ d ∈ own_ws, d.before a0 Z = true) (ws : List Jvm.Cond) (a1 : Addr) (a4 : Addr) (p7 : Int32) (k11 : ClassId) (h0 : Heap) (n0 : Nat) (O0 : Old Z n0 h0) (E_3 : Exa Z h0 a1 C_5) (F5 : Fld Z h0 a1 C_2 "value" "[B" (.ref a4)) (F6 : Fld Z h0 a1 C_2 "count" "I" (.int (31 : Int32))) (S_8 : Sta Z Z.heap C_4 "COMPACT_STRINGS" "Z" (.int p7)) (hk9 : ¬ (p7 = (0 : Int32))) (F10 : Fld Z h0 a1 C_2 "coder" "B" (.int (0 : Int32))) (V12 : Arv Z h0 a4 k11 .byte (42 : Int32) [(.int (82 : Int32)), (.int (101 : Int32)), (.int (97 : Int32)), (.int (100 : Int32)), (.int (44 : Int32)), (.int (32 : Int32)), (.int (87 : Int32)), (.int (114 : Int32)), (.int (105 : Int32)), (.int (116 : Int32)), (.int (101 : Int32)), (.int (44 : Int32)), (.int (32 : Int32)), (.int (65 : Int32)), (.int (112 : Int32)), (.int (112 : Int32)), (.int (101 : Int32)), (.int (110 : Int32)), (.int (100 : Int32)), (.int (32 : Int32)), (.int (97 : Int32)), (.int (110 : Int32)), (.int (100 : Int32)), (.int (32 : Int32)), (.int (67 : Int32)), (.int (111 : Int32)), (.int (110 : Int32)), (.int (116 : Int32)), (.int (114 : Int32)), (.int (111 : Int32)), (.int (108 : Int32))] (.int (0 : Int32))) (lt_a4 : a4 < h0.size) :
    MetFree l M_26 (head1 (Jvm.Cond.code M_26 jdk_67_method_42_code 1 (some (.object "java/lang/String")) :: ws) ({ frames := 5, cells := 2, slots := 35, locals := 79 } : Room)) (fun a U => a = #[(.ref a1)] ∧ Z.Warmed39 U.vm ∧ U.heap = h0) (fun _ _ _ _ _ => True) (fun _ U o U' => ∃ v L, o = .returned v ∧ Q20_57 Z a1 a4 p7 k11 h0 n0 v U'.heap L ∧ FrameEnd U o U' L ({ frames := 5, cells := 2, slots := 35, locals := 79 } : Room).cells ({ frames := 5, cells := 2, slots := 35, locals := 79 } : Room).slots) := by
  refine MetFree.of_bodySF (plainFor_of_name pn_3) hisR ?_
  intro p e s m args below meth c s₁ Bd hml0 hP hK
  obtain ⟨rfl, hZ, hh⟩ := hP
  have hx := Bd.exec
  have hby := Bd.bytes
  have hml : c.maxLocals = 1 := hml0
  have hown : s.vm.findClass "java/lang/StringBuilder" = some m.cls := findClass_of_methodNamed Bd.named
  have hnm := (name_of_methodNamed Bd.named Bd.method).1
  have X0 : Stand p l e ({ frames := 5, cells := 2, slots := 35, locals := 79 } : Room) s m #[(.ref a1)] below meth c s₁ [] 0 0 := Stand.of_body Bd
  have e0 : s₁.heap = h0 := by rw [← hh, Bd.state]; rfl
  have N0 := Fr.nil n0
  have pre0 : ∀ t, Steps p.tables e below (s₁.setTop (mkF m 0 #[.val (.ref a1)] [])) t → Steps p.tables e below (s₁.setTop (entryFrame m #[(.ref a1)] 1)) t := fun t k => castTop (ef_rm20_57 m a1) k
  obtain ⟨T2, h2, X2, e2, E2, A2, D2, -, st2⟩ := newO X0 hx hZ hown (hw _ (gw 138 rfl)) (hw _ (gw 105 rfl)) (hw _ (gw 44 rfl)) e0 (g := (mkF m 0 #[.val (.ref a1)] [])) rfl (hb hby d20_0) (by decide) (by decide)
  obtain ⟨b2, g2⟩ : ∃ z, z = h0.size := ⟨_, rfl⟩
  rw [← g2] at A2 D2 st2
  have O2 : Old Z n0 h2 := O0.ext E2
  have bd_b2 : h0.size ≤ b2 := Nat.le_of_eq g2.symm
  have g_b2 : n0 ≤ b2 := Nat.le_trans (own_z O0) bd_b2
  have sz_b2 : h0.size ≤ b2 := Nat.le_trans (Nat.le_refl _) bd_b2
  have lt_b2 : b2 < h2.size := A2.lt
  have D2_47 : Fld Z h2 b2 C_4 "value" "[B" .null := D2 (Or.inr (hw _ (gw 47 rfl))) (ty := (.array .byte)) (by decide)
  have D2_55 : Fld Z h2 b2 C_4 "coder" "B" (.int (0 : Int32)) := D2 (Or.inr (hw _ (gw 55 rfl))) (ty := .byte) (by decide)
  have f13 : Exa Z h2 a1 C_5 := (Exa.ext E2 E_3)
  have f14 : Fld Z h2 a1 C_2 "value" "[B" (.ref a4) := (Fld.ext E2 F5)
  have f15 : Fld Z h2 a1 C_2 "count" "I" (.int (31 : Int32)) := (Fld.ext E2 F6)
  have f16 : Fld Z h2 a1 C_2 "coder" "B" (.int (0 : Int32)) := (Fld.ext E2 F10)
  have f17 : Arv Z h2 a4 k11 .byte (42 : Int32) [(.int (82 : Int32)), (.int (101 : Int32)), (.int (97 : Int32)), (.int (100 : Int32)), (.int (44 : Int32)), (.int (32 : Int32)), (.int (87 : Int32)), (.int (114 : Int32)), (.int (105 : Int32)), (.int (116 : Int32)), (.int (101 : Int32)), (.int (44 : Int32)), (.int (32 : Int32)), (.int (65 : Int32)), (.int (112 : Int32)), (.int (112 : Int32)), (.int (101 : Int32)), (.int (110 : Int32)), (.int (100 : Int32)), (.int (32 : Int32)), (.int (97 : Int32)), (.int (110 : Int32)), (.int (100 : Int32)), (.int (32 : Int32)), (.int (67 : Int32)), (.int (111 : Int32)), (.int (110 : Int32)), (.int (116 : Int32)), (.int (114 : Int32)), (.int (111 : Int32)), (.int (108 : Int32))] (.int (0 : Int32)) := (V12.ext E2)
  obtain ⟨_, _, ⟨T18, L18, k18, n18⟩, -, X18, ⟨Lc18, hQ18, l18, y18, z18⟩, st18⟩ := X2.specialBack hx (y := M_25) rfl hown (mvT hZ (hw _ (gw 139 rfl))) (mvT hZ (hw _ (gw 140 rfl))) (mvT hZ (hw _ (gw 142 rfl))) (by decide) (backOf (W := 1) (rm21_58 l Z a0 hw [] b2 a1 a4 p7 k11 h2 n0  O2 f13 f14 f15 S_8 hk9 f16 A2 D2_55 D2_47 f17 (Nat.ne_of_lt (Nat.lt_of_lt_of_le lt_a4 bd_b2)) g_b2 lt_b2) hZ (hw _ (gw 142 rfl)) (hw _ (gw 44 rfl)) (by decide) (by decide)) (g := (mkF m 5 #[.val (.ref a1)] [(.ref a1), (.ref b2), (.ref b2)])) rfl (by rw [hml]; rfl) (Steps.refl _) (a := b2) (argsL := [(.ref a1)]) (rest := [(.ref b2)]) (lenOf pd_18 rfl) rfl (by show 2 * 0 + _ ≤ _; exact Nat.le_of_eq rfl) (hb hby d20_5) (fun _ _ => ⟨rfl, e2, (by decide : 1 + 1 ≤ _), (by decide : 4 + 31 ≤ _)⟩)
  dsimp only [Pt.U, Pt.locs, Pt.cells, Pt.slots] at X18 l18 y18 z18 st18 hQ18
  subst l18 y18 z18
  obtain ⟨b19, k20, rfl, u22, u23, u24, Ku25, u26, u27, u28, u29, u30⟩ := hQ18
  have Ou25 : Old Z n0 T18.heap := O2.keep Ku25 (allS g_b2 all0)
  have g_b19 : n0 ≤ b19 := Nat.le_trans (own_z O2) u23
  have sz_b19 : h0.size ≤ b19 := Nat.le_trans E2.1 u23
  have N18 := Fr.app N0 u22
  obtain ⟨fs, hr, hrun, hended, hW, hsame⟩ := X18.leave (v := some (.ref b2)) (fun h => by rw [Bd.returns] at h; cases h)
  refine ⟨_, _, pre0 _ ?_, hrun, hended, _, _, rfl, ?_, ⟨_, rfl⟩, hW, hsame.mono (by decide) (by decide)⟩
  · show Steps p.tables e below (s₁.setTop (mkF m 0 #[.val (.ref a1)] [])) _
    refine st2 _ ?_
    refine XS.dup X2.here hx rfl (hb hby d20_3) rfl rfl ?_
    refine XS.aloadN X2.here hx rfl (hb hby d20_4) rfl rfl ?_
    refine st18.trans ?_
    show Steps p.tables e below (T18.setTop (mkF m 8 #[.val (.ref a1)] [(.ref b2)])) _
    jvm_step X18.here [X18.here.top, hx, (hb hby d20_8), X18.method', Bd.returns, Value.isRef, FieldType.isReference]
    first | (intro acts; rw [hr _ acts rfl rfl rfl]) | rw [hr _ _ rfl rfl rfl]
    exact Steps.refl _
  · show Q20_57 Z _ _ _ _ h0 n0 _ T18.heap _
    exact ⟨b2, b19, k20, rfl, N18, sz_b2, (Nat.lt_of_lt_of_le lt_b2 Ku25.1), sz_b19, u24, (Nat.ne_of_lt (Nat.lt_of_lt_of_le lt_b2 u23)), (((Keep.refl h0 []).ext E2).trans Ku25 (allS (Or.inr sz_b2) all0)), u26, u27, u28, u29, u30⟩
theorem ef_rm1_2 (m : MethodId)  : entryFrame m #[] 3 = mkF m 0 #[.unset, .unset, .unset] [] := by first | (simp [entryFrame, mkF, argsToLocals, Value.category]; done) | rfl
def Q1_2 (Z : State) (a1 : Addr) (a3 : Addr) (a4 : Addr) (a5 : Addr) (a6 : Addr) (k7 : ClassId) (a22 : Addr) (a26 : Addr) (k28 : ClassId) (p30 : Int32) (a71 : Addr) (a75 : Addr) (k77 : ClassId) (a114 : Addr) (a118 : Addr) (k120 : ClassId) (a159 : Addr) (a163 : Addr) (k165 : ClassId) (h0 : Heap) (n0 : Nat) (v : Option Value) (h : Heap) (L : List Loc) : Prop := (∃ (b182 : Addr) (b183 : Addr) (k184 : ClassId), v = some (.ref b182) ∧ Fr n0 L ∧ h0.size ≤ b182 ∧ b182 < h.size ∧ h0.size ≤ b183 ∧ b183 < h.size ∧ b182 ≠ b183 ∧ Keep h0 h [] ∧ Exa Z h b182 C_4 ∧ Fld Z h b182 C_4 "coder" "B" (.int (0 : Int32)) ∧ Fld Z h b182 C_4 "value" "[B" (.ref b183) ∧ Exa Z h b183 "[B" ∧ Arv Z h b183 k184 .byte (31 : Int32) [(.int (82 : Int32)), (.int (101 : Int32)), (.int (97 : Int32)), (.int (100 : Int32)), (.int (44 : Int32)), (.int (32 : Int32)), (.int (87 : Int32)), (.int (114 : Int32)), (.int (105 : Int32)), (.int (116 : Int32)), (.int (101 : Int32)), (.int (44 : Int32)), (.int (32 : Int32)), (.int (65 : Int32)), (.int (112 : Int32)), (.int (112 : Int32)), (.int (101 : Int32)), (.int (110 : Int32)), (.int (100 : Int32)), (.int (32 : Int32)), (.int (97 : Int32)), (.int (110 : Int32)), (.int (100 : Int32)), (.int (32 : Int32)), (.int (67 : Int32)), (.int (111 : Int32)), (.int (110 : Int32)), (.int (116 : Int32)), (.int (114 : Int32)), (.int (111 : Int32)), (.int (108 : Int32))] (.int (0 : Int32)))
set_option maxRecDepth 65536 in
set_option maxHeartbeats 40000000 in
theorem rm1_2 (l : Launch) (Z : State) (a0 : Array Value) (hw : ∀ d ∈ own_ws, d.before a0 Z = true) (ws : List Jvm.Cond) (a1 : Addr) (a3 : Addr) (a4 : Addr) (a5 : Addr) (a6 : Addr) (k7 : ClassId) (a22 : Addr) (a26 : Addr) (k28 : ClassId) (p30 : Int32) (a71 : Addr) (a75 : Addr) (k77 : ClassId) (a114 : Addr) (a118 : Addr) (k120 : ClassId) (a159 : Addr) (a163 : Addr) (k165 : ClassId) (h0 : Heap) (n0 : Nat) (O0 : Old Z n0 h0) (S_2 : Sta Z Z.heap C_0 "$VALUES" C_1 (.ref a1)) (V8 : Arv Z Z.heap a1 k7 (.object "com/example/stern_warden/sternwarden/model/AccessMode") (4 : Int32) [(.ref a3), (.ref a4), (.ref a5), (.ref a6)] .null) (E_9 : Exa Z Z.heap a1 C_1) (F23 : Fld Z Z.heap a3 C_0 "localName" C_3 (.ref a22)) (E_25 : Exa Z Z.heap a22 C_4) (F27 : Fld Z Z.heap a22 C_4 "value" "[B" (.ref a26)) (V29 : Arv Z Z.heap a26 k28 .byte (4 : Int32) [(.int (82 : Int32)), (.int (101 : Int32)), (.int (97 : Int32)), (.int (100 : Int32))] (.int (0 : Int32))) (S_31 : Sta Z Z.heap C_4 "COMPACT_STRINGS" "Z" (.int p30)) (hk32 : ¬ (p30 = (0 : Int32))) (F33 : Fld Z Z.heap a22 C_4 "coder" "B" (.int (0 : Int32))) (F72 : Fld Z Z.heap a4 C_0 "localName" C_3 (.ref a71)) (E_74 : Exa Z Z.heap a71 C_4) (F76 : Fld Z Z.heap a71 C_4 "value" "[B" (.ref a75)) (V78 : Arv Z Z.heap a75 k77 .byte (5 : Int32) [(.int (87 : Int32)), (.int (114 : Int32)), (.int (105 : Int32)), (.int (116 : Int32)), (.int (101 : Int32))] (.int (0 : Int32))) (F79 : Fld Z Z.heap a71 C_4 "coder" "B" (.int (0 : Int32))) (F115 : Fld Z Z.heap a5 C_0 "localName" C_3 (.ref a114)) (E_117 : Exa Z Z.heap a114 C_4) (F119 : Fld Z Z.heap a114 C_4 "value" "[B" (.ref a118)) (V121 : Arv Z Z.heap a118 k120 .byte (6 : Int32) [(.int (65 : Int32)), (.int (112 : Int32)), (.int (112 : Int32)), (.int (101 : Int32)), (.int (110 : Int32)), (.int (100 : Int32))] (.int (0 : Int32))) (F122 : Fld Z Z.heap a114 C_4 "coder" "B" (.int (0 : Int32))) (F160 : Fld Z Z.heap a6 C_0 "localName" C_3 (.ref a159)) (E_162 : Exa Z Z.heap a159 C_4) (F164 : Fld Z Z.heap a159 C_4 "value" "[B" (.ref a163)) (V166 : Arv Z Z.heap a163 k165 .byte (7 : Int32) [(.int (67 : Int32)), (.int (111 : Int32)), (.int (110 : Int32)), (.int (116 : Int32)), (.int (114 : Int32)), (.int (111 : Int32)), (.int (108 : Int32))] (.int (0 : Int32))) (F167 : Fld Z Z.heap a159 C_4 "coder" "B" (.int (0 : Int32))) :
    MetFree l M_27 (head1 (Jvm.Cond.code M_27 prog_2_method_7_code 3 (some (.object "java/lang/String")) :: ws) ({ frames := 8, cells := 12, slots := 153, locals := 117 } : Room)) (fun a U => a = #[] ∧ Z.Warmed39 U.vm ∧ U.heap = h0 ∧ CHv Z own_EL U.vm h0) (fun _ _ _ _ _ => True) (fun _ U o U' => ∃ v L, o = .returned v ∧ Q1_2 Z a1 a3 a4 a5 a6 k7 a22 a26 k28 p30 a71 a75 k77 a114 a118 k120 a159 a163 k165 h0 n0 v U'.heap L ∧ CHr Z own_EL U.vm U.heap U'.vm U'.heap ∧ ReturnedEndW U o U' L ({ frames := 8, cells := 12, slots := 153, locals := 117 } : Room).cells ({ frames := 8, cells := 12, slots := 153, locals := 117 } : Room).slots) := by
  refine MetFree.of_bodySF (plainFor_of_name pn_0) hisR ?_
  intro p e s m args below meth c s₁ Bd hml0 hP hK
  obtain ⟨rfl, hZ, hh, hCH⟩ := hP
  have hx := Bd.exec
  have hby := Bd.bytes
  have hml : c.maxLocals = 3 := hml0
  have hown : s.vm.findClass "com/example/stern_warden/sternwarden/model/AccessMode" = some m.cls := findClass_of_methodNamed Bd.named
  have hnm := (name_of_methodNamed Bd.named Bd.method).1
  have X0 : Stand p l e ({ frames := 8, cells := 12, slots := 153, locals := 117 } : Room) s m #[] below meth c s₁ [] 0 0 := Stand.of_body Bd
  have e0 : s₁.heap = h0 := by rw [← hh, Bd.state]; rfl
  have N0 := Fr.nil n0
  have Y0 : h0.size ≤ h0.size := Nat.le_refl _
  have hS0 : s.Since s.vm h0.size := (State.WarmedH.refl s).since _
  have CR0 : CHr Z own_EL s.vm h0 s.vm h0 := CHr.refl hCH
  have pre0 : ∀ t, Steps p.tables e below (s₁.setTop (mkF m 0 #[.unset, .unset, .unset] [])) t → Steps p.tables e below (s₁.setTop (entryFrame m #[] 3)) t := fun t k => castTop (ef_rm1_2 m ) k
  obtain ⟨_, _, ⟨T10, L10, k10, n10⟩, -, X10, ⟨Lc10, hQ10, l10, y10, z10⟩, st10⟩ := Jvm.LawKit.callS X0 hx (y := M_0) hown (mvT hZ (hw _ (gw 4 rfl))) (mvT hZ (hw _ (gw 5 rfl))) (mvT hZ (hw _ (gw 2 rfl))) (mvT hZ (hw _ (gw 6 rfl))) (by decide) (backOf (W := 0) (rm2_3 l Z a0 hw [] a1 a3 a4 a5 a6 k7 h0 n0  O0 S_2 V8 E_9) hZ (hw _ (gw 6 rfl)) (hw _ (gw 2 rfl)) (by decide) (by decide)) (g := (mkF m 0 #[.unset, .unset, .unset] [])) rfl (by rw [hml]; rfl) (argsL := []) (rest := []) (lenOf pd_0 rfl) rfl (by show 2 * 0 + _ ≤ _; exact Nat.le_of_eq rfl) (hb hby d1_0) (fun _ _ => ⟨rfl, e0, (by decide : 0 + 1 ≤ _), (by decide : 0 + 4 ≤ _)⟩)
  dsimp only [Pt.U, Pt.locs, Pt.cells, Pt.slots] at X10 l10 y10 z10 st10 hQ10
  subst l10 y10 z10
  obtain ⟨b11, rfl, u13, u14, u15, Ku16, u17, u18⟩ := hQ10
  have Ou16 : Old Z n0 T10.heap := O0.keep Ku16 all0
  have chu16 := CHr.keep Ku16 all0 CR0.1
  have CRu16 := CR0.trans chu16
  have g_b11 : n0 ≤ b11 := Nat.le_trans (own_z O0) u14
  have sz_b11 : h0.size ≤ b11 := Nat.le_trans (Nat.le_refl _) u14
  have sfb_b11 : Safe Z own_EL s.vm T10.heap b11 := Safe.keep Ku16 all0 CR0.1 (Safe.new u14)
  have N10 := Fr.app N0 u13
  obtain ⟨T19, h19, X19, e19, E19, A19, D19, -, st19⟩ := newO X10 hx hZ hown (hw _ (gw 23 rfl)) (hw _ (gw 24 rfl)) (hw _ (gw 25 rfl)) rfl (g := (mkF m 4 #[.val (.ref b11), .unset, .unset] [])) rfl (hb hby d1_4) (by decide) (by decide)
  obtain ⟨b19, g19⟩ : ∃ z, z = T10.heap.size := ⟨_, rfl⟩
  rw [← g19] at A19 D19 st19
  have O19 : Old Z n0 h19 := Ou16.ext E19
  have ch19 := CHr.ext E19 CRu16.1
  have CR19 := CRu16.trans ch19
  have bd_b19 : T10.heap.size ≤ b19 := Nat.le_of_eq g19.symm
  have g_b19 : n0 ≤ b19 := Nat.le_trans (own_z Ou16) bd_b19
  have sz_b19 : h0.size ≤ b19 := Nat.le_trans Ku16.1 bd_b19
  have lt_b19 : b19 < h19.size := A19.lt
  have sfb_b19 : Safe Z own_EL s.vm h19 b19 := Safe.ext E19 CRu16.1 (Safe.new bd_b19)
  have D19_59 : Fld Z h19 b19 C_2 "coder" "B" (.int (0 : Int32)) := D19 (Or.inl (hw _ (gw 59 rfl))) (ty := .byte) (by decide)
  have D19_62 : Fld Z h19 b19 C_2 "value" "[B" .null := D19 (Or.inl (hw _ (gw 62 rfl))) (ty := (.array .byte)) (by decide)
  have D19_78 : Fld Z h19 b19 C_2 "count" "I" (.int (0 : Int32)) := D19 (Or.inl (hw _ (gw 78 rfl))) (ty := .int) (by decide)
  have f20 : Arv Z h19 b11 k7 (.object "com/example/stern_warden/sternwarden/model/AccessMode") (4 : Int32) [(.ref a3), (.ref a4), (.ref a5), (.ref a6)] .null := (u18.ext E19)
  obtain ⟨cl21, Ar21, -, Sz21, -, Hh21, -⟩ := id f20
  have hin21 : ¬ ((0 : Int32) < 0 ∨ cl21.slots.size ≤ ((0 : Int32)).toNatClampNeg) := inb_of Sz21 ⟨by decide +kernel, by decide +kernel⟩
  have hat21 : cl21.slots[((0 : Int32)).toNatClampNeg]? = some (.ref a3) := Has.at Hh21 hin21 rfl
  obtain ⟨T24, X24, e24, st24⟩ := getF X19 hx hZ hown (host := "") (Or.inl (hw _ (gw 26 rfl))) Via.refl e19 (Fld.ext O19.2 F23) (g := (mkF m 11 #[.val (.ref b11), .unset, .unset] [(.ref a3), (.ref b19), (.ref b19)])) rfl rfl (hb hby d1_11)
  obtain ⟨_, _, ⟨T34, L34, k34, n34⟩, -, X34, ⟨Lc34, hQ34, l34, y34, z34⟩, st34⟩ := X24.specialBack hx (y := M_11) rfl hown (mvT hZ (hw _ (gw 28 rfl))) (mvT hZ (hw _ (gw 29 rfl))) (mvT hZ (hw _ (gw 30 rfl))) (by decide) (backOf (W := 1) (rm3_4 l Z a0 hw [] b19 a22 a26 k28 p30 h19 n0  O19 E_25 F27 V29 S_31 hk32 F33 A19 D19_59 D19_78 D19_62 g_b19 lt_b19) hZ (hw _ (gw 30 rfl)) (hw _ (gw 25 rfl)) (by decide) (by decide)) (g := (mkF m 14 #[.val (.ref b11), .unset, .unset] [(.ref a22), (.ref b19), (.ref b19)])) rfl (by rw [hml]; rfl) (Steps.refl _) (a := b19) (argsL := [(.ref a22)]) (rest := [(.ref b19)]) (lenOf pd_4 rfl) rfl (by show 2 * 0 + _ ≤ _; exact Nat.le_of_eq rfl) (hb hby d1_14) (fun _ _ => ⟨rfl, e24, (by decide : 2 + 1 ≤ _), (by decide : 8 + 20 ≤ _)⟩)
  dsimp only [Pt.U, Pt.locs, Pt.cells, Pt.slots] at X34 l34 y34 z34 st34 hQ34
  subst l34 y34 z34
  obtain ⟨b35, k36, rfl, u38, u39, u40, Ku41, u42, u43, u44, u45, u46, u47⟩ := hQ34
  have Ou41 : Old Z n0 T34.heap := O19.keep Ku41 (allS g_b19 all0)
  have chu41 := CHr.keep Ku41 (allS (Safe.exa hZ.alike A19 (by decide) (by decide)) all0) CR19.1
  have CRu41 := CR19.trans chu41
  have g_b35 : n0 ≤ b35 := Nat.le_trans (own_z O19) u39
  have sz_b35 : h0.size ≤ b35 := Nat.le_trans (Nat.le_trans Ku16.1 E19.1) u39
  have sfb_b35 : Safe Z own_EL s.vm T34.heap b35 := Safe.keep Ku41 (allS (Safe.exa hZ.alike A19 (by decide) (by decide)) all0) CR19.1 (Safe.new u39)
  have N34 := Fr.app N10 u38
  have f48 : Arv Z T34.heap b11 k7 (.object "com/example/stern_warden/sternwarden/model/AccessMode") (4 : Int32) [(.ref a3), (.ref a4), (.ref a5), (.ref a6)] .null := (f20.keep Ku41 (ninS (Nat.ne_of_lt (Nat.lt_of_lt_of_le u15 bd_b19)) nin0))
  obtain ⟨cl49, Ar49, -, Sz49, Nn49, -, -⟩ := id f48
  obtain ⟨cl50, Ar50, -, Sz50, Nn50, -, -⟩ := id f48
  obtain ⟨b51, T51, h51, kk51, bv51, k51, X51, e51, E51, hS51, hk51, hZ51, hown51, A51, Fc51, Fv51, V51, lta51, ltb51, cg51, Lt51, ns51, st51⟩ := ldcCH (s := s) (vm0 := s.vm) (EL := own_EL) X34 hx hZ hown (hw _ (gw 104 rfl)) (own_wS hw) rfl hS0 (Nat.le_trans (Nat.le_trans (Nat.le_trans Y0 Ku16.1) E19.1) Ku41.1) (own_EW hw) (by decide) CRu41.1 (vs := [(.int (44 : Int32)), (.int (32 : Int32))]) (z := (2 : Int32)) (by decide +kernel) (by decide +kernel) (by decide +kernel) (g := (mkF m 40 #[.val (.ref b11), .val (.ref b19), .val (.int (1 : Int32))] [(.ref b19)])) rfl (hb hby d1_40) (n := 8) (by decide +kernel) (by decide) (by decide) (by decide)
  have O51 : Old Z n0 h51 := Ou41.ext E51
  have ch51 := cg51
  have CR51 := CRu41.trans ch51
  have f52 : Exa Z h51 b19 C_5 := (Exa.ext E51 u42)
  have f53 : Fld Z h51 b19 C_2 "count" "I" (.int (4 : Int32)) := (Fld.ext E51 u44)
  have f54 : Fld Z h51 b19 C_2 "value" "[B" (.ref b35) := (Fld.ext E51 u45)
  have f55 : Arv Z h51 b35 k36 .byte (20 : Int32) [(.int (82 : Int32)), (.int (101 : Int32)), (.int (97 : Int32)), (.int (100 : Int32))] (.int (0 : Int32)) := (u47.ext E51)
  have f56 : Fld Z h51 b19 C_2 "coder" "B" (.int (0 : Int32)) := (Fld.ext E51 u43)
  have f57 : Exa Z h51 b35 "[B" := (Exa.ext E51 u46)
  have sf59 : Safe Z own_EL T51.vm h51 b35 := (ch51.safe u40 sfb_b35)
  obtain ⟨cq58, kq58, q58a, q58b, q58c⟩ := isOf hZ51 e51 f52
  obtain ⟨_, _, ⟨T58, L58, k58, n58⟩, -, X58, ⟨Lc58, hQ58, l58, y58, z58⟩, st58⟩ := X51.virtualBack hx (y := M_8) (z := M_8) hown51 (mvT hZ51 (hw _ (gw 108 rfl))) (mvT hZ51 (hw _ (gw 70 rfl))) (notFace_of_selects (args := #[]) (mvT hZ51 (hw _ (gw 72 rfl)))) (mvT hZ51 (hw _ (gw 72 rfl))) (mvT hZ51 (hw _ (gw 71 rfl))) (by decide) (backOf (W := 0) (rm9_15 l Z a0 hw [] b19 b51 bv51 k51 p30 b35 k36 h51 n0  O51 f52 A51 Fv51 V51 S_31 hk32 Fc51 f53 f54 f55 f56 f57 (Nat.ne_of_lt (Nat.lt_of_lt_of_le lt_b19 u39)) g_b35 g_b19) hZ51 (hw _ (gw 73 rfl)) (hw _ (gw 25 rfl)) (by decide) (by decide)) q58a q58c (g := (mkF m 42 #[.val (.ref b11), .val (.ref b19), .val (.int (1 : Int32))] [(.ref b51), (.ref b19)])) rfl (by rw [hml]; rfl) (Steps.refl _) (argsL := [(.ref b51)]) (rest := []) (lenOf pd_8 rfl) rfl (by show 2 * 0 + _ ≤ _; exact Nat.le_of_eq rfl) (hb hby d1_42) (fun _ _ => ⟨rfl, e51, (by decide : 5 + 0 ≤ _), (by decide : 40 + 0 ≤ _)⟩)
  dsimp only [Pt.U, Pt.locs, Pt.cells, Pt.slots] at X58 l58 y58 z58 st58 hQ58
  subst l58 y58 z58
  obtain ⟨rfl, u61, Ku62, u63, u64, u65, u66, u67, u68⟩ := hQ58
  have Ou62 : Old Z n0 T58.heap := O51.keep Ku62 (allS g_b35 (allS g_b19 all0))
  have chu62 := CHr.keep Ku62 (allS sf59 (allS (Safe.exa hZ51.alike f52 (by decide) (by decide)) all0)) CR51.1
  have CRu62 := CR51.trans chu62
  have N58 := Fr.app N34 u61
  have f69 : Arv Z T58.heap b11 k7 (.object "com/example/stern_warden/sternwarden/model/AccessMode") (4 : Int32) [(.ref a3), (.ref a4), (.ref a5), (.ref a6)] .null := ((f48.ext E51).keep Ku62 (ninS (Nat.ne_of_lt (Nat.lt_of_lt_of_le (Nat.lt_of_lt_of_le u15 E19.1) u39)) (ninS (Nat.ne_of_lt (Nat.lt_of_lt_of_le u15 bd_b19)) nin0)))
  obtain ⟨cl70, Ar70, -, Sz70, -, Hh70, -⟩ := id f69
  have hin70 : ¬ ((1 : Int32) < 0 ∨ cl70.slots.size ≤ ((1 : Int32)).toNatClampNeg) := inb_of Sz70 ⟨by decide +kernel, by decide +kernel⟩
  have hat70 : cl70.slots[((1 : Int32)).toNatClampNeg]? = some (.ref a4) := Has.at Hh70 hin70 rfl
  obtain ⟨T73, X73, e73, st73⟩ := getF X58 hx hZ51 hown51 (host := "") (Or.inl (hw _ (gw 26 rfl))) Via.refl rfl (Fld.ext Ou62.2 F72) (g := (mkF m 48 #[.val (.ref b11), .val (.ref b19), .val (.int (1 : Int32))] [(.ref a4), (.ref b19)])) rfl rfl (hb hby d1_48)
  have sf81 : Safe Z own_EL T51.vm T58.heap b35 := (chu62.safe (Nat.lt_of_lt_of_le u40 E51.1) sf59)
  obtain ⟨cq80, kq80, q80a, q80b, q80c⟩ := isOf hZ51 e73 u63
  obtain ⟨_, _, ⟨T80, L80, k80, n80⟩, -, X80, ⟨Lc80, hQ80, l80, y80, z80⟩, st80⟩ := X73.virtualBack hx (y := M_8) (z := M_8) hown51 (mvT hZ51 (hw _ (gw 108 rfl))) (mvT hZ51 (hw _ (gw 70 rfl))) (notFace_of_selects (args := #[]) (mvT hZ51 (hw _ (gw 72 rfl)))) (mvT hZ51 (hw _ (gw 72 rfl))) (mvT hZ51 (hw _ (gw 71 rfl))) (by decide) (backOf (W := 0) (rm9_23 l Z a0 hw [] b19 a71 a75 k77 p30 b35 k36 T58.heap n0  Ou62 u63 E_74 F76 V78 S_31 hk32 F79 u65 u66 u68 u64 u67 (Nat.ne_of_lt (Nat.lt_of_lt_of_le lt_b19 u39)) g_b35 g_b19) hZ51 (hw _ (gw 73 rfl)) (hw _ (gw 25 rfl)) (by decide) (by decide)) q80a q80c (g := (mkF m 51 #[.val (.ref b11), .val (.ref b19), .val (.int (1 : Int32))] [(.ref a71), (.ref b19)])) rfl (by rw [hml]; rfl) (Steps.refl _) (argsL := [(.ref a71)]) (rest := []) (lenOf pd_8 rfl) rfl (by show 2 * 0 + _ ≤ _; exact Nat.le_of_eq rfl) (hb hby d1_51) (fun _ _ => ⟨rfl, e73, (by decide : 5 + 0 ≤ _), (by decide : 40 + 0 ≤ _)⟩)
  dsimp only [Pt.U, Pt.locs, Pt.cells, Pt.slots] at X80 l80 y80 z80 st80 hQ80
  subst l80 y80 z80
  obtain ⟨rfl, u83, Ku84, u85, u86, u87, u88, u89, u90⟩ := hQ80
  have Ou84 : Old Z n0 T80.heap := Ou62.keep Ku84 (allS g_b35 (allS g_b19 all0))
  have chu84 := CHr.keep Ku84 (allS sf81 (allS (Safe.exa hZ51.alike u63 (by decide) (by decide)) all0)) CRu62.1
  have CRu84 := CRu62.trans chu84
  have N80 := Fr.app N58 u83
  have f91 : Arv Z T80.heap b11 k7 (.object "com/example/stern_warden/sternwarden/model/AccessMode") (4 : Int32) [(.ref a3), (.ref a4), (.ref a5), (.ref a6)] .null := (f69.keep Ku84 (ninS (Nat.ne_of_lt (Nat.lt_of_lt_of_le (Nat.lt_of_lt_of_le u15 E19.1) u39)) (ninS (Nat.ne_of_lt (Nat.lt_of_lt_of_le u15 bd_b19)) nin0)))
  obtain ⟨cl92, Ar92, -, Sz92, Nn92, -, -⟩ := id f91
  obtain ⟨cl93, Ar93, -, Sz93, Nn93, -, -⟩ := id f91
  obtain ⟨b94, T94, h94, kk94, bv94, k94, X94, e94, E94, hS94, hk94, hZ94, hown94, A94, Fc94, Fv94, V94, lta94, ltb94, cg94, Lt94, ns94, st94⟩ := ldcCH (s := s) (vm0 := T51.vm) (EL := own_EL) X80 hx hZ51 hown51 (hw _ (gw 104 rfl)) (own_wS hw) rfl hS51 (Nat.le_trans (Nat.le_trans hk51 Ku62.1) Ku84.1) (own_EW hw) (by decide) CRu84.1 (vs := [(.int (44 : Int32)), (.int (32 : Int32))]) (z := (2 : Int32)) (by decide +kernel) (by decide +kernel) (by decide +kernel) (g := (mkF m 40 #[.val (.ref b11), .val (.ref b19), .val (.int (2 : Int32))] [(.ref b19)])) rfl (hb hby d1_40) (n := 8) (by decide +kernel) (by decide) (by decide) (by decide)
  have O94 : Old Z n0 h94 := Ou84.ext E94
  have ch94 := cg94
  have CR94 := CRu84.trans ch94
  have f95 : Exa Z h94 b19 C_5 := (Exa.ext E94 u85)
  have f96 : Fld Z h94 b19 C_2 "count" "I" (.int (11 : Int32)) := (Fld.ext E94 u87)
  have f97 : Fld Z h94 b19 C_2 "value" "[B" (.ref b35) := (Fld.ext E94 u88)
  have f98 : Arv Z h94 b35 k36 .byte (20 : Int32) [(.int (82 : Int32)), (.int (101 : Int32)), (.int (97 : Int32)), (.int (100 : Int32)), (.int (44 : Int32)), (.int (32 : Int32)), (.int (87 : Int32)), (.int (114 : Int32)), (.int (105 : Int32)), (.int (116 : Int32)), (.int (101 : Int32))] (.int (0 : Int32)) := (u90.ext E94)
  have f99 : Fld Z h94 b19 C_2 "coder" "B" (.int (0 : Int32)) := (Fld.ext E94 u86)
  have f100 : Exa Z h94 b35 "[B" := (Exa.ext E94 u89)
  have sf102 : Safe Z own_EL T94.vm h94 b35 := (ch94.safe (Nat.lt_of_lt_of_le (Nat.lt_of_lt_of_le (Nat.lt_of_lt_of_le u40 E51.1) Ku62.1) Ku84.1) (chu84.safe (Nat.lt_of_lt_of_le (Nat.lt_of_lt_of_le u40 E51.1) Ku62.1) sf81))
  obtain ⟨cq101, kq101, q101a, q101b, q101c⟩ := isOf hZ94 e94 f95
  obtain ⟨_, _, ⟨T101, L101, k101, n101⟩, -, X101, ⟨Lc101, hQ101, l101, y101, z101⟩, st101⟩ := X94.virtualBack hx (y := M_8) (z := M_8) hown94 (mvT hZ94 (hw _ (gw 108 rfl))) (mvT hZ94 (hw _ (gw 70 rfl))) (notFace_of_selects (args := #[]) (mvT hZ94 (hw _ (gw 72 rfl)))) (mvT hZ94 (hw _ (gw 72 rfl))) (mvT hZ94 (hw _ (gw 71 rfl))) (by decide) (backOf (W := 0) (rm9_29 l Z a0 hw [] b19 b94 bv94 k94 p30 b35 k36 h94 n0  O94 f95 A94 Fv94 V94 S_31 hk32 Fc94 f96 f97 f98 f99 f100 (Nat.ne_of_lt (Nat.lt_of_lt_of_le lt_b19 u39)) g_b35 g_b19) hZ94 (hw _ (gw 73 rfl)) (hw _ (gw 25 rfl)) (by decide) (by decide)) q101a q101c (g := (mkF m 42 #[.val (.ref b11), .val (.ref b19), .val (.int (2 : Int32))] [(.ref b94), (.ref b19)])) rfl (by rw [hml]; rfl) (Steps.refl _) (argsL := [(.ref b94)]) (rest := []) (lenOf pd_8 rfl) rfl (by show 2 * 0 + _ ≤ _; exact Nat.le_of_eq rfl) (hb hby d1_42) (fun _ _ => ⟨rfl, e94, (by decide : 7 + 0 ≤ _), (by decide : 52 + 0 ≤ _)⟩)
  dsimp only [Pt.U, Pt.locs, Pt.cells, Pt.slots] at X101 l101 y101 z101 st101 hQ101
  subst l101 y101 z101
  obtain ⟨rfl, u104, Ku105, u106, u107, u108, u109, u110, u111⟩ := hQ101
  have Ou105 : Old Z n0 T101.heap := O94.keep Ku105 (allS g_b35 (allS g_b19 all0))
  have chu105 := CHr.keep Ku105 (allS sf102 (allS (Safe.exa hZ94.alike f95 (by decide) (by decide)) all0)) CR94.1
  have CRu105 := CR94.trans chu105
  have N101 := Fr.app N80 u104
  have f112 : Arv Z T101.heap b11 k7 (.object "com/example/stern_warden/sternwarden/model/AccessMode") (4 : Int32) [(.ref a3), (.ref a4), (.ref a5), (.ref a6)] .null := ((f91.ext E94).keep Ku105 (ninS (Nat.ne_of_lt (Nat.lt_of_lt_of_le (Nat.lt_of_lt_of_le u15 E19.1) u39)) (ninS (Nat.ne_of_lt (Nat.lt_of_lt_of_le u15 bd_b19)) nin0)))
  obtain ⟨cl113, Ar113, -, Sz113, -, Hh113, -⟩ := id f112
  have hin113 : ¬ ((2 : Int32) < 0 ∨ cl113.slots.size ≤ ((2 : Int32)).toNatClampNeg) := inb_of Sz113 ⟨by decide +kernel, by decide +kernel⟩
  have hat113 : cl113.slots[((2 : Int32)).toNatClampNeg]? = some (.ref a5) := Has.at Hh113 hin113 rfl
  obtain ⟨T116, X116, e116, st116⟩ := getF X101 hx hZ94 hown94 (host := "") (Or.inl (hw _ (gw 26 rfl))) Via.refl rfl (Fld.ext Ou105.2 F115) (g := (mkF m 48 #[.val (.ref b11), .val (.ref b19), .val (.int (2 : Int32))] [(.ref a5), (.ref b19)])) rfl rfl (hb hby d1_48)
  have sf124 : Safe Z own_EL T94.vm T101.heap b35 := (chu105.safe (Nat.lt_of_lt_of_le (Nat.lt_of_lt_of_le (Nat.lt_of_lt_of_le (Nat.lt_of_lt_of_le u40 E51.1) Ku62.1) Ku84.1) E94.1) sf102)
  obtain ⟨cq123, kq123, q123a, q123b, q123c⟩ := isOf hZ94 e116 u106
  obtain ⟨_, _, ⟨T123, L123, k123, n123⟩, -, X123, ⟨Lc123, hQ123, l123, y123, z123⟩, st123⟩ := X116.virtualBack hx (y := M_8) (z := M_8) hown94 (mvT hZ94 (hw _ (gw 108 rfl))) (mvT hZ94 (hw _ (gw 70 rfl))) (notFace_of_selects (args := #[]) (mvT hZ94 (hw _ (gw 72 rfl)))) (mvT hZ94 (hw _ (gw 72 rfl))) (mvT hZ94 (hw _ (gw 71 rfl))) (by decide) (backOf (W := 0) (rm9_34 l Z a0 hw [] b19 a114 a118 k120 p30 b35 k36 T101.heap n0  Ou105 u106 E_117 F119 V121 S_31 hk32 F122 u108 u109 u111 u107 u110 (Nat.ne_of_lt (Nat.lt_of_lt_of_le lt_b19 u39)) g_b35 g_b19) hZ94 (hw _ (gw 73 rfl)) (hw _ (gw 25 rfl)) (by decide) (by decide)) q123a q123c (g := (mkF m 51 #[.val (.ref b11), .val (.ref b19), .val (.int (2 : Int32))] [(.ref a114), (.ref b19)])) rfl (by rw [hml]; rfl) (Steps.refl _) (argsL := [(.ref a114)]) (rest := []) (lenOf pd_8 rfl) rfl (by show 2 * 0 + _ ≤ _; exact Nat.le_of_eq rfl) (hb hby d1_51) (fun _ _ => ⟨rfl, e116, (by decide : 7 + 0 ≤ _), (by decide : 52 + 0 ≤ _)⟩)
  dsimp only [Pt.U, Pt.locs, Pt.cells, Pt.slots] at X123 l123 y123 z123 st123 hQ123
  subst l123 y123 z123
  obtain ⟨rfl, u126, Ku127, u128, u129, u130, u131, u132, u133⟩ := hQ123
  have Ou127 : Old Z n0 T123.heap := Ou105.keep Ku127 (allS g_b35 (allS g_b19 all0))
  have chu127 := CHr.keep Ku127 (allS sf124 (allS (Safe.exa hZ94.alike u106 (by decide) (by decide)) all0)) CRu105.1
  have CRu127 := CRu105.trans chu127
  have N123 := Fr.app N101 u126
  have f134 : Arv Z T123.heap b11 k7 (.object "com/example/stern_warden/sternwarden/model/AccessMode") (4 : Int32) [(.ref a3), (.ref a4), (.ref a5), (.ref a6)] .null := (f112.keep Ku127 (ninS (Nat.ne_of_lt (Nat.lt_of_lt_of_le (Nat.lt_of_lt_of_le u15 E19.1) u39)) (ninS (Nat.ne_of_lt (Nat.lt_of_lt_of_le u15 bd_b19)) nin0)))
  obtain ⟨cl135, Ar135, -, Sz135, Nn135, -, -⟩ := id f134
  obtain ⟨cl136, Ar136, -, Sz136, Nn136, -, -⟩ := id f134
  obtain ⟨b137, T137, h137, kk137, bv137, k137, X137, e137, E137, hS137, hk137, hZ137, hown137, A137, Fc137, Fv137, V137, lta137, ltb137, cg137, Lt137, ns137, st137⟩ := ldcCH (s := s) (vm0 := T94.vm) (EL := own_EL) X123 hx hZ94 hown94 (hw _ (gw 109 rfl)) (own_wS hw) rfl hS94 (Nat.le_trans (Nat.le_trans hk94 Ku105.1) Ku127.1) (own_EW hw) (by decide) CRu127.1 (vs := [(.int (32 : Int32)), (.int (97 : Int32)), (.int (110 : Int32)), (.int (100 : Int32)), (.int (32 : Int32))]) (z := (5 : Int32)) (by decide +kernel) (by decide +kernel) (by decide +kernel) (g := (mkF m 35 #[.val (.ref b11), .val (.ref b19), .val (.int (3 : Int32))] [(.ref b19)])) rfl (hb hby d1_35) (n := 20) (by decide +kernel) (by decide) (by decide) (by decide)
  have O137 : Old Z n0 h137 := Ou127.ext E137
  have ch137 := cg137
  have CR137 := CRu127.trans ch137
  have f138 : Exa Z h137 b19 C_5 := (Exa.ext E137 u128)
  have f139 : Fld Z h137 b19 C_2 "count" "I" (.int (19 : Int32)) := (Fld.ext E137 u130)
  have f140 : Fld Z h137 b19 C_2 "value" "[B" (.ref b35) := (Fld.ext E137 u131)
  have f141 : Arv Z h137 b35 k36 .byte (20 : Int32) [(.int (82 : Int32)), (.int (101 : Int32)), (.int (97 : Int32)), (.int (100 : Int32)), (.int (44 : Int32)), (.int (32 : Int32)), (.int (87 : Int32)), (.int (114 : Int32)), (.int (105 : Int32)), (.int (116 : Int32)), (.int (101 : Int32)), (.int (44 : Int32)), (.int (32 : Int32)), (.int (65 : Int32)), (.int (112 : Int32)), (.int (112 : Int32)), (.int (101 : Int32)), (.int (110 : Int32)), (.int (100 : Int32))] (.int (0 : Int32)) := (u133.ext E137)
  have f142 : Fld Z h137 b19 C_2 "coder" "B" (.int (0 : Int32)) := (Fld.ext E137 u129)
  obtain ⟨cq143, kq143, q143a, q143b, q143c⟩ := isOf hZ137 e137 f138
  obtain ⟨_, _, ⟨T143, L143, k143, n143⟩, -, X143, ⟨Lc143, hQ143, l143, y143, z143⟩, st143⟩ := X137.virtualBack hx (y := M_8) (z := M_8) hown137 (mvT hZ137 (hw _ (gw 108 rfl))) (mvT hZ137 (hw _ (gw 70 rfl))) (notFace_of_selects (args := #[]) (mvT hZ137 (hw _ (gw 72 rfl)))) (mvT hZ137 (hw _ (gw 72 rfl))) (mvT hZ137 (hw _ (gw 71 rfl))) (by decide) (backOf (W := 0) (rm9_40 l Z a0 hw [] b19 b137 bv137 k137 p30 b35 k36 h137 n0  O137 f138 A137 Fv137 V137 S_31 hk32 Fc137 f139 f140 f141 f142 (Ne.symm (ns137 b19 (ch137.safe (Nat.lt_of_lt_of_le (Nat.lt_of_lt_of_le (Nat.lt_of_lt_of_le (Nat.lt_of_lt_of_le (Nat.lt_of_lt_of_le (Nat.lt_of_lt_of_le (Nat.lt_of_lt_of_le lt_b19 Ku41.1) E51.1) Ku62.1) Ku84.1) E94.1) Ku105.1) Ku127.1) (chu127.safe (Nat.lt_of_lt_of_le (Nat.lt_of_lt_of_le (Nat.lt_of_lt_of_le (Nat.lt_of_lt_of_le (Nat.lt_of_lt_of_le (Nat.lt_of_lt_of_le lt_b19 Ku41.1) E51.1) Ku62.1) Ku84.1) E94.1) Ku105.1) (chu105.safe (Nat.lt_of_lt_of_le (Nat.lt_of_lt_of_le (Nat.lt_of_lt_of_le (Nat.lt_of_lt_of_le (Nat.lt_of_lt_of_le lt_b19 Ku41.1) E51.1) Ku62.1) Ku84.1) E94.1) (ch94.safe (Nat.lt_of_lt_of_le (Nat.lt_of_lt_of_le (Nat.lt_of_lt_of_le (Nat.lt_of_lt_of_le lt_b19 Ku41.1) E51.1) Ku62.1) Ku84.1) (chu84.safe (Nat.lt_of_lt_of_le (Nat.lt_of_lt_of_le (Nat.lt_of_lt_of_le lt_b19 Ku41.1) E51.1) Ku62.1) (chu62.safe (Nat.lt_of_lt_of_le (Nat.lt_of_lt_of_le lt_b19 Ku41.1) E51.1) (ch51.safe (Nat.lt_of_lt_of_le lt_b19 Ku41.1) (chu41.safe lt_b19 sfb_b19))))))))).1) (Ne.symm (ns137 b19 (ch137.safe (Nat.lt_of_lt_of_le (Nat.lt_of_lt_of_le (Nat.lt_of_lt_of_le (Nat.lt_of_lt_of_le (Nat.lt_of_lt_of_le (Nat.lt_of_lt_of_le (Nat.lt_of_lt_of_le lt_b19 Ku41.1) E51.1) Ku62.1) Ku84.1) E94.1) Ku105.1) Ku127.1) (chu127.safe (Nat.lt_of_lt_of_le (Nat.lt_of_lt_of_le (Nat.lt_of_lt_of_le (Nat.lt_of_lt_of_le (Nat.lt_of_lt_of_le (Nat.lt_of_lt_of_le lt_b19 Ku41.1) E51.1) Ku62.1) Ku84.1) E94.1) Ku105.1) (chu105.safe (Nat.lt_of_lt_of_le (Nat.lt_of_lt_of_le (Nat.lt_of_lt_of_le (Nat.lt_of_lt_of_le (Nat.lt_of_lt_of_le lt_b19 Ku41.1) E51.1) Ku62.1) Ku84.1) E94.1) (ch94.safe (Nat.lt_of_lt_of_le (Nat.lt_of_lt_of_le (Nat.lt_of_lt_of_le (Nat.lt_of_lt_of_le lt_b19 Ku41.1) E51.1) Ku62.1) Ku84.1) (chu84.safe (Nat.lt_of_lt_of_le (Nat.lt_of_lt_of_le (Nat.lt_of_lt_of_le lt_b19 Ku41.1) E51.1) Ku62.1) (chu62.safe (Nat.lt_of_lt_of_le (Nat.lt_of_lt_of_le lt_b19 Ku41.1) E51.1) (ch51.safe (Nat.lt_of_lt_of_le lt_b19 Ku41.1) (chu41.safe lt_b19 sfb_b19))))))))).2) g_b19 (Nat.lt_of_lt_of_le (Nat.lt_of_lt_of_le (Nat.lt_of_lt_of_le (Nat.lt_of_lt_of_le (Nat.lt_of_lt_of_le (Nat.lt_of_lt_of_le (Nat.lt_of_lt_of_le (Nat.lt_of_lt_of_le lt_b19 Ku41.1) E51.1) Ku62.1) Ku84.1) E94.1) Ku105.1) Ku127.1) E137.1)) hZ137 (hw _ (gw 73 rfl)) (hw _ (gw 25 rfl)) (by decide) (by decide)) q143a q143c (g := (mkF m 42 #[.val (.ref b11), .val (.ref b19), .val (.int (3 : Int32))] [(.ref b137), (.ref b19)])) rfl (by rw [hml]; rfl) (Steps.refl _) (argsL := [(.ref b137)]) (rest := []) (lenOf pd_8 rfl) rfl (by show 2 * 0 + _ ≤ _; exact Nat.le_of_eq rfl) (hb hby d1_42) (fun _ _ => ⟨rfl, e137, (by decide : 9 + 1 ≤ _), (by decide : 76 + 42 ≤ _)⟩)
  dsimp only [Pt.U, Pt.locs, Pt.cells, Pt.slots] at X143 l143 y143 z143 st143 hQ143
  subst l143 y143 z143
  obtain ⟨b144, k145, rfl, u147, u148, u149, Ku150, u151, u152, u153, u154, u155, u156⟩ := hQ143
  have Ou150 : Old Z n0 T143.heap := O137.keep Ku150 (allS g_b19 all0)
  have chu150 := CHr.keep Ku150 (allS (Safe.exa hZ137.alike f138 (by decide) (by decide)) all0) CR137.1
  have CRu150 := CR137.trans chu150
  have g_b144 : n0 ≤ b144 := Nat.le_trans (own_z O137) u148
  have sz_b144 : h0.size ≤ b144 := Nat.le_trans (Nat.le_trans (Nat.le_trans (Nat.le_trans (Nat.le_trans (Nat.le_trans (Nat.le_trans (Nat.le_trans (Nat.le_trans (Nat.le_trans Ku16.1 E19.1) Ku41.1) E51.1) Ku62.1) Ku84.1) E94.1) Ku105.1) Ku127.1) E137.1) u148
  have sfb_b144 : Safe Z own_EL T137.vm T143.heap b144 := Safe.keep Ku150 (allS (Safe.exa hZ137.alike f138 (by decide) (by decide)) all0) CR137.1 (Safe.new u148)
  have N143 := Fr.app N123 u147
  have f157 : Arv Z T143.heap b11 k7 (.object "com/example/stern_warden/sternwarden/model/AccessMode") (4 : Int32) [(.ref a3), (.ref a4), (.ref a5), (.ref a6)] .null := ((f134.ext E137).keep Ku150 (ninS (Nat.ne_of_lt (Nat.lt_of_lt_of_le u15 bd_b19)) nin0))
  obtain ⟨cl158, Ar158, -, Sz158, -, Hh158, -⟩ := id f157
  have hin158 : ¬ ((3 : Int32) < 0 ∨ cl158.slots.size ≤ ((3 : Int32)).toNatClampNeg) := inb_of Sz158 ⟨by decide +kernel, by decide +kernel⟩
  have hat158 : cl158.slots[((3 : Int32)).toNatClampNeg]? = some (.ref a6) := Has.at Hh158 hin158 rfl
  obtain ⟨T161, X161, e161, st161⟩ := getF X143 hx hZ137 hown137 (host := "") (Or.inl (hw _ (gw 26 rfl))) Via.refl rfl (Fld.ext Ou150.2 F160) (g := (mkF m 48 #[.val (.ref b11), .val (.ref b19), .val (.int (3 : Int32))] [(.ref a6), (.ref b19)])) rfl rfl (hb hby d1_48)
  have sf169 : Safe Z own_EL T137.vm T143.heap b144 := sfb_b144
  obtain ⟨cq168, kq168, q168a, q168b, q168c⟩ := isOf hZ137 e161 u151
  obtain ⟨_, _, ⟨T168, L168, k168, n168⟩, -, X168, ⟨Lc168, hQ168, l168, y168, z168⟩, st168⟩ := X161.virtualBack hx (y := M_8) (z := M_8) hown137 (mvT hZ137 (hw _ (gw 108 rfl))) (mvT hZ137 (hw _ (gw 70 rfl))) (notFace_of_selects (args := #[]) (mvT hZ137 (hw _ (gw 72 rfl)))) (mvT hZ137 (hw _ (gw 72 rfl))) (mvT hZ137 (hw _ (gw 71 rfl))) (by decide) (backOf (W := 0) (rm9_51 l Z a0 hw [] b19 a159 a163 k165 p30 b144 k145 T143.heap n0  Ou150 u151 E_162 F164 V166 S_31 hk32 F167 u153 u154 u156 u152 u155 (Nat.ne_of_lt (Nat.lt_of_lt_of_le (Nat.lt_of_lt_of_le (Nat.lt_of_lt_of_le (Nat.lt_of_lt_of_le (Nat.lt_of_lt_of_le (Nat.lt_of_lt_of_le (Nat.lt_of_lt_of_le (Nat.lt_of_lt_of_le (Nat.lt_of_lt_of_le lt_b19 Ku41.1) E51.1) Ku62.1) Ku84.1) E94.1) Ku105.1) Ku127.1) E137.1) u148)) g_b144 g_b19) hZ137 (hw _ (gw 73 rfl)) (hw _ (gw 25 rfl)) (by decide) (by decide)) q168a q168c (g := (mkF m 51 #[.val (.ref b11), .val (.ref b19), .val (.int (3 : Int32))] [(.ref a159), (.ref b19)])) rfl (by rw [hml]; rfl) (Steps.refl _) (argsL := [(.ref a159)]) (rest := []) (lenOf pd_8 rfl) rfl (by show 2 * 0 + _ ≤ _; exact Nat.le_of_eq rfl) (hb hby d1_51) (fun _ _ => ⟨rfl, e161, (by decide : 10 + 0 ≤ _), (by decide : 118 + 0 ≤ _)⟩)
  dsimp only [Pt.U, Pt.locs, Pt.cells, Pt.slots] at X168 l168 y168 z168 st168 hQ168
  subst l168 y168 z168
  obtain ⟨rfl, u171, Ku172, u173, u174, u175, u176, u177, u178⟩ := hQ168
  have Ou172 : Old Z n0 T168.heap := Ou150.keep Ku172 (allS g_b144 (allS g_b19 all0))
  have chu172 := CHr.keep Ku172 (allS sf169 (allS (Safe.exa hZ137.alike u151 (by decide) (by decide)) all0)) CRu150.1
  have CRu172 := CRu150.trans chu172
  have N168 := Fr.app N143 u171
  have f179 : Arv Z T168.heap b11 k7 (.object "com/example/stern_warden/sternwarden/model/AccessMode") (4 : Int32) [(.ref a3), (.ref a4), (.ref a5), (.ref a6)] .null := (f157.keep Ku172 (ninS (Nat.ne_of_lt (Nat.lt_of_lt_of_le (Nat.lt_of_lt_of_le (Nat.lt_of_lt_of_le (Nat.lt_of_lt_of_le (Nat.lt_of_lt_of_le (Nat.lt_of_lt_of_le (Nat.lt_of_lt_of_le (Nat.lt_of_lt_of_le (Nat.lt_of_lt_of_le (Nat.lt_of_lt_of_le u15 E19.1) Ku41.1) E51.1) Ku62.1) Ku84.1) E94.1) Ku105.1) Ku127.1) E137.1) u148)) (ninS (Nat.ne_of_lt (Nat.lt_of_lt_of_le u15 bd_b19)) nin0)))
  obtain ⟨cl180, Ar180, -, Sz180, Nn180, -, -⟩ := id f179
  obtain ⟨cq181, kq181, q181a, q181b, q181c⟩ := isOf hZ137 rfl u173
  obtain ⟨_, _, ⟨T181, L181, k181, n181⟩, -, X181, ⟨Lc181, hQ181, l181, y181, z181⟩, st181⟩ := X168.virtualBack hx (y := M_26) (z := M_26) hown137 (mvT hZ137 (hw _ (gw 133 rfl))) (mvT hZ137 (hw _ (gw 134 rfl))) (notFace_of_selects (args := #[]) (mvT hZ137 (hw _ (gw 136 rfl)))) (mvT hZ137 (hw _ (gw 136 rfl))) (mvT hZ137 (hw _ (gw 135 rfl))) (by decide) (backOf (W := 0) (rm20_57 l Z a0 hw [] b19 b144 p30 k145 T168.heap n0  Ou172 u173 u176 u175 S_31 hk32 u174 u178 (Nat.lt_of_lt_of_le u149 Ku172.1)) hZ137 (hw _ (gw 137 rfl)) (hw _ (gw 25 rfl)) (by decide) (by decide)) q181a q181c (g := (mkF m 62 #[.val (.ref b11), .val (.ref b19), .val (.int (4 : Int32))] [(.ref b19)])) rfl (by rw [hml]; rfl) (Steps.refl _) (argsL := []) (rest := []) (lenOf pd_19 rfl) rfl (by show 2 * 0 + _ ≤ _; exact Nat.le_of_eq rfl) (hb hby d1_62) (fun _ _ => ⟨rfl, rfl, (by decide : 10 + 2 ≤ _), (by decide : 118 + 35 ≤ _)⟩)
  dsimp only [Pt.U, Pt.locs, Pt.cells, Pt.slots] at X181 l181 y181 z181 st181 hQ181
  subst l181 y181 z181
  obtain ⟨b182, b183, k184, rfl, u186, u187, u188, u189, u190, u191, Ku192, u193, u194, u195, u196, u197⟩ := hQ181
  have Ou192 : Old Z n0 T181.heap := Ou172.keep Ku192 all0
  have chu192 := CHr.keep Ku192 all0 CRu172.1
  have CRu192 := CRu172.trans chu192
  have g_b182 : n0 ≤ b182 := Nat.le_trans (own_z Ou172) u187
  have sz_b182 : h0.size ≤ b182 := Nat.le_trans (Nat.le_trans (Nat.le_trans (Nat.le_trans (Nat.le_trans (Nat.le_trans (Nat.le_trans (Nat.le_trans (Nat.le_trans (Nat.le_trans (Nat.le_trans (Nat.le_trans Ku16.1 E19.1) Ku41.1) E51.1) Ku62.1) Ku84.1) E94.1) Ku105.1) Ku127.1) E137.1) Ku150.1) Ku172.1) u187
  have sfb_b182 : Safe Z own_EL T137.vm T181.heap b182 := Safe.keep Ku192 all0 CRu172.1 (Safe.new u187)
  have g_b183 : n0 ≤ b183 := Nat.le_trans (own_z Ou172) u189
  have sz_b183 : h0.size ≤ b183 := Nat.le_trans (Nat.le_trans (Nat.le_trans (Nat.le_trans (Nat.le_trans (Nat.le_trans (Nat.le_trans (Nat.le_trans (Nat.le_trans (Nat.le_trans (Nat.le_trans (Nat.le_trans Ku16.1 E19.1) Ku41.1) E51.1) Ku62.1) Ku84.1) E94.1) Ku105.1) Ku127.1) E137.1) Ku150.1) Ku172.1) u189
  have sfb_b183 : Safe Z own_EL T137.vm T181.heap b183 := Safe.keep Ku192 all0 CRu172.1 (Safe.new u189)
  have N181 := Fr.app N168 u186
  obtain ⟨fs, hr, hrun, hended, hEnd⟩ := X181.leaveW (s := s) (vm₁ := T137.vm) hS137 (Nat.le_trans (Nat.le_trans (Nat.le_trans hk137 Ku150.1) Ku172.1) Ku192.1) (v := some (.ref b182)) (fun h => by rw [Bd.returns] at h; cases h)
  have cfin : CHr Z own_EL s.vm s.heap (T181.setFrames fs).vm (T181.setFrames fs).heap := by
    show CHr Z own_EL s.vm s.heap T181.vm T181.heap
    rw [hh]; exact CRu192.trans (CHv.at (s := s) (vm0 := T137.vm) X181 hZ137 (own_EW hw) CRu192.1)
  refine ⟨_, _, pre0 _ ?_, hrun, hended, _, _, rfl, ?_, cfin, hEnd.1, hEnd.2.1, hEnd.2.2.1, hEnd.2.2.2.mono (by decide) (by decide)⟩
  · show Steps p.tables e below (s₁.setTop (mkF m 0 #[.unset, .unset, .unset] [])) _
    refine st10 _ ?_
    refine XS.astoreN X10.here hx rfl (hb hby d1_3) rfl rfl (l' := #[.val (.ref b11), .unset, .unset]) rfl ?_
    refine st19 _ ?_
    refine XS.dup X19.here hx rfl (hb hby d1_7) rfl rfl ?_
    refine XS.aloadN X19.here hx rfl (hb hby d1_8) rfl rfl ?_
    refine XS.iconst X19.here hx rfl (hb hby d1_9) ?_
    refine X19.aaload hx (j := (0 : Int32)) (v := (.ref a3)) (by rw [e19]; exact Ar21.1) (State.isArrayOf_alike hZ.alike Ar21.2.1) rfl Ar21.2.2 hin21 hat21 (g := (mkF m 10 #[.val (.ref b11), .unset, .unset] [(.int (0 : Int32)), (.ref b11), (.ref b19), (.ref b19)])) rfl rfl (hb hby d1_10) _ ?_
    refine st24 _ ?_
    refine st34.trans ?_
    show Steps p.tables e below (T34.setTop (mkF m 17 #[.val (.ref b11), .unset, .unset] [(.ref b19)])) _
    refine XS.astoreN X34.here hx rfl (hb hby d1_17) rfl rfl (l' := #[.val (.ref b11), .val (.ref b19), .unset]) rfl ?_
    refine XS.iconst X34.here hx rfl (hb hby d1_18) ?_
    refine XS.istoreN X34.here hx rfl (hb hby d1_19) rfl (l' := #[.val (.ref b11), .val (.ref b19), .val (.int (1 : Int32))]) rfl ?_
    refine XS.iloadN X34.here hx rfl (hb hby d1_20) rfl ?_
    refine XS.aloadN X34.here hx rfl (hb hby d1_21) rfl rfl ?_
    refine X34.arraylength hx Ar49.1 (State.isArrayOf_alike hZ.alike Ar49.2.1) (g := (mkF m 22 #[.val (.ref b11), .val (.ref b19), .val (.int (1 : Int32))] [(.ref b11), (.int (1 : Int32))])) rfl rfl (hb hby d1_22) _ ?_
    rw [len_of Sz49 Nn49]
    refine XS.icmpNo X34.here hx rfl (hb hby d1_23) rfl (tlt (by decide +kernel : (1 : Int32) < (4 : Int32))).2.1 ?_
    refine XS.aloadN X34.here hx rfl (hb hby d1_26) rfl rfl ?_
    refine XS.iloadN X34.here hx rfl (hb hby d1_27) rfl ?_
    show Steps p.tables e below (T34.setTop (mkF m 28 #[.val (.ref b11), .val (.ref b19), .val (.int (1 : Int32))] [(.int (1 : Int32)), (.ref b19)])) _
    refine XS.aloadN X34.here hx rfl (hb hby d1_28) rfl rfl ?_
    refine X34.arraylength hx Ar50.1 (State.isArrayOf_alike hZ.alike Ar50.2.1) (g := (mkF m 29 #[.val (.ref b11), .val (.ref b19), .val (.int (1 : Int32))] [(.ref b11), (.int (1 : Int32)), (.ref b19)])) rfl rfl (hb hby d1_29) _ ?_
    rw [len_of Sz50 Nn50]
    refine XS.iconst X34.here hx rfl (hb hby d1_30) ?_
    refine XS.isub X34.here hx rfl (hb hby d1_31) rfl ?_
    show Steps p.tables e below (T34.setTop (mkF m 32 #[.val (.ref b11), .val (.ref b19), .val (.int (1 : Int32))] [(.int ((4 : Int32) - (1 : Int32))), (.int (1 : Int32)), (.ref b19)])) _
    rw [(by decide +kernel : ((4 : Int32) - (1 : Int32)) = (3 : Int32))]
    refine XS.icmpYes X34.here hx rfl (pc0 := 32) (pc' := 40) rfl (hb hby d1_32) rfl (feq (by decide +kernel : ¬ ((1 : Int32) = (3 : Int32)))).2 (by decide) (by decide) ?_
    refine st51 _ ?_
    refine st58.trans ?_
    refine XS.aloadN X58.here hx rfl (hb hby d1_45) rfl rfl ?_
    refine XS.iloadN X58.here hx rfl (hb hby d1_46) rfl ?_
    refine X58.aaload hx (j := (1 : Int32)) (v := (.ref a4)) Ar70.1 (State.isArrayOf_alike hZ51.alike Ar70.2.1) rfl Ar70.2.2 hin70 hat70 (g := (mkF m 47 #[.val (.ref b11), .val (.ref b19), .val (.int (1 : Int32))] [(.int (1 : Int32)), (.ref b11), (.ref b19)])) rfl rfl (hb hby d1_47) _ ?_
    refine st73 _ ?_
    refine st80.trans ?_
    show Steps p.tables e below (T80.setTop (mkF m 54 #[.val (.ref b11), .val (.ref b19), .val (.int (1 : Int32))] [(.ref b19)])) _
    refine XS.pop X80.here hx rfl (hb hby d1_54) rfl rfl ?_
    refine XS.iinc X80.here hx rfl (hb hby d1_55) rfl (l' := #[.val (.ref b11), .val (.ref b19), .val (.int ((1 : Int32) + (1 : Int32)))]) rfl ?_
    show Steps p.tables e below (T80.setTop (mkF m 58 #[.val (.ref b11), .val (.ref b19), .val (.int ((1 : Int32) + (1 : Int32)))] [])) _
    rw [(by decide +kernel : ((1 : Int32) + (1 : Int32)) = (2 : Int32))]
    refine XS.goto X80.here hx rfl (pc0 := 58) (pc' := 20) rfl (hb hby d1_58) (by decide) (by decide) ?_
    refine XS.iloadN X80.here hx rfl (hb hby d1_20) rfl ?_
    refine XS.aloadN X80.here hx rfl (hb hby d1_21) rfl rfl ?_
    refine X80.arraylength hx Ar92.1 (State.isArrayOf_alike hZ51.alike Ar92.2.1) (g := (mkF m 22 #[.val (.ref b11), .val (.ref b19), .val (.int (2 : Int32))] [(.ref b11), (.int (2 : Int32))])) rfl rfl (hb hby d1_22) _ ?_
    rw [len_of Sz92 Nn92]
    refine XS.icmpNo X80.here hx rfl (hb hby d1_23) rfl (tlt (by decide +kernel : (2 : Int32) < (4 : Int32))).2.1 ?_
    refine XS.aloadN X80.here hx rfl (hb hby d1_26) rfl rfl ?_
    refine XS.iloadN X80.here hx rfl (hb hby d1_27) rfl ?_
    refine XS.aloadN X80.here hx rfl (hb hby d1_28) rfl rfl ?_
    show Steps p.tables e below (T80.setTop (mkF m 29 #[.val (.ref b11), .val (.ref b19), .val (.int (2 : Int32))] [(.ref b11), (.int (2 : Int32)), (.ref b19)])) _
    refine X80.arraylength hx Ar93.1 (State.isArrayOf_alike hZ51.alike Ar93.2.1) (g := (mkF m 29 #[.val (.ref b11), .val (.ref b19), .val (.int (2 : Int32))] [(.ref b11), (.int (2 : Int32)), (.ref b19)])) rfl rfl (hb hby d1_29) _ ?_
    rw [len_of Sz93 Nn93]
    refine XS.iconst X80.here hx rfl (hb hby d1_30) ?_
    refine XS.isub X80.here hx rfl (hb hby d1_31) rfl ?_
    show Steps p.tables e below (T80.setTop (mkF m 32 #[.val (.ref b11), .val (.ref b19), .val (.int (2 : Int32))] [(.int ((4 : Int32) - (1 : Int32))), (.int (2 : Int32)), (.ref b19)])) _
    rw [(by decide +kernel : ((4 : Int32) - (1 : Int32)) = (3 : Int32))]
    refine XS.icmpYes X80.here hx rfl (pc0 := 32) (pc' := 40) rfl (hb hby d1_32) rfl (feq (by decide +kernel : ¬ ((2 : Int32) = (3 : Int32)))).2 (by decide) (by decide) ?_
    refine st94 _ ?_
    refine st101.trans ?_
    refine XS.aloadN X101.here hx rfl (hb hby d1_45) rfl rfl ?_
    refine XS.iloadN X101.here hx rfl (hb hby d1_46) rfl ?_
    refine X101.aaload hx (j := (2 : Int32)) (v := (.ref a5)) Ar113.1 (State.isArrayOf_alike hZ94.alike Ar113.2.1) rfl Ar113.2.2 hin113 hat113 (g := (mkF m 47 #[.val (.ref b11), .val (.ref b19), .val (.int (2 : Int32))] [(.int (2 : Int32)), (.ref b11), (.ref b19)])) rfl rfl (hb hby d1_47) _ ?_
    refine st116 _ ?_
    refine st123.trans ?_
    show Steps p.tables e below (T123.setTop (mkF m 54 #[.val (.ref b11), .val (.ref b19), .val (.int (2 : Int32))] [(.ref b19)])) _
    refine XS.pop X123.here hx rfl (hb hby d1_54) rfl rfl ?_
    refine XS.iinc X123.here hx rfl (hb hby d1_55) rfl (l' := #[.val (.ref b11), .val (.ref b19), .val (.int ((2 : Int32) + (1 : Int32)))]) rfl ?_
    show Steps p.tables e below (T123.setTop (mkF m 58 #[.val (.ref b11), .val (.ref b19), .val (.int ((2 : Int32) + (1 : Int32)))] [])) _
    rw [(by decide +kernel : ((2 : Int32) + (1 : Int32)) = (3 : Int32))]
    refine XS.goto X123.here hx rfl (pc0 := 58) (pc' := 20) rfl (hb hby d1_58) (by decide) (by decide) ?_
    refine XS.iloadN X123.here hx rfl (hb hby d1_20) rfl ?_
    refine XS.aloadN X123.here hx rfl (hb hby d1_21) rfl rfl ?_
    refine X123.arraylength hx Ar135.1 (State.isArrayOf_alike hZ94.alike Ar135.2.1) (g := (mkF m 22 #[.val (.ref b11), .val (.ref b19), .val (.int (3 : Int32))] [(.ref b11), (.int (3 : Int32))])) rfl rfl (hb hby d1_22) _ ?_
    rw [len_of Sz135 Nn135]
    refine XS.icmpNo X123.here hx rfl (hb hby d1_23) rfl (tlt (by decide +kernel : (3 : Int32) < (4 : Int32))).2.1 ?_
    refine XS.aloadN X123.here hx rfl (hb hby d1_26) rfl rfl ?_
    refine XS.iloadN X123.here hx rfl (hb hby d1_27) rfl ?_
    refine XS.aloadN X123.here hx rfl (hb hby d1_28) rfl rfl ?_
    show Steps p.tables e below (T123.setTop (mkF m 29 #[.val (.ref b11), .val (.ref b19), .val (.int (3 : Int32))] [(.ref b11), (.int (3 : Int32)), (.ref b19)])) _
    refine X123.arraylength hx Ar136.1 (State.isArrayOf_alike hZ94.alike Ar136.2.1) (g := (mkF m 29 #[.val (.ref b11), .val (.ref b19), .val (.int (3 : Int32))] [(.ref b11), (.int (3 : Int32)), (.ref b19)])) rfl rfl (hb hby d1_29) _ ?_
    rw [len_of Sz136 Nn136]
    refine XS.iconst X123.here hx rfl (hb hby d1_30) ?_
    refine XS.isub X123.here hx rfl (hb hby d1_31) rfl ?_
    show Steps p.tables e below (T123.setTop (mkF m 32 #[.val (.ref b11), .val (.ref b19), .val (.int (3 : Int32))] [(.int ((4 : Int32) - (1 : Int32))), (.int (3 : Int32)), (.ref b19)])) _
    rw [(by decide +kernel : ((4 : Int32) - (1 : Int32)) = (3 : Int32))]
    refine XS.icmpNo X123.here hx rfl (hb hby d1_32) rfl (teq (by decide +kernel : (3 : Int32) = (3 : Int32))).2 ?_
    refine st137 _ ?_
    refine XS.goto X137.here hx rfl (pc0 := 37) (pc' := 42) rfl (hb hby d1_37) (by decide) (by decide) ?_
    refine st143.trans ?_
    refine XS.aloadN X143.here hx rfl (hb hby d1_45) rfl rfl ?_
    refine XS.iloadN X143.here hx rfl (hb hby d1_46) rfl ?_
    refine X143.aaload hx (j := (3 : Int32)) (v := (.ref a6)) Ar158.1 (State.isArrayOf_alike hZ137.alike Ar158.2.1) rfl Ar158.2.2 hin158 hat158 (g := (mkF m 47 #[.val (.ref b11), .val (.ref b19), .val (.int (3 : Int32))] [(.int (3 : Int32)), (.ref b11), (.ref b19)])) rfl rfl (hb hby d1_47) _ ?_
    refine st161 _ ?_
    show Steps p.tables e below (T161.setTop (mkF m 51 #[.val (.ref b11), .val (.ref b19), .val (.int (3 : Int32))] [(.ref a159), (.ref b19)])) _
    refine st168.trans ?_
    refine XS.pop X168.here hx rfl (hb hby d1_54) rfl rfl ?_
    refine XS.iinc X168.here hx rfl (hb hby d1_55) rfl (l' := #[.val (.ref b11), .val (.ref b19), .val (.int ((3 : Int32) + (1 : Int32)))]) rfl ?_
    show Steps p.tables e below (T168.setTop (mkF m 58 #[.val (.ref b11), .val (.ref b19), .val (.int ((3 : Int32) + (1 : Int32)))] [])) _
    rw [(by decide +kernel : ((3 : Int32) + (1 : Int32)) = (4 : Int32))]
    refine XS.goto X168.here hx rfl (pc0 := 58) (pc' := 20) rfl (hb hby d1_58) (by decide) (by decide) ?_
    refine XS.iloadN X168.here hx rfl (hb hby d1_20) rfl ?_
    refine XS.aloadN X168.here hx rfl (hb hby d1_21) rfl rfl ?_
    refine X168.arraylength hx Ar180.1 (State.isArrayOf_alike hZ137.alike Ar180.2.1) (g := (mkF m 22 #[.val (.ref b11), .val (.ref b19), .val (.int (4 : Int32))] [(.ref b11), (.int (4 : Int32))])) rfl rfl (hb hby d1_22) _ ?_
    rw [len_of Sz180 Nn180]
    refine XS.icmpYes X168.here hx rfl (pc0 := 23) (pc' := 61) rfl (hb hby d1_23) rfl (flt (by decide +kernel : ¬ ((4 : Int32) < (4 : Int32)))).2.1 (by decide) (by decide) ?_
    refine XS.aloadN X168.here hx rfl (hb hby d1_61) rfl rfl ?_
    refine st181.trans ?_
    show Steps p.tables e below (T181.setTop (mkF m 65 #[.val (.ref b11), .val (.ref b19), .val (.int (4 : Int32))] [(.ref b182)])) _
    jvm_step X181.here [X181.here.top, hx, (hb hby d1_65), X181.method', Bd.returns, Value.isRef, FieldType.isReference]
    first | (intro acts; rw [hr _ acts rfl rfl rfl]) | rw [hr _ _ rfl rfl rfl]
    exact Steps.refl _
  · show Q1_2 Z _ _ _ _ _ _ _ _ _ _ _ _ _ _ _ _ _ _ _ h0 n0 _ T181.heap _
    exact ⟨b182, b183, k184, rfl, N181, sz_b182, u188, sz_b183, u190, u191, ((((((((((((((Keep.refl h0 []).trans Ku16 all0).ext E19).trans Ku41 (allS (Or.inr sz_b19) all0)).ext E51).trans Ku62 (allS (Or.inr sz_b35) (allS (Or.inr sz_b19) all0))).trans Ku84 (allS (Or.inr sz_b35) (allS (Or.inr sz_b19) all0))).ext E94).trans Ku105 (allS (Or.inr sz_b35) (allS (Or.inr sz_b19) all0))).trans Ku127 (allS (Or.inr sz_b35) (allS (Or.inr sz_b19) all0))).ext E137).trans Ku150 (allS (Or.inr sz_b19) all0)).trans Ku172 (allS (Or.inr sz_b144) (allS (Or.inr sz_b19) all0))).trans Ku192 all0), u193, u194, u195, u196, u197⟩
theorem ef_rm31_69 (m : MethodId) (x0 : Addr) (x1 : Addr) : entryFrame m #[(.ref x0), (.ref x1)] 3 = mkF m 0 #[.val (.ref x0), .val (.ref x1), .unset] [] := by first | (simp [entryFrame, mkF, argsToLocals, Value.category]; done) | rfl
def Q31_69 (Z : State) (a1 : Addr) (a2 : Addr) (k3 : ClassId) (k6 : ClassId) (h0 : Heap) (n0 : Nat) (v : Option Value) (h : Heap) (L : List Loc) : Prop := (v = some (.int (1 : Int32)) ∧ Fr n0 L ∧ h = h0)
set_option maxRecDepth 65536 in
set_option maxHeartbeats 40000000 in
theorem rm31_69 (l : Launch) (Z : State) (a0 : Array Value) (hw : ∀ d ∈ own_ws, d.before a0 Z = true) (ws : List Jvm.Cond) (a1 : Addr) (a2 : Addr) (k3 : ClassId) (k6 : ClassId) (h0 : Heap) (n0 : Nat) (O0 : Old Z n0 h0) (V4 : Arv Z h0 a1 k3 .byte (31 : Int32) [(.int (82 : Int32)), (.int (101 : Int32)), (.int (97 : Int32)), (.int (100 : Int32)), (.int (44 : Int32)), (.int (32 : Int32)), (.int (87 : Int32)), (.int (114 : Int32)), (.int (105 : Int32)), (.int (116 : Int32)), (.int (101 : Int32)), (.int (44 : Int32)), (.int (32 : Int32)), (.int (65 : Int32)), (.int (112 : Int32)), (.int (112 : Int32)), (.int (101 : Int32)), (.int (110 : Int32)), (.int (100 : Int32)), (.int (32 : Int32)), (.int (97 : Int32)), (.int (110 : Int32)), (.int (100 : Int32)), (.int (32 : Int32)), (.int (67 : Int32)), (.int (111 : Int32)), (.int (110 : Int32)), (.int (116 : Int32)), (.int (114 : Int32)), (.int (111 : Int32)), (.int (108 : Int32))] (.int (0 : Int32))) (V7 : Arv Z h0 a2 k6 .byte (31 : Int32) [(.int (82 : Int32)), (.int (101 : Int32)), (.int (97 : Int32)), (.int (100 : Int32)), (.int (44 : Int32)), (.int (32 : Int32)), (.int (87 : Int32)), (.int (114 : Int32)), (.int (105 : Int32)), (.int (116 : Int32)), (.int (101 : Int32)), (.int (44 : Int32)), (.int (32 : Int32)), (.int (65 : Int32)), (.int (112 : Int32)), (.int (112 : Int32)), (.int (101 : Int32)), (.int (110 : Int32)), (.int (100 : Int32)), (.int (32 : Int32)), (.int (97 : Int32)), (.int (110 : Int32)), (.int (100 : Int32)), (.int (32 : Int32)), (.int (67 : Int32)), (.int (111 : Int32)), (.int (110 : Int32)), (.int (116 : Int32)), (.int (114 : Int32)), (.int (111 : Int32)), (.int (108 : Int32))] (.int 0)) :
    MetFree l M_28 (head1 (Jvm.Cond.code M_28 jdk_43_method_13_code 3 (some .boolean) :: ws) ({ frames := 0, cells := 0, slots := 0, locals := 0 } : Room)) (fun a U => a = #[(.ref a1), (.ref a2)] ∧ Z.Warmed39 U.vm ∧ U.heap = h0) (fun _ _ _ _ _ => True) (fun _ U o U' => ∃ v L, o = .returned v ∧ Q31_69 Z a1 a2 k3 k6 h0 n0 v U'.heap L ∧ FrameEnd U o U' L ({ frames := 0, cells := 0, slots := 0, locals := 0 } : Room).cells ({ frames := 0, cells := 0, slots := 0, locals := 0 } : Room).slots) := by
  refine MetFree.of_bodySF (plainFor_of_name pn_6) hisR ?_
  intro p e s m args below meth c s₁ Bd hml0 hP hK
  obtain ⟨rfl, hZ, hh⟩ := hP
  have hx := Bd.exec
  have hby := Bd.bytes
  have hml : c.maxLocals = 3 := hml0
  have hown : s.vm.findClass "java/lang/StringLatin1" = some m.cls := findClass_of_methodNamed Bd.named
  have hnm := (name_of_methodNamed Bd.named Bd.method).1
  have X0 : Stand p l e ({ frames := 0, cells := 0, slots := 0, locals := 0 } : Room) s m #[(.ref a1), (.ref a2)] below meth c s₁ [] 0 0 := Stand.of_body Bd
  have e0 : s₁.heap = h0 := by rw [← hh, Bd.state]; rfl
  have N0 := Fr.nil n0
  have pre0 : ∀ t, Steps p.tables e below (s₁.setTop (mkF m 0 #[.val (.ref a1), .val (.ref a2), .unset] [])) t → Steps p.tables e below (s₁.setTop (entryFrame m #[(.ref a1), (.ref a2)] 3)) t := fun t k => castTop (ef_rm31_69 m a1 a2) k
  obtain ⟨cl5, Ar5, -, Sz5, Nn5, -, -⟩ := id V4
  obtain ⟨cl8, Ar8, -, Sz8, Nn8, -, -⟩ := id V7
  obtain ⟨cl9, Ar9, -, Sz9, Nn9, -, -⟩ := id V4
  obtain ⟨cl10, Ar10, -, Sz10, -, Hh10, -⟩ := id V4
  have hin10 : ¬ ((0 : Int32) < 0 ∨ cl10.slots.size ≤ ((0 : Int32)).toNatClampNeg) := inb_of Sz10 ⟨by decide +kernel, by decide +kernel⟩
  have hat10 : cl10.slots[((0 : Int32)).toNatClampNeg]? = some (.int (82 : Int32)) := Has.at Hh10 hin10 rfl
  obtain ⟨cl11, Ar11, -, Sz11, -, Hh11, -⟩ := id V7
  have hin11 : ¬ ((0 : Int32) < 0 ∨ cl11.slots.size ≤ ((0 : Int32)).toNatClampNeg) := inb_of Sz11 ⟨by decide +kernel, by decide +kernel⟩
  have hat11 : cl11.slots[((0 : Int32)).toNatClampNeg]? = some (.int (82 : Int32)) := Has.at Hh11 hin11 rfl
  obtain ⟨cl12, Ar12, -, Sz12, Nn12, -, -⟩ := id V4
  obtain ⟨cl13, Ar13, -, Sz13, -, Hh13, -⟩ := id V4
  have hin13 : ¬ ((1 : Int32) < 0 ∨ cl13.slots.size ≤ ((1 : Int32)).toNatClampNeg) := inb_of Sz13 ⟨by decide +kernel, by decide +kernel⟩
  have hat13 : cl13.slots[((1 : Int32)).toNatClampNeg]? = some (.int (101 : Int32)) := Has.at Hh13 hin13 rfl
  obtain ⟨cl14, Ar14, -, Sz14, -, Hh14, -⟩ := id V7
  have hin14 : ¬ ((1 : Int32) < 0 ∨ cl14.slots.size ≤ ((1 : Int32)).toNatClampNeg) := inb_of Sz14 ⟨by decide +kernel, by decide +kernel⟩
  have hat14 : cl14.slots[((1 : Int32)).toNatClampNeg]? = some (.int (101 : Int32)) := Has.at Hh14 hin14 rfl
  obtain ⟨cl15, Ar15, -, Sz15, Nn15, -, -⟩ := id V4
  obtain ⟨cl16, Ar16, -, Sz16, -, Hh16, -⟩ := id V4
  have hin16 : ¬ ((2 : Int32) < 0 ∨ cl16.slots.size ≤ ((2 : Int32)).toNatClampNeg) := inb_of Sz16 ⟨by decide +kernel, by decide +kernel⟩
  have hat16 : cl16.slots[((2 : Int32)).toNatClampNeg]? = some (.int (97 : Int32)) := Has.at Hh16 hin16 rfl
  obtain ⟨cl17, Ar17, -, Sz17, -, Hh17, -⟩ := id V7
  have hin17 : ¬ ((2 : Int32) < 0 ∨ cl17.slots.size ≤ ((2 : Int32)).toNatClampNeg) := inb_of Sz17 ⟨by decide +kernel, by decide +kernel⟩
  have hat17 : cl17.slots[((2 : Int32)).toNatClampNeg]? = some (.int (97 : Int32)) := Has.at Hh17 hin17 rfl
  obtain ⟨cl18, Ar18, -, Sz18, Nn18, -, -⟩ := id V4
  obtain ⟨cl19, Ar19, -, Sz19, -, Hh19, -⟩ := id V4
  have hin19 : ¬ ((3 : Int32) < 0 ∨ cl19.slots.size ≤ ((3 : Int32)).toNatClampNeg) := inb_of Sz19 ⟨by decide +kernel, by decide +kernel⟩
  have hat19 : cl19.slots[((3 : Int32)).toNatClampNeg]? = some (.int (100 : Int32)) := Has.at Hh19 hin19 rfl
  obtain ⟨cl20, Ar20, -, Sz20, -, Hh20, -⟩ := id V7
  have hin20 : ¬ ((3 : Int32) < 0 ∨ cl20.slots.size ≤ ((3 : Int32)).toNatClampNeg) := inb_of Sz20 ⟨by decide +kernel, by decide +kernel⟩
  have hat20 : cl20.slots[((3 : Int32)).toNatClampNeg]? = some (.int (100 : Int32)) := Has.at Hh20 hin20 rfl
  obtain ⟨cl21, Ar21, -, Sz21, Nn21, -, -⟩ := id V4
  obtain ⟨cl22, Ar22, -, Sz22, -, Hh22, -⟩ := id V4
  have hin22 : ¬ ((4 : Int32) < 0 ∨ cl22.slots.size ≤ ((4 : Int32)).toNatClampNeg) := inb_of Sz22 ⟨by decide +kernel, by decide +kernel⟩
  have hat22 : cl22.slots[((4 : Int32)).toNatClampNeg]? = some (.int (44 : Int32)) := Has.at Hh22 hin22 rfl
  obtain ⟨cl23, Ar23, -, Sz23, -, Hh23, -⟩ := id V7
  have hin23 : ¬ ((4 : Int32) < 0 ∨ cl23.slots.size ≤ ((4 : Int32)).toNatClampNeg) := inb_of Sz23 ⟨by decide +kernel, by decide +kernel⟩
  have hat23 : cl23.slots[((4 : Int32)).toNatClampNeg]? = some (.int (44 : Int32)) := Has.at Hh23 hin23 rfl
  obtain ⟨cl24, Ar24, -, Sz24, Nn24, -, -⟩ := id V4
  obtain ⟨cl25, Ar25, -, Sz25, -, Hh25, -⟩ := id V4
  have hin25 : ¬ ((5 : Int32) < 0 ∨ cl25.slots.size ≤ ((5 : Int32)).toNatClampNeg) := inb_of Sz25 ⟨by decide +kernel, by decide +kernel⟩
  have hat25 : cl25.slots[((5 : Int32)).toNatClampNeg]? = some (.int (32 : Int32)) := Has.at Hh25 hin25 rfl
  obtain ⟨cl26, Ar26, -, Sz26, -, Hh26, -⟩ := id V7
  have hin26 : ¬ ((5 : Int32) < 0 ∨ cl26.slots.size ≤ ((5 : Int32)).toNatClampNeg) := inb_of Sz26 ⟨by decide +kernel, by decide +kernel⟩
  have hat26 : cl26.slots[((5 : Int32)).toNatClampNeg]? = some (.int (32 : Int32)) := Has.at Hh26 hin26 rfl
  obtain ⟨cl27, Ar27, -, Sz27, Nn27, -, -⟩ := id V4
  obtain ⟨cl28, Ar28, -, Sz28, -, Hh28, -⟩ := id V4
  have hin28 : ¬ ((6 : Int32) < 0 ∨ cl28.slots.size ≤ ((6 : Int32)).toNatClampNeg) := inb_of Sz28 ⟨by decide +kernel, by decide +kernel⟩
  have hat28 : cl28.slots[((6 : Int32)).toNatClampNeg]? = some (.int (87 : Int32)) := Has.at Hh28 hin28 rfl
  obtain ⟨cl29, Ar29, -, Sz29, -, Hh29, -⟩ := id V7
  have hin29 : ¬ ((6 : Int32) < 0 ∨ cl29.slots.size ≤ ((6 : Int32)).toNatClampNeg) := inb_of Sz29 ⟨by decide +kernel, by decide +kernel⟩
  have hat29 : cl29.slots[((6 : Int32)).toNatClampNeg]? = some (.int (87 : Int32)) := Has.at Hh29 hin29 rfl
  obtain ⟨cl30, Ar30, -, Sz30, Nn30, -, -⟩ := id V4
  obtain ⟨cl31, Ar31, -, Sz31, -, Hh31, -⟩ := id V4
  have hin31 : ¬ ((7 : Int32) < 0 ∨ cl31.slots.size ≤ ((7 : Int32)).toNatClampNeg) := inb_of Sz31 ⟨by decide +kernel, by decide +kernel⟩
  have hat31 : cl31.slots[((7 : Int32)).toNatClampNeg]? = some (.int (114 : Int32)) := Has.at Hh31 hin31 rfl
  obtain ⟨cl32, Ar32, -, Sz32, -, Hh32, -⟩ := id V7
  have hin32 : ¬ ((7 : Int32) < 0 ∨ cl32.slots.size ≤ ((7 : Int32)).toNatClampNeg) := inb_of Sz32 ⟨by decide +kernel, by decide +kernel⟩
  have hat32 : cl32.slots[((7 : Int32)).toNatClampNeg]? = some (.int (114 : Int32)) := Has.at Hh32 hin32 rfl
  obtain ⟨cl33, Ar33, -, Sz33, Nn33, -, -⟩ := id V4
  obtain ⟨cl34, Ar34, -, Sz34, -, Hh34, -⟩ := id V4
  have hin34 : ¬ ((8 : Int32) < 0 ∨ cl34.slots.size ≤ ((8 : Int32)).toNatClampNeg) := inb_of Sz34 ⟨by decide +kernel, by decide +kernel⟩
  have hat34 : cl34.slots[((8 : Int32)).toNatClampNeg]? = some (.int (105 : Int32)) := Has.at Hh34 hin34 rfl
  obtain ⟨cl35, Ar35, -, Sz35, -, Hh35, -⟩ := id V7
  have hin35 : ¬ ((8 : Int32) < 0 ∨ cl35.slots.size ≤ ((8 : Int32)).toNatClampNeg) := inb_of Sz35 ⟨by decide +kernel, by decide +kernel⟩
  have hat35 : cl35.slots[((8 : Int32)).toNatClampNeg]? = some (.int (105 : Int32)) := Has.at Hh35 hin35 rfl
  obtain ⟨cl36, Ar36, -, Sz36, Nn36, -, -⟩ := id V4
  obtain ⟨cl37, Ar37, -, Sz37, -, Hh37, -⟩ := id V4
  have hin37 : ¬ ((9 : Int32) < 0 ∨ cl37.slots.size ≤ ((9 : Int32)).toNatClampNeg) := inb_of Sz37 ⟨by decide +kernel, by decide +kernel⟩
  have hat37 : cl37.slots[((9 : Int32)).toNatClampNeg]? = some (.int (116 : Int32)) := Has.at Hh37 hin37 rfl
  obtain ⟨cl38, Ar38, -, Sz38, -, Hh38, -⟩ := id V7
  have hin38 : ¬ ((9 : Int32) < 0 ∨ cl38.slots.size ≤ ((9 : Int32)).toNatClampNeg) := inb_of Sz38 ⟨by decide +kernel, by decide +kernel⟩
  have hat38 : cl38.slots[((9 : Int32)).toNatClampNeg]? = some (.int (116 : Int32)) := Has.at Hh38 hin38 rfl
  obtain ⟨cl39, Ar39, -, Sz39, Nn39, -, -⟩ := id V4
  obtain ⟨cl40, Ar40, -, Sz40, -, Hh40, -⟩ := id V4
  have hin40 : ¬ ((10 : Int32) < 0 ∨ cl40.slots.size ≤ ((10 : Int32)).toNatClampNeg) := inb_of Sz40 ⟨by decide +kernel, by decide +kernel⟩
  have hat40 : cl40.slots[((10 : Int32)).toNatClampNeg]? = some (.int (101 : Int32)) := Has.at Hh40 hin40 rfl
  obtain ⟨cl41, Ar41, -, Sz41, -, Hh41, -⟩ := id V7
  have hin41 : ¬ ((10 : Int32) < 0 ∨ cl41.slots.size ≤ ((10 : Int32)).toNatClampNeg) := inb_of Sz41 ⟨by decide +kernel, by decide +kernel⟩
  have hat41 : cl41.slots[((10 : Int32)).toNatClampNeg]? = some (.int (101 : Int32)) := Has.at Hh41 hin41 rfl
  obtain ⟨cl42, Ar42, -, Sz42, Nn42, -, -⟩ := id V4
  obtain ⟨cl43, Ar43, -, Sz43, -, Hh43, -⟩ := id V4
  have hin43 : ¬ ((11 : Int32) < 0 ∨ cl43.slots.size ≤ ((11 : Int32)).toNatClampNeg) := inb_of Sz43 ⟨by decide +kernel, by decide +kernel⟩
  have hat43 : cl43.slots[((11 : Int32)).toNatClampNeg]? = some (.int (44 : Int32)) := Has.at Hh43 hin43 rfl
  obtain ⟨cl44, Ar44, -, Sz44, -, Hh44, -⟩ := id V7
  have hin44 : ¬ ((11 : Int32) < 0 ∨ cl44.slots.size ≤ ((11 : Int32)).toNatClampNeg) := inb_of Sz44 ⟨by decide +kernel, by decide +kernel⟩
  have hat44 : cl44.slots[((11 : Int32)).toNatClampNeg]? = some (.int (44 : Int32)) := Has.at Hh44 hin44 rfl
  obtain ⟨cl45, Ar45, -, Sz45, Nn45, -, -⟩ := id V4
  obtain ⟨cl46, Ar46, -, Sz46, -, Hh46, -⟩ := id V4
  have hin46 : ¬ ((12 : Int32) < 0 ∨ cl46.slots.size ≤ ((12 : Int32)).toNatClampNeg) := inb_of Sz46 ⟨by decide +kernel, by decide +kernel⟩
  have hat46 : cl46.slots[((12 : Int32)).toNatClampNeg]? = some (.int (32 : Int32)) := Has.at Hh46 hin46 rfl
  obtain ⟨cl47, Ar47, -, Sz47, -, Hh47, -⟩ := id V7
  have hin47 : ¬ ((12 : Int32) < 0 ∨ cl47.slots.size ≤ ((12 : Int32)).toNatClampNeg) := inb_of Sz47 ⟨by decide +kernel, by decide +kernel⟩
  have hat47 : cl47.slots[((12 : Int32)).toNatClampNeg]? = some (.int (32 : Int32)) := Has.at Hh47 hin47 rfl
  obtain ⟨cl48, Ar48, -, Sz48, Nn48, -, -⟩ := id V4
  obtain ⟨cl49, Ar49, -, Sz49, -, Hh49, -⟩ := id V4
  have hin49 : ¬ ((13 : Int32) < 0 ∨ cl49.slots.size ≤ ((13 : Int32)).toNatClampNeg) := inb_of Sz49 ⟨by decide +kernel, by decide +kernel⟩
  have hat49 : cl49.slots[((13 : Int32)).toNatClampNeg]? = some (.int (65 : Int32)) := Has.at Hh49 hin49 rfl
  obtain ⟨cl50, Ar50, -, Sz50, -, Hh50, -⟩ := id V7
  have hin50 : ¬ ((13 : Int32) < 0 ∨ cl50.slots.size ≤ ((13 : Int32)).toNatClampNeg) := inb_of Sz50 ⟨by decide +kernel, by decide +kernel⟩
  have hat50 : cl50.slots[((13 : Int32)).toNatClampNeg]? = some (.int (65 : Int32)) := Has.at Hh50 hin50 rfl
  obtain ⟨cl51, Ar51, -, Sz51, Nn51, -, -⟩ := id V4
  obtain ⟨cl52, Ar52, -, Sz52, -, Hh52, -⟩ := id V4
  have hin52 : ¬ ((14 : Int32) < 0 ∨ cl52.slots.size ≤ ((14 : Int32)).toNatClampNeg) := inb_of Sz52 ⟨by decide +kernel, by decide +kernel⟩
  have hat52 : cl52.slots[((14 : Int32)).toNatClampNeg]? = some (.int (112 : Int32)) := Has.at Hh52 hin52 rfl
  obtain ⟨cl53, Ar53, -, Sz53, -, Hh53, -⟩ := id V7
  have hin53 : ¬ ((14 : Int32) < 0 ∨ cl53.slots.size ≤ ((14 : Int32)).toNatClampNeg) := inb_of Sz53 ⟨by decide +kernel, by decide +kernel⟩
  have hat53 : cl53.slots[((14 : Int32)).toNatClampNeg]? = some (.int (112 : Int32)) := Has.at Hh53 hin53 rfl
  obtain ⟨cl54, Ar54, -, Sz54, Nn54, -, -⟩ := id V4
  obtain ⟨cl55, Ar55, -, Sz55, -, Hh55, -⟩ := id V4
  have hin55 : ¬ ((15 : Int32) < 0 ∨ cl55.slots.size ≤ ((15 : Int32)).toNatClampNeg) := inb_of Sz55 ⟨by decide +kernel, by decide +kernel⟩
  have hat55 : cl55.slots[((15 : Int32)).toNatClampNeg]? = some (.int (112 : Int32)) := Has.at Hh55 hin55 rfl
  obtain ⟨cl56, Ar56, -, Sz56, -, Hh56, -⟩ := id V7
  have hin56 : ¬ ((15 : Int32) < 0 ∨ cl56.slots.size ≤ ((15 : Int32)).toNatClampNeg) := inb_of Sz56 ⟨by decide +kernel, by decide +kernel⟩
  have hat56 : cl56.slots[((15 : Int32)).toNatClampNeg]? = some (.int (112 : Int32)) := Has.at Hh56 hin56 rfl
  obtain ⟨cl57, Ar57, -, Sz57, Nn57, -, -⟩ := id V4
  obtain ⟨cl58, Ar58, -, Sz58, -, Hh58, -⟩ := id V4
  have hin58 : ¬ ((16 : Int32) < 0 ∨ cl58.slots.size ≤ ((16 : Int32)).toNatClampNeg) := inb_of Sz58 ⟨by decide +kernel, by decide +kernel⟩
  have hat58 : cl58.slots[((16 : Int32)).toNatClampNeg]? = some (.int (101 : Int32)) := Has.at Hh58 hin58 rfl
  obtain ⟨cl59, Ar59, -, Sz59, -, Hh59, -⟩ := id V7
  have hin59 : ¬ ((16 : Int32) < 0 ∨ cl59.slots.size ≤ ((16 : Int32)).toNatClampNeg) := inb_of Sz59 ⟨by decide +kernel, by decide +kernel⟩
  have hat59 : cl59.slots[((16 : Int32)).toNatClampNeg]? = some (.int (101 : Int32)) := Has.at Hh59 hin59 rfl
  obtain ⟨cl60, Ar60, -, Sz60, Nn60, -, -⟩ := id V4
  obtain ⟨cl61, Ar61, -, Sz61, -, Hh61, -⟩ := id V4
  have hin61 : ¬ ((17 : Int32) < 0 ∨ cl61.slots.size ≤ ((17 : Int32)).toNatClampNeg) := inb_of Sz61 ⟨by decide +kernel, by decide +kernel⟩
  have hat61 : cl61.slots[((17 : Int32)).toNatClampNeg]? = some (.int (110 : Int32)) := Has.at Hh61 hin61 rfl
  obtain ⟨cl62, Ar62, -, Sz62, -, Hh62, -⟩ := id V7
  have hin62 : ¬ ((17 : Int32) < 0 ∨ cl62.slots.size ≤ ((17 : Int32)).toNatClampNeg) := inb_of Sz62 ⟨by decide +kernel, by decide +kernel⟩
  have hat62 : cl62.slots[((17 : Int32)).toNatClampNeg]? = some (.int (110 : Int32)) := Has.at Hh62 hin62 rfl
  obtain ⟨cl63, Ar63, -, Sz63, Nn63, -, -⟩ := id V4
  obtain ⟨cl64, Ar64, -, Sz64, -, Hh64, -⟩ := id V4
  have hin64 : ¬ ((18 : Int32) < 0 ∨ cl64.slots.size ≤ ((18 : Int32)).toNatClampNeg) := inb_of Sz64 ⟨by decide +kernel, by decide +kernel⟩
  have hat64 : cl64.slots[((18 : Int32)).toNatClampNeg]? = some (.int (100 : Int32)) := Has.at Hh64 hin64 rfl
  obtain ⟨cl65, Ar65, -, Sz65, -, Hh65, -⟩ := id V7
  have hin65 : ¬ ((18 : Int32) < 0 ∨ cl65.slots.size ≤ ((18 : Int32)).toNatClampNeg) := inb_of Sz65 ⟨by decide +kernel, by decide +kernel⟩
  have hat65 : cl65.slots[((18 : Int32)).toNatClampNeg]? = some (.int (100 : Int32)) := Has.at Hh65 hin65 rfl
  obtain ⟨cl66, Ar66, -, Sz66, Nn66, -, -⟩ := id V4
  obtain ⟨cl67, Ar67, -, Sz67, -, Hh67, -⟩ := id V4
  have hin67 : ¬ ((19 : Int32) < 0 ∨ cl67.slots.size ≤ ((19 : Int32)).toNatClampNeg) := inb_of Sz67 ⟨by decide +kernel, by decide +kernel⟩
  have hat67 : cl67.slots[((19 : Int32)).toNatClampNeg]? = some (.int (32 : Int32)) := Has.at Hh67 hin67 rfl
  obtain ⟨cl68, Ar68, -, Sz68, -, Hh68, -⟩ := id V7
  have hin68 : ¬ ((19 : Int32) < 0 ∨ cl68.slots.size ≤ ((19 : Int32)).toNatClampNeg) := inb_of Sz68 ⟨by decide +kernel, by decide +kernel⟩
  have hat68 : cl68.slots[((19 : Int32)).toNatClampNeg]? = some (.int (32 : Int32)) := Has.at Hh68 hin68 rfl
  obtain ⟨cl69, Ar69, -, Sz69, Nn69, -, -⟩ := id V4
  obtain ⟨cl70, Ar70, -, Sz70, -, Hh70, -⟩ := id V4
  have hin70 : ¬ ((20 : Int32) < 0 ∨ cl70.slots.size ≤ ((20 : Int32)).toNatClampNeg) := inb_of Sz70 ⟨by decide +kernel, by decide +kernel⟩
  have hat70 : cl70.slots[((20 : Int32)).toNatClampNeg]? = some (.int (97 : Int32)) := Has.at Hh70 hin70 rfl
  obtain ⟨cl71, Ar71, -, Sz71, -, Hh71, -⟩ := id V7
  have hin71 : ¬ ((20 : Int32) < 0 ∨ cl71.slots.size ≤ ((20 : Int32)).toNatClampNeg) := inb_of Sz71 ⟨by decide +kernel, by decide +kernel⟩
  have hat71 : cl71.slots[((20 : Int32)).toNatClampNeg]? = some (.int (97 : Int32)) := Has.at Hh71 hin71 rfl
  obtain ⟨cl72, Ar72, -, Sz72, Nn72, -, -⟩ := id V4
  obtain ⟨cl73, Ar73, -, Sz73, -, Hh73, -⟩ := id V4
  have hin73 : ¬ ((21 : Int32) < 0 ∨ cl73.slots.size ≤ ((21 : Int32)).toNatClampNeg) := inb_of Sz73 ⟨by decide +kernel, by decide +kernel⟩
  have hat73 : cl73.slots[((21 : Int32)).toNatClampNeg]? = some (.int (110 : Int32)) := Has.at Hh73 hin73 rfl
  obtain ⟨cl74, Ar74, -, Sz74, -, Hh74, -⟩ := id V7
  have hin74 : ¬ ((21 : Int32) < 0 ∨ cl74.slots.size ≤ ((21 : Int32)).toNatClampNeg) := inb_of Sz74 ⟨by decide +kernel, by decide +kernel⟩
  have hat74 : cl74.slots[((21 : Int32)).toNatClampNeg]? = some (.int (110 : Int32)) := Has.at Hh74 hin74 rfl
  obtain ⟨cl75, Ar75, -, Sz75, Nn75, -, -⟩ := id V4
  obtain ⟨cl76, Ar76, -, Sz76, -, Hh76, -⟩ := id V4
  have hin76 : ¬ ((22 : Int32) < 0 ∨ cl76.slots.size ≤ ((22 : Int32)).toNatClampNeg) := inb_of Sz76 ⟨by decide +kernel, by decide +kernel⟩
  have hat76 : cl76.slots[((22 : Int32)).toNatClampNeg]? = some (.int (100 : Int32)) := Has.at Hh76 hin76 rfl
  obtain ⟨cl77, Ar77, -, Sz77, -, Hh77, -⟩ := id V7
  have hin77 : ¬ ((22 : Int32) < 0 ∨ cl77.slots.size ≤ ((22 : Int32)).toNatClampNeg) := inb_of Sz77 ⟨by decide +kernel, by decide +kernel⟩
  have hat77 : cl77.slots[((22 : Int32)).toNatClampNeg]? = some (.int (100 : Int32)) := Has.at Hh77 hin77 rfl
  obtain ⟨cl78, Ar78, -, Sz78, Nn78, -, -⟩ := id V4
  obtain ⟨cl79, Ar79, -, Sz79, -, Hh79, -⟩ := id V4
  have hin79 : ¬ ((23 : Int32) < 0 ∨ cl79.slots.size ≤ ((23 : Int32)).toNatClampNeg) := inb_of Sz79 ⟨by decide +kernel, by decide +kernel⟩
  have hat79 : cl79.slots[((23 : Int32)).toNatClampNeg]? = some (.int (32 : Int32)) := Has.at Hh79 hin79 rfl
  obtain ⟨cl80, Ar80, -, Sz80, -, Hh80, -⟩ := id V7
  have hin80 : ¬ ((23 : Int32) < 0 ∨ cl80.slots.size ≤ ((23 : Int32)).toNatClampNeg) := inb_of Sz80 ⟨by decide +kernel, by decide +kernel⟩
  have hat80 : cl80.slots[((23 : Int32)).toNatClampNeg]? = some (.int (32 : Int32)) := Has.at Hh80 hin80 rfl
  obtain ⟨cl81, Ar81, -, Sz81, Nn81, -, -⟩ := id V4
  obtain ⟨cl82, Ar82, -, Sz82, -, Hh82, -⟩ := id V4
  have hin82 : ¬ ((24 : Int32) < 0 ∨ cl82.slots.size ≤ ((24 : Int32)).toNatClampNeg) := inb_of Sz82 ⟨by decide +kernel, by decide +kernel⟩
  have hat82 : cl82.slots[((24 : Int32)).toNatClampNeg]? = some (.int (67 : Int32)) := Has.at Hh82 hin82 rfl
  obtain ⟨cl83, Ar83, -, Sz83, -, Hh83, -⟩ := id V7
  have hin83 : ¬ ((24 : Int32) < 0 ∨ cl83.slots.size ≤ ((24 : Int32)).toNatClampNeg) := inb_of Sz83 ⟨by decide +kernel, by decide +kernel⟩
  have hat83 : cl83.slots[((24 : Int32)).toNatClampNeg]? = some (.int (67 : Int32)) := Has.at Hh83 hin83 rfl
  obtain ⟨cl84, Ar84, -, Sz84, Nn84, -, -⟩ := id V4
  obtain ⟨cl85, Ar85, -, Sz85, -, Hh85, -⟩ := id V4
  have hin85 : ¬ ((25 : Int32) < 0 ∨ cl85.slots.size ≤ ((25 : Int32)).toNatClampNeg) := inb_of Sz85 ⟨by decide +kernel, by decide +kernel⟩
  have hat85 : cl85.slots[((25 : Int32)).toNatClampNeg]? = some (.int (111 : Int32)) := Has.at Hh85 hin85 rfl
  obtain ⟨cl86, Ar86, -, Sz86, -, Hh86, -⟩ := id V7
  have hin86 : ¬ ((25 : Int32) < 0 ∨ cl86.slots.size ≤ ((25 : Int32)).toNatClampNeg) := inb_of Sz86 ⟨by decide +kernel, by decide +kernel⟩
  have hat86 : cl86.slots[((25 : Int32)).toNatClampNeg]? = some (.int (111 : Int32)) := Has.at Hh86 hin86 rfl
  obtain ⟨cl87, Ar87, -, Sz87, Nn87, -, -⟩ := id V4
  obtain ⟨cl88, Ar88, -, Sz88, -, Hh88, -⟩ := id V4
  have hin88 : ¬ ((26 : Int32) < 0 ∨ cl88.slots.size ≤ ((26 : Int32)).toNatClampNeg) := inb_of Sz88 ⟨by decide +kernel, by decide +kernel⟩
  have hat88 : cl88.slots[((26 : Int32)).toNatClampNeg]? = some (.int (110 : Int32)) := Has.at Hh88 hin88 rfl
  obtain ⟨cl89, Ar89, -, Sz89, -, Hh89, -⟩ := id V7
  have hin89 : ¬ ((26 : Int32) < 0 ∨ cl89.slots.size ≤ ((26 : Int32)).toNatClampNeg) := inb_of Sz89 ⟨by decide +kernel, by decide +kernel⟩
  have hat89 : cl89.slots[((26 : Int32)).toNatClampNeg]? = some (.int (110 : Int32)) := Has.at Hh89 hin89 rfl
  obtain ⟨cl90, Ar90, -, Sz90, Nn90, -, -⟩ := id V4
  obtain ⟨cl91, Ar91, -, Sz91, -, Hh91, -⟩ := id V4
  have hin91 : ¬ ((27 : Int32) < 0 ∨ cl91.slots.size ≤ ((27 : Int32)).toNatClampNeg) := inb_of Sz91 ⟨by decide +kernel, by decide +kernel⟩
  have hat91 : cl91.slots[((27 : Int32)).toNatClampNeg]? = some (.int (116 : Int32)) := Has.at Hh91 hin91 rfl
  obtain ⟨cl92, Ar92, -, Sz92, -, Hh92, -⟩ := id V7
  have hin92 : ¬ ((27 : Int32) < 0 ∨ cl92.slots.size ≤ ((27 : Int32)).toNatClampNeg) := inb_of Sz92 ⟨by decide +kernel, by decide +kernel⟩
  have hat92 : cl92.slots[((27 : Int32)).toNatClampNeg]? = some (.int (116 : Int32)) := Has.at Hh92 hin92 rfl
  obtain ⟨cl93, Ar93, -, Sz93, Nn93, -, -⟩ := id V4
  obtain ⟨cl94, Ar94, -, Sz94, -, Hh94, -⟩ := id V4
  have hin94 : ¬ ((28 : Int32) < 0 ∨ cl94.slots.size ≤ ((28 : Int32)).toNatClampNeg) := inb_of Sz94 ⟨by decide +kernel, by decide +kernel⟩
  have hat94 : cl94.slots[((28 : Int32)).toNatClampNeg]? = some (.int (114 : Int32)) := Has.at Hh94 hin94 rfl
  obtain ⟨cl95, Ar95, -, Sz95, -, Hh95, -⟩ := id V7
  have hin95 : ¬ ((28 : Int32) < 0 ∨ cl95.slots.size ≤ ((28 : Int32)).toNatClampNeg) := inb_of Sz95 ⟨by decide +kernel, by decide +kernel⟩
  have hat95 : cl95.slots[((28 : Int32)).toNatClampNeg]? = some (.int (114 : Int32)) := Has.at Hh95 hin95 rfl
  obtain ⟨cl96, Ar96, -, Sz96, Nn96, -, -⟩ := id V4
  obtain ⟨cl97, Ar97, -, Sz97, -, Hh97, -⟩ := id V4
  have hin97 : ¬ ((29 : Int32) < 0 ∨ cl97.slots.size ≤ ((29 : Int32)).toNatClampNeg) := inb_of Sz97 ⟨by decide +kernel, by decide +kernel⟩
  have hat97 : cl97.slots[((29 : Int32)).toNatClampNeg]? = some (.int (111 : Int32)) := Has.at Hh97 hin97 rfl
  obtain ⟨cl98, Ar98, -, Sz98, -, Hh98, -⟩ := id V7
  have hin98 : ¬ ((29 : Int32) < 0 ∨ cl98.slots.size ≤ ((29 : Int32)).toNatClampNeg) := inb_of Sz98 ⟨by decide +kernel, by decide +kernel⟩
  have hat98 : cl98.slots[((29 : Int32)).toNatClampNeg]? = some (.int (111 : Int32)) := Has.at Hh98 hin98 rfl
  obtain ⟨cl99, Ar99, -, Sz99, Nn99, -, -⟩ := id V4
  obtain ⟨cl100, Ar100, -, Sz100, -, Hh100, -⟩ := id V4
  have hin100 : ¬ ((30 : Int32) < 0 ∨ cl100.slots.size ≤ ((30 : Int32)).toNatClampNeg) := inb_of Sz100 ⟨by decide +kernel, by decide +kernel⟩
  have hat100 : cl100.slots[((30 : Int32)).toNatClampNeg]? = some (.int (108 : Int32)) := Has.at Hh100 hin100 rfl
  obtain ⟨cl101, Ar101, -, Sz101, -, Hh101, -⟩ := id V7
  have hin101 : ¬ ((30 : Int32) < 0 ∨ cl101.slots.size ≤ ((30 : Int32)).toNatClampNeg) := inb_of Sz101 ⟨by decide +kernel, by decide +kernel⟩
  have hat101 : cl101.slots[((30 : Int32)).toNatClampNeg]? = some (.int (108 : Int32)) := Has.at Hh101 hin101 rfl
  obtain ⟨cl102, Ar102, -, Sz102, Nn102, -, -⟩ := id V4
  obtain ⟨fs, hr, hrun, hended, hW, hsame⟩ := X0.leave (v := some (.int (1 : Int32))) (fun h => by rw [Bd.returns] at h; cases h)
  refine ⟨_, _, pre0 _ ?_, hrun, hended, _, _, rfl, ?_, ⟨_, rfl⟩, hW, hsame.mono (by decide) (by decide)⟩
  · show Steps p.tables e below (s₁.setTop (mkF m 0 #[.val (.ref a1), .val (.ref a2), .unset] [])) _
    refine XS.aloadN X0.here hx rfl (hb hby d31_0) rfl rfl ?_
    refine X0.arraylength hx (by rw [e0]; exact Ar5.1) (State.isArrayOf_alike hZ.alike Ar5.2.1) (g := (mkF m 1 #[.val (.ref a1), .val (.ref a2), .unset] [(.ref a1)])) rfl rfl (hb hby d31_1) _ ?_
    rw [len_of Sz5 Nn5]
    refine XS.aloadN X0.here hx rfl (hb hby d31_2) rfl rfl ?_
    refine X0.arraylength hx (by rw [e0]; exact Ar8.1) (State.isArrayOf_alike hZ.alike Ar8.2.1) (g := (mkF m 3 #[.val (.ref a1), .val (.ref a2), .unset] [(.ref a2), (.int (31 : Int32))])) rfl rfl (hb hby d31_3) _ ?_
    rw [len_of Sz8 Nn8]
    refine XS.icmpNo X0.here hx rfl (hb hby d31_4) rfl (teq (by decide +kernel : (31 : Int32) = (31 : Int32))).2 ?_
    refine XS.iconst X0.here hx rfl (hb hby d31_7) ?_
    refine XS.istoreN X0.here hx rfl (hb hby d31_8) rfl (l' := #[.val (.ref a1), .val (.ref a2), .val (.int (0 : Int32))]) rfl ?_
    refine XS.iloadN X0.here hx rfl (hb hby d31_9) rfl ?_
    refine XS.aloadN X0.here hx rfl (hb hby d31_10) rfl rfl ?_
    show Steps p.tables e below (s₁.setTop (mkF m 11 #[.val (.ref a1), .val (.ref a2), .val (.int (0 : Int32))] [(.ref a1), (.int (0 : Int32))])) _
    refine X0.arraylength hx (by rw [e0]; exact Ar9.1) (State.isArrayOf_alike hZ.alike Ar9.2.1) (g := (mkF m 11 #[.val (.ref a1), .val (.ref a2), .val (.int (0 : Int32))] [(.ref a1), (.int (0 : Int32))])) rfl rfl (hb hby d31_11) _ ?_
    rw [len_of Sz9 Nn9]
    refine XS.icmpNo X0.here hx rfl (hb hby d31_12) rfl (tlt (by decide +kernel : (0 : Int32) < (31 : Int32))).2.1 ?_
    refine XS.aloadN X0.here hx rfl (hb hby d31_15) rfl rfl ?_
    refine XS.iloadN X0.here hx rfl (hb hby d31_16) rfl ?_
    refine X0.baloadBytes hx (j := (0 : Int32)) (v := (.int (82 : Int32))) (by rw [e0]; exact Ar10.1) (State.isArrayOf_alike hZ.alike Ar10.2.1) Ar10.2.2 hin10 hat10 (g := (mkF m 17 #[.val (.ref a1), .val (.ref a2), .val (.int (0 : Int32))] [(.int (0 : Int32)), (.ref a1)])) rfl rfl (hb hby d31_17) _ ?_
    refine XS.aloadN X0.here hx rfl (hb hby d31_18) rfl rfl ?_
    refine XS.iloadN X0.here hx rfl (hb hby d31_19) rfl ?_
    refine X0.baloadBytes hx (j := (0 : Int32)) (v := (.int (82 : Int32))) (by rw [e0]; exact Ar11.1) (State.isArrayOf_alike hZ.alike Ar11.2.1) Ar11.2.2 hin11 hat11 (g := (mkF m 20 #[.val (.ref a1), .val (.ref a2), .val (.int (0 : Int32))] [(.int (0 : Int32)), (.ref a2), (.int (82 : Int32))])) rfl rfl (hb hby d31_20) _ ?_
    refine XS.icmpYes X0.here hx rfl (pc0 := 21) (pc' := 26) rfl (hb hby d31_21) rfl (teq (by decide +kernel : (82 : Int32) = (82 : Int32))).1 (by decide) (by decide) ?_
    show Steps p.tables e below (s₁.setTop (mkF m 26 #[.val (.ref a1), .val (.ref a2), .val (.int (0 : Int32))] [])) _
    refine XS.iinc X0.here hx rfl (hb hby d31_26) rfl (l' := #[.val (.ref a1), .val (.ref a2), .val (.int ((0 : Int32) + (1 : Int32)))]) rfl ?_
    show Steps p.tables e below (s₁.setTop (mkF m 29 #[.val (.ref a1), .val (.ref a2), .val (.int ((0 : Int32) + (1 : Int32)))] [])) _
    rw [(by decide +kernel : ((0 : Int32) + (1 : Int32)) = (1 : Int32))]
    refine XS.goto X0.here hx rfl (pc0 := 29) (pc' := 9) rfl (hb hby d31_29) (by decide) (by decide) ?_
    refine XS.iloadN X0.here hx rfl (hb hby d31_9) rfl ?_
    refine XS.aloadN X0.here hx rfl (hb hby d31_10) rfl rfl ?_
    refine X0.arraylength hx (by rw [e0]; exact Ar12.1) (State.isArrayOf_alike hZ.alike Ar12.2.1) (g := (mkF m 11 #[.val (.ref a1), .val (.ref a2), .val (.int (1 : Int32))] [(.ref a1), (.int (1 : Int32))])) rfl rfl (hb hby d31_11) _ ?_
    rw [len_of Sz12 Nn12]
    refine XS.icmpNo X0.here hx rfl (hb hby d31_12) rfl (tlt (by decide +kernel : (1 : Int32) < (31 : Int32))).2.1 ?_
    refine XS.aloadN X0.here hx rfl (hb hby d31_15) rfl rfl ?_
    refine XS.iloadN X0.here hx rfl (hb hby d31_16) rfl ?_
    refine X0.baloadBytes hx (j := (1 : Int32)) (v := (.int (101 : Int32))) (by rw [e0]; exact Ar13.1) (State.isArrayOf_alike hZ.alike Ar13.2.1) Ar13.2.2 hin13 hat13 (g := (mkF m 17 #[.val (.ref a1), .val (.ref a2), .val (.int (1 : Int32))] [(.int (1 : Int32)), (.ref a1)])) rfl rfl (hb hby d31_17) _ ?_
    show Steps p.tables e below (s₁.setTop (mkF m 18 #[.val (.ref a1), .val (.ref a2), .val (.int (1 : Int32))] [(.int (101 : Int32))])) _
    refine XS.aloadN X0.here hx rfl (hb hby d31_18) rfl rfl ?_
    refine XS.iloadN X0.here hx rfl (hb hby d31_19) rfl ?_
    refine X0.baloadBytes hx (j := (1 : Int32)) (v := (.int (101 : Int32))) (by rw [e0]; exact Ar14.1) (State.isArrayOf_alike hZ.alike Ar14.2.1) Ar14.2.2 hin14 hat14 (g := (mkF m 20 #[.val (.ref a1), .val (.ref a2), .val (.int (1 : Int32))] [(.int (1 : Int32)), (.ref a2), (.int (101 : Int32))])) rfl rfl (hb hby d31_20) _ ?_
    refine XS.icmpYes X0.here hx rfl (pc0 := 21) (pc' := 26) rfl (hb hby d31_21) rfl (teq (by decide +kernel : (101 : Int32) = (101 : Int32))).1 (by decide) (by decide) ?_
    refine XS.iinc X0.here hx rfl (hb hby d31_26) rfl (l' := #[.val (.ref a1), .val (.ref a2), .val (.int ((1 : Int32) + (1 : Int32)))]) rfl ?_
    show Steps p.tables e below (s₁.setTop (mkF m 29 #[.val (.ref a1), .val (.ref a2), .val (.int ((1 : Int32) + (1 : Int32)))] [])) _
    rw [(by decide +kernel : ((1 : Int32) + (1 : Int32)) = (2 : Int32))]
    refine XS.goto X0.here hx rfl (pc0 := 29) (pc' := 9) rfl (hb hby d31_29) (by decide) (by decide) ?_
    refine XS.iloadN X0.here hx rfl (hb hby d31_9) rfl ?_
    refine XS.aloadN X0.here hx rfl (hb hby d31_10) rfl rfl ?_
    refine X0.arraylength hx (by rw [e0]; exact Ar15.1) (State.isArrayOf_alike hZ.alike Ar15.2.1) (g := (mkF m 11 #[.val (.ref a1), .val (.ref a2), .val (.int (2 : Int32))] [(.ref a1), (.int (2 : Int32))])) rfl rfl (hb hby d31_11) _ ?_
    rw [len_of Sz15 Nn15]
    refine XS.icmpNo X0.here hx rfl (hb hby d31_12) rfl (tlt (by decide +kernel : (2 : Int32) < (31 : Int32))).2.1 ?_
    refine XS.aloadN X0.here hx rfl (hb hby d31_15) rfl rfl ?_
    refine XS.iloadN X0.here hx rfl (hb hby d31_16) rfl ?_
    refine X0.baloadBytes hx (j := (2 : Int32)) (v := (.int (97 : Int32))) (by rw [e0]; exact Ar16.1) (State.isArrayOf_alike hZ.alike Ar16.2.1) Ar16.2.2 hin16 hat16 (g := (mkF m 17 #[.val (.ref a1), .val (.ref a2), .val (.int (2 : Int32))] [(.int (2 : Int32)), (.ref a1)])) rfl rfl (hb hby d31_17) _ ?_
    show Steps p.tables e below (s₁.setTop (mkF m 18 #[.val (.ref a1), .val (.ref a2), .val (.int (2 : Int32))] [(.int (97 : Int32))])) _
    refine XS.aloadN X0.here hx rfl (hb hby d31_18) rfl rfl ?_
    refine XS.iloadN X0.here hx rfl (hb hby d31_19) rfl ?_
    refine X0.baloadBytes hx (j := (2 : Int32)) (v := (.int (97 : Int32))) (by rw [e0]; exact Ar17.1) (State.isArrayOf_alike hZ.alike Ar17.2.1) Ar17.2.2 hin17 hat17 (g := (mkF m 20 #[.val (.ref a1), .val (.ref a2), .val (.int (2 : Int32))] [(.int (2 : Int32)), (.ref a2), (.int (97 : Int32))])) rfl rfl (hb hby d31_20) _ ?_
    refine XS.icmpYes X0.here hx rfl (pc0 := 21) (pc' := 26) rfl (hb hby d31_21) rfl (teq (by decide +kernel : (97 : Int32) = (97 : Int32))).1 (by decide) (by decide) ?_
    refine XS.iinc X0.here hx rfl (hb hby d31_26) rfl (l' := #[.val (.ref a1), .val (.ref a2), .val (.int ((2 : Int32) + (1 : Int32)))]) rfl ?_
    show Steps p.tables e below (s₁.setTop (mkF m 29 #[.val (.ref a1), .val (.ref a2), .val (.int ((2 : Int32) + (1 : Int32)))] [])) _
    rw [(by decide +kernel : ((2 : Int32) + (1 : Int32)) = (3 : Int32))]
    refine XS.goto X0.here hx rfl (pc0 := 29) (pc' := 9) rfl (hb hby d31_29) (by decide) (by decide) ?_
    refine XS.iloadN X0.here hx rfl (hb hby d31_9) rfl ?_
    refine XS.aloadN X0.here hx rfl (hb hby d31_10) rfl rfl ?_
    refine X0.arraylength hx (by rw [e0]; exact Ar18.1) (State.isArrayOf_alike hZ.alike Ar18.2.1) (g := (mkF m 11 #[.val (.ref a1), .val (.ref a2), .val (.int (3 : Int32))] [(.ref a1), (.int (3 : Int32))])) rfl rfl (hb hby d31_11) _ ?_
    rw [len_of Sz18 Nn18]
    refine XS.icmpNo X0.here hx rfl (hb hby d31_12) rfl (tlt (by decide +kernel : (3 : Int32) < (31 : Int32))).2.1 ?_
    refine XS.aloadN X0.here hx rfl (hb hby d31_15) rfl rfl ?_
    refine XS.iloadN X0.here hx rfl (hb hby d31_16) rfl ?_
    refine X0.baloadBytes hx (j := (3 : Int32)) (v := (.int (100 : Int32))) (by rw [e0]; exact Ar19.1) (State.isArrayOf_alike hZ.alike Ar19.2.1) Ar19.2.2 hin19 hat19 (g := (mkF m 17 #[.val (.ref a1), .val (.ref a2), .val (.int (3 : Int32))] [(.int (3 : Int32)), (.ref a1)])) rfl rfl (hb hby d31_17) _ ?_
    show Steps p.tables e below (s₁.setTop (mkF m 18 #[.val (.ref a1), .val (.ref a2), .val (.int (3 : Int32))] [(.int (100 : Int32))])) _
    refine XS.aloadN X0.here hx rfl (hb hby d31_18) rfl rfl ?_
    refine XS.iloadN X0.here hx rfl (hb hby d31_19) rfl ?_
    refine X0.baloadBytes hx (j := (3 : Int32)) (v := (.int (100 : Int32))) (by rw [e0]; exact Ar20.1) (State.isArrayOf_alike hZ.alike Ar20.2.1) Ar20.2.2 hin20 hat20 (g := (mkF m 20 #[.val (.ref a1), .val (.ref a2), .val (.int (3 : Int32))] [(.int (3 : Int32)), (.ref a2), (.int (100 : Int32))])) rfl rfl (hb hby d31_20) _ ?_
    refine XS.icmpYes X0.here hx rfl (pc0 := 21) (pc' := 26) rfl (hb hby d31_21) rfl (teq (by decide +kernel : (100 : Int32) = (100 : Int32))).1 (by decide) (by decide) ?_
    refine XS.iinc X0.here hx rfl (hb hby d31_26) rfl (l' := #[.val (.ref a1), .val (.ref a2), .val (.int ((3 : Int32) + (1 : Int32)))]) rfl ?_
    show Steps p.tables e below (s₁.setTop (mkF m 29 #[.val (.ref a1), .val (.ref a2), .val (.int ((3 : Int32) + (1 : Int32)))] [])) _
    rw [(by decide +kernel : ((3 : Int32) + (1 : Int32)) = (4 : Int32))]
    refine XS.goto X0.here hx rfl (pc0 := 29) (pc' := 9) rfl (hb hby d31_29) (by decide) (by decide) ?_
    refine XS.iloadN X0.here hx rfl (hb hby d31_9) rfl ?_
    refine XS.aloadN X0.here hx rfl (hb hby d31_10) rfl rfl ?_
    refine X0.arraylength hx (by rw [e0]; exact Ar21.1) (State.isArrayOf_alike hZ.alike Ar21.2.1) (g := (mkF m 11 #[.val (.ref a1), .val (.ref a2), .val (.int (4 : Int32))] [(.ref a1), (.int (4 : Int32))])) rfl rfl (hb hby d31_11) _ ?_
    rw [len_of Sz21 Nn21]
    refine XS.icmpNo X0.here hx rfl (hb hby d31_12) rfl (tlt (by decide +kernel : (4 : Int32) < (31 : Int32))).2.1 ?_
    refine XS.aloadN X0.here hx rfl (hb hby d31_15) rfl rfl ?_
    refine XS.iloadN X0.here hx rfl (hb hby d31_16) rfl ?_
    refine X0.baloadBytes hx (j := (4 : Int32)) (v := (.int (44 : Int32))) (by rw [e0]; exact Ar22.1) (State.isArrayOf_alike hZ.alike Ar22.2.1) Ar22.2.2 hin22 hat22 (g := (mkF m 17 #[.val (.ref a1), .val (.ref a2), .val (.int (4 : Int32))] [(.int (4 : Int32)), (.ref a1)])) rfl rfl (hb hby d31_17) _ ?_
    show Steps p.tables e below (s₁.setTop (mkF m 18 #[.val (.ref a1), .val (.ref a2), .val (.int (4 : Int32))] [(.int (44 : Int32))])) _
    refine XS.aloadN X0.here hx rfl (hb hby d31_18) rfl rfl ?_
    refine XS.iloadN X0.here hx rfl (hb hby d31_19) rfl ?_
    refine X0.baloadBytes hx (j := (4 : Int32)) (v := (.int (44 : Int32))) (by rw [e0]; exact Ar23.1) (State.isArrayOf_alike hZ.alike Ar23.2.1) Ar23.2.2 hin23 hat23 (g := (mkF m 20 #[.val (.ref a1), .val (.ref a2), .val (.int (4 : Int32))] [(.int (4 : Int32)), (.ref a2), (.int (44 : Int32))])) rfl rfl (hb hby d31_20) _ ?_
    refine XS.icmpYes X0.here hx rfl (pc0 := 21) (pc' := 26) rfl (hb hby d31_21) rfl (teq (by decide +kernel : (44 : Int32) = (44 : Int32))).1 (by decide) (by decide) ?_
    refine XS.iinc X0.here hx rfl (hb hby d31_26) rfl (l' := #[.val (.ref a1), .val (.ref a2), .val (.int ((4 : Int32) + (1 : Int32)))]) rfl ?_
    show Steps p.tables e below (s₁.setTop (mkF m 29 #[.val (.ref a1), .val (.ref a2), .val (.int ((4 : Int32) + (1 : Int32)))] [])) _
    rw [(by decide +kernel : ((4 : Int32) + (1 : Int32)) = (5 : Int32))]
    refine XS.goto X0.here hx rfl (pc0 := 29) (pc' := 9) rfl (hb hby d31_29) (by decide) (by decide) ?_
    refine XS.iloadN X0.here hx rfl (hb hby d31_9) rfl ?_
    refine XS.aloadN X0.here hx rfl (hb hby d31_10) rfl rfl ?_
    refine X0.arraylength hx (by rw [e0]; exact Ar24.1) (State.isArrayOf_alike hZ.alike Ar24.2.1) (g := (mkF m 11 #[.val (.ref a1), .val (.ref a2), .val (.int (5 : Int32))] [(.ref a1), (.int (5 : Int32))])) rfl rfl (hb hby d31_11) _ ?_
    rw [len_of Sz24 Nn24]
    refine XS.icmpNo X0.here hx rfl (hb hby d31_12) rfl (tlt (by decide +kernel : (5 : Int32) < (31 : Int32))).2.1 ?_
    refine XS.aloadN X0.here hx rfl (hb hby d31_15) rfl rfl ?_
    refine XS.iloadN X0.here hx rfl (hb hby d31_16) rfl ?_
    refine X0.baloadBytes hx (j := (5 : Int32)) (v := (.int (32 : Int32))) (by rw [e0]; exact Ar25.1) (State.isArrayOf_alike hZ.alike Ar25.2.1) Ar25.2.2 hin25 hat25 (g := (mkF m 17 #[.val (.ref a1), .val (.ref a2), .val (.int (5 : Int32))] [(.int (5 : Int32)), (.ref a1)])) rfl rfl (hb hby d31_17) _ ?_
    show Steps p.tables e below (s₁.setTop (mkF m 18 #[.val (.ref a1), .val (.ref a2), .val (.int (5 : Int32))] [(.int (32 : Int32))])) _
    refine XS.aloadN X0.here hx rfl (hb hby d31_18) rfl rfl ?_
    refine XS.iloadN X0.here hx rfl (hb hby d31_19) rfl ?_
    refine X0.baloadBytes hx (j := (5 : Int32)) (v := (.int (32 : Int32))) (by rw [e0]; exact Ar26.1) (State.isArrayOf_alike hZ.alike Ar26.2.1) Ar26.2.2 hin26 hat26 (g := (mkF m 20 #[.val (.ref a1), .val (.ref a2), .val (.int (5 : Int32))] [(.int (5 : Int32)), (.ref a2), (.int (32 : Int32))])) rfl rfl (hb hby d31_20) _ ?_
    refine XS.icmpYes X0.here hx rfl (pc0 := 21) (pc' := 26) rfl (hb hby d31_21) rfl (teq (by decide +kernel : (32 : Int32) = (32 : Int32))).1 (by decide) (by decide) ?_
    refine XS.iinc X0.here hx rfl (hb hby d31_26) rfl (l' := #[.val (.ref a1), .val (.ref a2), .val (.int ((5 : Int32) + (1 : Int32)))]) rfl ?_
    show Steps p.tables e below (s₁.setTop (mkF m 29 #[.val (.ref a1), .val (.ref a2), .val (.int ((5 : Int32) + (1 : Int32)))] [])) _
    rw [(by decide +kernel : ((5 : Int32) + (1 : Int32)) = (6 : Int32))]
    refine XS.goto X0.here hx rfl (pc0 := 29) (pc' := 9) rfl (hb hby d31_29) (by decide) (by decide) ?_
    refine XS.iloadN X0.here hx rfl (hb hby d31_9) rfl ?_
    refine XS.aloadN X0.here hx rfl (hb hby d31_10) rfl rfl ?_
    refine X0.arraylength hx (by rw [e0]; exact Ar27.1) (State.isArrayOf_alike hZ.alike Ar27.2.1) (g := (mkF m 11 #[.val (.ref a1), .val (.ref a2), .val (.int (6 : Int32))] [(.ref a1), (.int (6 : Int32))])) rfl rfl (hb hby d31_11) _ ?_
    rw [len_of Sz27 Nn27]
    refine XS.icmpNo X0.here hx rfl (hb hby d31_12) rfl (tlt (by decide +kernel : (6 : Int32) < (31 : Int32))).2.1 ?_
    refine XS.aloadN X0.here hx rfl (hb hby d31_15) rfl rfl ?_
    refine XS.iloadN X0.here hx rfl (hb hby d31_16) rfl ?_
    refine X0.baloadBytes hx (j := (6 : Int32)) (v := (.int (87 : Int32))) (by rw [e0]; exact Ar28.1) (State.isArrayOf_alike hZ.alike Ar28.2.1) Ar28.2.2 hin28 hat28 (g := (mkF m 17 #[.val (.ref a1), .val (.ref a2), .val (.int (6 : Int32))] [(.int (6 : Int32)), (.ref a1)])) rfl rfl (hb hby d31_17) _ ?_
    show Steps p.tables e below (s₁.setTop (mkF m 18 #[.val (.ref a1), .val (.ref a2), .val (.int (6 : Int32))] [(.int (87 : Int32))])) _
    refine XS.aloadN X0.here hx rfl (hb hby d31_18) rfl rfl ?_
    refine XS.iloadN X0.here hx rfl (hb hby d31_19) rfl ?_
    refine X0.baloadBytes hx (j := (6 : Int32)) (v := (.int (87 : Int32))) (by rw [e0]; exact Ar29.1) (State.isArrayOf_alike hZ.alike Ar29.2.1) Ar29.2.2 hin29 hat29 (g := (mkF m 20 #[.val (.ref a1), .val (.ref a2), .val (.int (6 : Int32))] [(.int (6 : Int32)), (.ref a2), (.int (87 : Int32))])) rfl rfl (hb hby d31_20) _ ?_
    refine XS.icmpYes X0.here hx rfl (pc0 := 21) (pc' := 26) rfl (hb hby d31_21) rfl (teq (by decide +kernel : (87 : Int32) = (87 : Int32))).1 (by decide) (by decide) ?_
    refine XS.iinc X0.here hx rfl (hb hby d31_26) rfl (l' := #[.val (.ref a1), .val (.ref a2), .val (.int ((6 : Int32) + (1 : Int32)))]) rfl ?_
    show Steps p.tables e below (s₁.setTop (mkF m 29 #[.val (.ref a1), .val (.ref a2), .val (.int ((6 : Int32) + (1 : Int32)))] [])) _
    rw [(by decide +kernel : ((6 : Int32) + (1 : Int32)) = (7 : Int32))]
    refine XS.goto X0.here hx rfl (pc0 := 29) (pc' := 9) rfl (hb hby d31_29) (by decide) (by decide) ?_
    refine XS.iloadN X0.here hx rfl (hb hby d31_9) rfl ?_
    refine XS.aloadN X0.here hx rfl (hb hby d31_10) rfl rfl ?_
    refine X0.arraylength hx (by rw [e0]; exact Ar30.1) (State.isArrayOf_alike hZ.alike Ar30.2.1) (g := (mkF m 11 #[.val (.ref a1), .val (.ref a2), .val (.int (7 : Int32))] [(.ref a1), (.int (7 : Int32))])) rfl rfl (hb hby d31_11) _ ?_
    rw [len_of Sz30 Nn30]
    refine XS.icmpNo X0.here hx rfl (hb hby d31_12) rfl (tlt (by decide +kernel : (7 : Int32) < (31 : Int32))).2.1 ?_
    refine XS.aloadN X0.here hx rfl (hb hby d31_15) rfl rfl ?_
    refine XS.iloadN X0.here hx rfl (hb hby d31_16) rfl ?_
    refine X0.baloadBytes hx (j := (7 : Int32)) (v := (.int (114 : Int32))) (by rw [e0]; exact Ar31.1) (State.isArrayOf_alike hZ.alike Ar31.2.1) Ar31.2.2 hin31 hat31 (g := (mkF m 17 #[.val (.ref a1), .val (.ref a2), .val (.int (7 : Int32))] [(.int (7 : Int32)), (.ref a1)])) rfl rfl (hb hby d31_17) _ ?_
    show Steps p.tables e below (s₁.setTop (mkF m 18 #[.val (.ref a1), .val (.ref a2), .val (.int (7 : Int32))] [(.int (114 : Int32))])) _
    refine XS.aloadN X0.here hx rfl (hb hby d31_18) rfl rfl ?_
    refine XS.iloadN X0.here hx rfl (hb hby d31_19) rfl ?_
    refine X0.baloadBytes hx (j := (7 : Int32)) (v := (.int (114 : Int32))) (by rw [e0]; exact Ar32.1) (State.isArrayOf_alike hZ.alike Ar32.2.1) Ar32.2.2 hin32 hat32 (g := (mkF m 20 #[.val (.ref a1), .val (.ref a2), .val (.int (7 : Int32))] [(.int (7 : Int32)), (.ref a2), (.int (114 : Int32))])) rfl rfl (hb hby d31_20) _ ?_
    refine XS.icmpYes X0.here hx rfl (pc0 := 21) (pc' := 26) rfl (hb hby d31_21) rfl (teq (by decide +kernel : (114 : Int32) = (114 : Int32))).1 (by decide) (by decide) ?_
    refine XS.iinc X0.here hx rfl (hb hby d31_26) rfl (l' := #[.val (.ref a1), .val (.ref a2), .val (.int ((7 : Int32) + (1 : Int32)))]) rfl ?_
    show Steps p.tables e below (s₁.setTop (mkF m 29 #[.val (.ref a1), .val (.ref a2), .val (.int ((7 : Int32) + (1 : Int32)))] [])) _
    rw [(by decide +kernel : ((7 : Int32) + (1 : Int32)) = (8 : Int32))]
    refine XS.goto X0.here hx rfl (pc0 := 29) (pc' := 9) rfl (hb hby d31_29) (by decide) (by decide) ?_
    refine XS.iloadN X0.here hx rfl (hb hby d31_9) rfl ?_
    refine XS.aloadN X0.here hx rfl (hb hby d31_10) rfl rfl ?_
    refine X0.arraylength hx (by rw [e0]; exact Ar33.1) (State.isArrayOf_alike hZ.alike Ar33.2.1) (g := (mkF m 11 #[.val (.ref a1), .val (.ref a2), .val (.int (8 : Int32))] [(.ref a1), (.int (8 : Int32))])) rfl rfl (hb hby d31_11) _ ?_
    rw [len_of Sz33 Nn33]
    refine XS.icmpNo X0.here hx rfl (hb hby d31_12) rfl (tlt (by decide +kernel : (8 : Int32) < (31 : Int32))).2.1 ?_
    refine XS.aloadN X0.here hx rfl (hb hby d31_15) rfl rfl ?_
    refine XS.iloadN X0.here hx rfl (hb hby d31_16) rfl ?_
    refine X0.baloadBytes hx (j := (8 : Int32)) (v := (.int (105 : Int32))) (by rw [e0]; exact Ar34.1) (State.isArrayOf_alike hZ.alike Ar34.2.1) Ar34.2.2 hin34 hat34 (g := (mkF m 17 #[.val (.ref a1), .val (.ref a2), .val (.int (8 : Int32))] [(.int (8 : Int32)), (.ref a1)])) rfl rfl (hb hby d31_17) _ ?_
    show Steps p.tables e below (s₁.setTop (mkF m 18 #[.val (.ref a1), .val (.ref a2), .val (.int (8 : Int32))] [(.int (105 : Int32))])) _
    refine XS.aloadN X0.here hx rfl (hb hby d31_18) rfl rfl ?_
    refine XS.iloadN X0.here hx rfl (hb hby d31_19) rfl ?_
    refine X0.baloadBytes hx (j := (8 : Int32)) (v := (.int (105 : Int32))) (by rw [e0]; exact Ar35.1) (State.isArrayOf_alike hZ.alike Ar35.2.1) Ar35.2.2 hin35 hat35 (g := (mkF m 20 #[.val (.ref a1), .val (.ref a2), .val (.int (8 : Int32))] [(.int (8 : Int32)), (.ref a2), (.int (105 : Int32))])) rfl rfl (hb hby d31_20) _ ?_
    refine XS.icmpYes X0.here hx rfl (pc0 := 21) (pc' := 26) rfl (hb hby d31_21) rfl (teq (by decide +kernel : (105 : Int32) = (105 : Int32))).1 (by decide) (by decide) ?_
    refine XS.iinc X0.here hx rfl (hb hby d31_26) rfl (l' := #[.val (.ref a1), .val (.ref a2), .val (.int ((8 : Int32) + (1 : Int32)))]) rfl ?_
    show Steps p.tables e below (s₁.setTop (mkF m 29 #[.val (.ref a1), .val (.ref a2), .val (.int ((8 : Int32) + (1 : Int32)))] [])) _
    rw [(by decide +kernel : ((8 : Int32) + (1 : Int32)) = (9 : Int32))]
    refine XS.goto X0.here hx rfl (pc0 := 29) (pc' := 9) rfl (hb hby d31_29) (by decide) (by decide) ?_
    refine XS.iloadN X0.here hx rfl (hb hby d31_9) rfl ?_
    refine XS.aloadN X0.here hx rfl (hb hby d31_10) rfl rfl ?_
    refine X0.arraylength hx (by rw [e0]; exact Ar36.1) (State.isArrayOf_alike hZ.alike Ar36.2.1) (g := (mkF m 11 #[.val (.ref a1), .val (.ref a2), .val (.int (9 : Int32))] [(.ref a1), (.int (9 : Int32))])) rfl rfl (hb hby d31_11) _ ?_
    rw [len_of Sz36 Nn36]
    refine XS.icmpNo X0.here hx rfl (hb hby d31_12) rfl (tlt (by decide +kernel : (9 : Int32) < (31 : Int32))).2.1 ?_
    refine XS.aloadN X0.here hx rfl (hb hby d31_15) rfl rfl ?_
    refine XS.iloadN X0.here hx rfl (hb hby d31_16) rfl ?_
    refine X0.baloadBytes hx (j := (9 : Int32)) (v := (.int (116 : Int32))) (by rw [e0]; exact Ar37.1) (State.isArrayOf_alike hZ.alike Ar37.2.1) Ar37.2.2 hin37 hat37 (g := (mkF m 17 #[.val (.ref a1), .val (.ref a2), .val (.int (9 : Int32))] [(.int (9 : Int32)), (.ref a1)])) rfl rfl (hb hby d31_17) _ ?_
    show Steps p.tables e below (s₁.setTop (mkF m 18 #[.val (.ref a1), .val (.ref a2), .val (.int (9 : Int32))] [(.int (116 : Int32))])) _
    refine XS.aloadN X0.here hx rfl (hb hby d31_18) rfl rfl ?_
    refine XS.iloadN X0.here hx rfl (hb hby d31_19) rfl ?_
    refine X0.baloadBytes hx (j := (9 : Int32)) (v := (.int (116 : Int32))) (by rw [e0]; exact Ar38.1) (State.isArrayOf_alike hZ.alike Ar38.2.1) Ar38.2.2 hin38 hat38 (g := (mkF m 20 #[.val (.ref a1), .val (.ref a2), .val (.int (9 : Int32))] [(.int (9 : Int32)), (.ref a2), (.int (116 : Int32))])) rfl rfl (hb hby d31_20) _ ?_
    refine XS.icmpYes X0.here hx rfl (pc0 := 21) (pc' := 26) rfl (hb hby d31_21) rfl (teq (by decide +kernel : (116 : Int32) = (116 : Int32))).1 (by decide) (by decide) ?_
    refine XS.iinc X0.here hx rfl (hb hby d31_26) rfl (l' := #[.val (.ref a1), .val (.ref a2), .val (.int ((9 : Int32) + (1 : Int32)))]) rfl ?_
    show Steps p.tables e below (s₁.setTop (mkF m 29 #[.val (.ref a1), .val (.ref a2), .val (.int ((9 : Int32) + (1 : Int32)))] [])) _
    rw [(by decide +kernel : ((9 : Int32) + (1 : Int32)) = (10 : Int32))]
    refine XS.goto X0.here hx rfl (pc0 := 29) (pc' := 9) rfl (hb hby d31_29) (by decide) (by decide) ?_
    refine XS.iloadN X0.here hx rfl (hb hby d31_9) rfl ?_
    refine XS.aloadN X0.here hx rfl (hb hby d31_10) rfl rfl ?_
    refine X0.arraylength hx (by rw [e0]; exact Ar39.1) (State.isArrayOf_alike hZ.alike Ar39.2.1) (g := (mkF m 11 #[.val (.ref a1), .val (.ref a2), .val (.int (10 : Int32))] [(.ref a1), (.int (10 : Int32))])) rfl rfl (hb hby d31_11) _ ?_
    rw [len_of Sz39 Nn39]
    refine XS.icmpNo X0.here hx rfl (hb hby d31_12) rfl (tlt (by decide +kernel : (10 : Int32) < (31 : Int32))).2.1 ?_
    refine XS.aloadN X0.here hx rfl (hb hby d31_15) rfl rfl ?_
    refine XS.iloadN X0.here hx rfl (hb hby d31_16) rfl ?_
    refine X0.baloadBytes hx (j := (10 : Int32)) (v := (.int (101 : Int32))) (by rw [e0]; exact Ar40.1) (State.isArrayOf_alike hZ.alike Ar40.2.1) Ar40.2.2 hin40 hat40 (g := (mkF m 17 #[.val (.ref a1), .val (.ref a2), .val (.int (10 : Int32))] [(.int (10 : Int32)), (.ref a1)])) rfl rfl (hb hby d31_17) _ ?_
    show Steps p.tables e below (s₁.setTop (mkF m 18 #[.val (.ref a1), .val (.ref a2), .val (.int (10 : Int32))] [(.int (101 : Int32))])) _
    refine XS.aloadN X0.here hx rfl (hb hby d31_18) rfl rfl ?_
    refine XS.iloadN X0.here hx rfl (hb hby d31_19) rfl ?_
    refine X0.baloadBytes hx (j := (10 : Int32)) (v := (.int (101 : Int32))) (by rw [e0]; exact Ar41.1) (State.isArrayOf_alike hZ.alike Ar41.2.1) Ar41.2.2 hin41 hat41 (g := (mkF m 20 #[.val (.ref a1), .val (.ref a2), .val (.int (10 : Int32))] [(.int (10 : Int32)), (.ref a2), (.int (101 : Int32))])) rfl rfl (hb hby d31_20) _ ?_
    refine XS.icmpYes X0.here hx rfl (pc0 := 21) (pc' := 26) rfl (hb hby d31_21) rfl (teq (by decide +kernel : (101 : Int32) = (101 : Int32))).1 (by decide) (by decide) ?_
    refine XS.iinc X0.here hx rfl (hb hby d31_26) rfl (l' := #[.val (.ref a1), .val (.ref a2), .val (.int ((10 : Int32) + (1 : Int32)))]) rfl ?_
    show Steps p.tables e below (s₁.setTop (mkF m 29 #[.val (.ref a1), .val (.ref a2), .val (.int ((10 : Int32) + (1 : Int32)))] [])) _
    rw [(by decide +kernel : ((10 : Int32) + (1 : Int32)) = (11 : Int32))]
    refine XS.goto X0.here hx rfl (pc0 := 29) (pc' := 9) rfl (hb hby d31_29) (by decide) (by decide) ?_
    refine XS.iloadN X0.here hx rfl (hb hby d31_9) rfl ?_
    refine XS.aloadN X0.here hx rfl (hb hby d31_10) rfl rfl ?_
    refine X0.arraylength hx (by rw [e0]; exact Ar42.1) (State.isArrayOf_alike hZ.alike Ar42.2.1) (g := (mkF m 11 #[.val (.ref a1), .val (.ref a2), .val (.int (11 : Int32))] [(.ref a1), (.int (11 : Int32))])) rfl rfl (hb hby d31_11) _ ?_
    rw [len_of Sz42 Nn42]
    refine XS.icmpNo X0.here hx rfl (hb hby d31_12) rfl (tlt (by decide +kernel : (11 : Int32) < (31 : Int32))).2.1 ?_
    refine XS.aloadN X0.here hx rfl (hb hby d31_15) rfl rfl ?_
    refine XS.iloadN X0.here hx rfl (hb hby d31_16) rfl ?_
    refine X0.baloadBytes hx (j := (11 : Int32)) (v := (.int (44 : Int32))) (by rw [e0]; exact Ar43.1) (State.isArrayOf_alike hZ.alike Ar43.2.1) Ar43.2.2 hin43 hat43 (g := (mkF m 17 #[.val (.ref a1), .val (.ref a2), .val (.int (11 : Int32))] [(.int (11 : Int32)), (.ref a1)])) rfl rfl (hb hby d31_17) _ ?_
    show Steps p.tables e below (s₁.setTop (mkF m 18 #[.val (.ref a1), .val (.ref a2), .val (.int (11 : Int32))] [(.int (44 : Int32))])) _
    refine XS.aloadN X0.here hx rfl (hb hby d31_18) rfl rfl ?_
    refine XS.iloadN X0.here hx rfl (hb hby d31_19) rfl ?_
    refine X0.baloadBytes hx (j := (11 : Int32)) (v := (.int (44 : Int32))) (by rw [e0]; exact Ar44.1) (State.isArrayOf_alike hZ.alike Ar44.2.1) Ar44.2.2 hin44 hat44 (g := (mkF m 20 #[.val (.ref a1), .val (.ref a2), .val (.int (11 : Int32))] [(.int (11 : Int32)), (.ref a2), (.int (44 : Int32))])) rfl rfl (hb hby d31_20) _ ?_
    refine XS.icmpYes X0.here hx rfl (pc0 := 21) (pc' := 26) rfl (hb hby d31_21) rfl (teq (by decide +kernel : (44 : Int32) = (44 : Int32))).1 (by decide) (by decide) ?_
    refine XS.iinc X0.here hx rfl (hb hby d31_26) rfl (l' := #[.val (.ref a1), .val (.ref a2), .val (.int ((11 : Int32) + (1 : Int32)))]) rfl ?_
    show Steps p.tables e below (s₁.setTop (mkF m 29 #[.val (.ref a1), .val (.ref a2), .val (.int ((11 : Int32) + (1 : Int32)))] [])) _
    rw [(by decide +kernel : ((11 : Int32) + (1 : Int32)) = (12 : Int32))]
    refine XS.goto X0.here hx rfl (pc0 := 29) (pc' := 9) rfl (hb hby d31_29) (by decide) (by decide) ?_
    refine XS.iloadN X0.here hx rfl (hb hby d31_9) rfl ?_
    refine XS.aloadN X0.here hx rfl (hb hby d31_10) rfl rfl ?_
    refine X0.arraylength hx (by rw [e0]; exact Ar45.1) (State.isArrayOf_alike hZ.alike Ar45.2.1) (g := (mkF m 11 #[.val (.ref a1), .val (.ref a2), .val (.int (12 : Int32))] [(.ref a1), (.int (12 : Int32))])) rfl rfl (hb hby d31_11) _ ?_
    rw [len_of Sz45 Nn45]
    refine XS.icmpNo X0.here hx rfl (hb hby d31_12) rfl (tlt (by decide +kernel : (12 : Int32) < (31 : Int32))).2.1 ?_
    refine XS.aloadN X0.here hx rfl (hb hby d31_15) rfl rfl ?_
    refine XS.iloadN X0.here hx rfl (hb hby d31_16) rfl ?_
    refine X0.baloadBytes hx (j := (12 : Int32)) (v := (.int (32 : Int32))) (by rw [e0]; exact Ar46.1) (State.isArrayOf_alike hZ.alike Ar46.2.1) Ar46.2.2 hin46 hat46 (g := (mkF m 17 #[.val (.ref a1), .val (.ref a2), .val (.int (12 : Int32))] [(.int (12 : Int32)), (.ref a1)])) rfl rfl (hb hby d31_17) _ ?_
    show Steps p.tables e below (s₁.setTop (mkF m 18 #[.val (.ref a1), .val (.ref a2), .val (.int (12 : Int32))] [(.int (32 : Int32))])) _
    refine XS.aloadN X0.here hx rfl (hb hby d31_18) rfl rfl ?_
    refine XS.iloadN X0.here hx rfl (hb hby d31_19) rfl ?_
    refine X0.baloadBytes hx (j := (12 : Int32)) (v := (.int (32 : Int32))) (by rw [e0]; exact Ar47.1) (State.isArrayOf_alike hZ.alike Ar47.2.1) Ar47.2.2 hin47 hat47 (g := (mkF m 20 #[.val (.ref a1), .val (.ref a2), .val (.int (12 : Int32))] [(.int (12 : Int32)), (.ref a2), (.int (32 : Int32))])) rfl rfl (hb hby d31_20) _ ?_
    refine XS.icmpYes X0.here hx rfl (pc0 := 21) (pc' := 26) rfl (hb hby d31_21) rfl (teq (by decide +kernel : (32 : Int32) = (32 : Int32))).1 (by decide) (by decide) ?_
    refine XS.iinc X0.here hx rfl (hb hby d31_26) rfl (l' := #[.val (.ref a1), .val (.ref a2), .val (.int ((12 : Int32) + (1 : Int32)))]) rfl ?_
    show Steps p.tables e below (s₁.setTop (mkF m 29 #[.val (.ref a1), .val (.ref a2), .val (.int ((12 : Int32) + (1 : Int32)))] [])) _
    rw [(by decide +kernel : ((12 : Int32) + (1 : Int32)) = (13 : Int32))]
    refine XS.goto X0.here hx rfl (pc0 := 29) (pc' := 9) rfl (hb hby d31_29) (by decide) (by decide) ?_
    refine XS.iloadN X0.here hx rfl (hb hby d31_9) rfl ?_
    refine XS.aloadN X0.here hx rfl (hb hby d31_10) rfl rfl ?_
    refine X0.arraylength hx (by rw [e0]; exact Ar48.1) (State.isArrayOf_alike hZ.alike Ar48.2.1) (g := (mkF m 11 #[.val (.ref a1), .val (.ref a2), .val (.int (13 : Int32))] [(.ref a1), (.int (13 : Int32))])) rfl rfl (hb hby d31_11) _ ?_
    rw [len_of Sz48 Nn48]
    refine XS.icmpNo X0.here hx rfl (hb hby d31_12) rfl (tlt (by decide +kernel : (13 : Int32) < (31 : Int32))).2.1 ?_
    refine XS.aloadN X0.here hx rfl (hb hby d31_15) rfl rfl ?_
    refine XS.iloadN X0.here hx rfl (hb hby d31_16) rfl ?_
    refine X0.baloadBytes hx (j := (13 : Int32)) (v := (.int (65 : Int32))) (by rw [e0]; exact Ar49.1) (State.isArrayOf_alike hZ.alike Ar49.2.1) Ar49.2.2 hin49 hat49 (g := (mkF m 17 #[.val (.ref a1), .val (.ref a2), .val (.int (13 : Int32))] [(.int (13 : Int32)), (.ref a1)])) rfl rfl (hb hby d31_17) _ ?_
    show Steps p.tables e below (s₁.setTop (mkF m 18 #[.val (.ref a1), .val (.ref a2), .val (.int (13 : Int32))] [(.int (65 : Int32))])) _
    refine XS.aloadN X0.here hx rfl (hb hby d31_18) rfl rfl ?_
    refine XS.iloadN X0.here hx rfl (hb hby d31_19) rfl ?_
    refine X0.baloadBytes hx (j := (13 : Int32)) (v := (.int (65 : Int32))) (by rw [e0]; exact Ar50.1) (State.isArrayOf_alike hZ.alike Ar50.2.1) Ar50.2.2 hin50 hat50 (g := (mkF m 20 #[.val (.ref a1), .val (.ref a2), .val (.int (13 : Int32))] [(.int (13 : Int32)), (.ref a2), (.int (65 : Int32))])) rfl rfl (hb hby d31_20) _ ?_
    refine XS.icmpYes X0.here hx rfl (pc0 := 21) (pc' := 26) rfl (hb hby d31_21) rfl (teq (by decide +kernel : (65 : Int32) = (65 : Int32))).1 (by decide) (by decide) ?_
    refine XS.iinc X0.here hx rfl (hb hby d31_26) rfl (l' := #[.val (.ref a1), .val (.ref a2), .val (.int ((13 : Int32) + (1 : Int32)))]) rfl ?_
    show Steps p.tables e below (s₁.setTop (mkF m 29 #[.val (.ref a1), .val (.ref a2), .val (.int ((13 : Int32) + (1 : Int32)))] [])) _
    rw [(by decide +kernel : ((13 : Int32) + (1 : Int32)) = (14 : Int32))]
    refine XS.goto X0.here hx rfl (pc0 := 29) (pc' := 9) rfl (hb hby d31_29) (by decide) (by decide) ?_
    refine XS.iloadN X0.here hx rfl (hb hby d31_9) rfl ?_
    refine XS.aloadN X0.here hx rfl (hb hby d31_10) rfl rfl ?_
    refine X0.arraylength hx (by rw [e0]; exact Ar51.1) (State.isArrayOf_alike hZ.alike Ar51.2.1) (g := (mkF m 11 #[.val (.ref a1), .val (.ref a2), .val (.int (14 : Int32))] [(.ref a1), (.int (14 : Int32))])) rfl rfl (hb hby d31_11) _ ?_
    rw [len_of Sz51 Nn51]
    refine XS.icmpNo X0.here hx rfl (hb hby d31_12) rfl (tlt (by decide +kernel : (14 : Int32) < (31 : Int32))).2.1 ?_
    refine XS.aloadN X0.here hx rfl (hb hby d31_15) rfl rfl ?_
    refine XS.iloadN X0.here hx rfl (hb hby d31_16) rfl ?_
    refine X0.baloadBytes hx (j := (14 : Int32)) (v := (.int (112 : Int32))) (by rw [e0]; exact Ar52.1) (State.isArrayOf_alike hZ.alike Ar52.2.1) Ar52.2.2 hin52 hat52 (g := (mkF m 17 #[.val (.ref a1), .val (.ref a2), .val (.int (14 : Int32))] [(.int (14 : Int32)), (.ref a1)])) rfl rfl (hb hby d31_17) _ ?_
    show Steps p.tables e below (s₁.setTop (mkF m 18 #[.val (.ref a1), .val (.ref a2), .val (.int (14 : Int32))] [(.int (112 : Int32))])) _
    refine XS.aloadN X0.here hx rfl (hb hby d31_18) rfl rfl ?_
    refine XS.iloadN X0.here hx rfl (hb hby d31_19) rfl ?_
    refine X0.baloadBytes hx (j := (14 : Int32)) (v := (.int (112 : Int32))) (by rw [e0]; exact Ar53.1) (State.isArrayOf_alike hZ.alike Ar53.2.1) Ar53.2.2 hin53 hat53 (g := (mkF m 20 #[.val (.ref a1), .val (.ref a2), .val (.int (14 : Int32))] [(.int (14 : Int32)), (.ref a2), (.int (112 : Int32))])) rfl rfl (hb hby d31_20) _ ?_
    refine XS.icmpYes X0.here hx rfl (pc0 := 21) (pc' := 26) rfl (hb hby d31_21) rfl (teq (by decide +kernel : (112 : Int32) = (112 : Int32))).1 (by decide) (by decide) ?_
    refine XS.iinc X0.here hx rfl (hb hby d31_26) rfl (l' := #[.val (.ref a1), .val (.ref a2), .val (.int ((14 : Int32) + (1 : Int32)))]) rfl ?_
    show Steps p.tables e below (s₁.setTop (mkF m 29 #[.val (.ref a1), .val (.ref a2), .val (.int ((14 : Int32) + (1 : Int32)))] [])) _
    rw [(by decide +kernel : ((14 : Int32) + (1 : Int32)) = (15 : Int32))]
    refine XS.goto X0.here hx rfl (pc0 := 29) (pc' := 9) rfl (hb hby d31_29) (by decide) (by decide) ?_
    refine XS.iloadN X0.here hx rfl (hb hby d31_9) rfl ?_
    refine XS.aloadN X0.here hx rfl (hb hby d31_10) rfl rfl ?_
    refine X0.arraylength hx (by rw [e0]; exact Ar54.1) (State.isArrayOf_alike hZ.alike Ar54.2.1) (g := (mkF m 11 #[.val (.ref a1), .val (.ref a2), .val (.int (15 : Int32))] [(.ref a1), (.int (15 : Int32))])) rfl rfl (hb hby d31_11) _ ?_
    rw [len_of Sz54 Nn54]
    refine XS.icmpNo X0.here hx rfl (hb hby d31_12) rfl (tlt (by decide +kernel : (15 : Int32) < (31 : Int32))).2.1 ?_
    refine XS.aloadN X0.here hx rfl (hb hby d31_15) rfl rfl ?_
    refine XS.iloadN X0.here hx rfl (hb hby d31_16) rfl ?_
    refine X0.baloadBytes hx (j := (15 : Int32)) (v := (.int (112 : Int32))) (by rw [e0]; exact Ar55.1) (State.isArrayOf_alike hZ.alike Ar55.2.1) Ar55.2.2 hin55 hat55 (g := (mkF m 17 #[.val (.ref a1), .val (.ref a2), .val (.int (15 : Int32))] [(.int (15 : Int32)), (.ref a1)])) rfl rfl (hb hby d31_17) _ ?_
    show Steps p.tables e below (s₁.setTop (mkF m 18 #[.val (.ref a1), .val (.ref a2), .val (.int (15 : Int32))] [(.int (112 : Int32))])) _
    refine XS.aloadN X0.here hx rfl (hb hby d31_18) rfl rfl ?_
    refine XS.iloadN X0.here hx rfl (hb hby d31_19) rfl ?_
    refine X0.baloadBytes hx (j := (15 : Int32)) (v := (.int (112 : Int32))) (by rw [e0]; exact Ar56.1) (State.isArrayOf_alike hZ.alike Ar56.2.1) Ar56.2.2 hin56 hat56 (g := (mkF m 20 #[.val (.ref a1), .val (.ref a2), .val (.int (15 : Int32))] [(.int (15 : Int32)), (.ref a2), (.int (112 : Int32))])) rfl rfl (hb hby d31_20) _ ?_
    refine XS.icmpYes X0.here hx rfl (pc0 := 21) (pc' := 26) rfl (hb hby d31_21) rfl (teq (by decide +kernel : (112 : Int32) = (112 : Int32))).1 (by decide) (by decide) ?_
    refine XS.iinc X0.here hx rfl (hb hby d31_26) rfl (l' := #[.val (.ref a1), .val (.ref a2), .val (.int ((15 : Int32) + (1 : Int32)))]) rfl ?_
    show Steps p.tables e below (s₁.setTop (mkF m 29 #[.val (.ref a1), .val (.ref a2), .val (.int ((15 : Int32) + (1 : Int32)))] [])) _
    rw [(by decide +kernel : ((15 : Int32) + (1 : Int32)) = (16 : Int32))]
    refine XS.goto X0.here hx rfl (pc0 := 29) (pc' := 9) rfl (hb hby d31_29) (by decide) (by decide) ?_
    refine XS.iloadN X0.here hx rfl (hb hby d31_9) rfl ?_
    refine XS.aloadN X0.here hx rfl (hb hby d31_10) rfl rfl ?_
    refine X0.arraylength hx (by rw [e0]; exact Ar57.1) (State.isArrayOf_alike hZ.alike Ar57.2.1) (g := (mkF m 11 #[.val (.ref a1), .val (.ref a2), .val (.int (16 : Int32))] [(.ref a1), (.int (16 : Int32))])) rfl rfl (hb hby d31_11) _ ?_
    rw [len_of Sz57 Nn57]
    refine XS.icmpNo X0.here hx rfl (hb hby d31_12) rfl (tlt (by decide +kernel : (16 : Int32) < (31 : Int32))).2.1 ?_
    refine XS.aloadN X0.here hx rfl (hb hby d31_15) rfl rfl ?_
    refine XS.iloadN X0.here hx rfl (hb hby d31_16) rfl ?_
    refine X0.baloadBytes hx (j := (16 : Int32)) (v := (.int (101 : Int32))) (by rw [e0]; exact Ar58.1) (State.isArrayOf_alike hZ.alike Ar58.2.1) Ar58.2.2 hin58 hat58 (g := (mkF m 17 #[.val (.ref a1), .val (.ref a2), .val (.int (16 : Int32))] [(.int (16 : Int32)), (.ref a1)])) rfl rfl (hb hby d31_17) _ ?_
    show Steps p.tables e below (s₁.setTop (mkF m 18 #[.val (.ref a1), .val (.ref a2), .val (.int (16 : Int32))] [(.int (101 : Int32))])) _
    refine XS.aloadN X0.here hx rfl (hb hby d31_18) rfl rfl ?_
    refine XS.iloadN X0.here hx rfl (hb hby d31_19) rfl ?_
    refine X0.baloadBytes hx (j := (16 : Int32)) (v := (.int (101 : Int32))) (by rw [e0]; exact Ar59.1) (State.isArrayOf_alike hZ.alike Ar59.2.1) Ar59.2.2 hin59 hat59 (g := (mkF m 20 #[.val (.ref a1), .val (.ref a2), .val (.int (16 : Int32))] [(.int (16 : Int32)), (.ref a2), (.int (101 : Int32))])) rfl rfl (hb hby d31_20) _ ?_
    refine XS.icmpYes X0.here hx rfl (pc0 := 21) (pc' := 26) rfl (hb hby d31_21) rfl (teq (by decide +kernel : (101 : Int32) = (101 : Int32))).1 (by decide) (by decide) ?_
    refine XS.iinc X0.here hx rfl (hb hby d31_26) rfl (l' := #[.val (.ref a1), .val (.ref a2), .val (.int ((16 : Int32) + (1 : Int32)))]) rfl ?_
    show Steps p.tables e below (s₁.setTop (mkF m 29 #[.val (.ref a1), .val (.ref a2), .val (.int ((16 : Int32) + (1 : Int32)))] [])) _
    rw [(by decide +kernel : ((16 : Int32) + (1 : Int32)) = (17 : Int32))]
    refine XS.goto X0.here hx rfl (pc0 := 29) (pc' := 9) rfl (hb hby d31_29) (by decide) (by decide) ?_
    refine XS.iloadN X0.here hx rfl (hb hby d31_9) rfl ?_
    refine XS.aloadN X0.here hx rfl (hb hby d31_10) rfl rfl ?_
    refine X0.arraylength hx (by rw [e0]; exact Ar60.1) (State.isArrayOf_alike hZ.alike Ar60.2.1) (g := (mkF m 11 #[.val (.ref a1), .val (.ref a2), .val (.int (17 : Int32))] [(.ref a1), (.int (17 : Int32))])) rfl rfl (hb hby d31_11) _ ?_
    rw [len_of Sz60 Nn60]
    refine XS.icmpNo X0.here hx rfl (hb hby d31_12) rfl (tlt (by decide +kernel : (17 : Int32) < (31 : Int32))).2.1 ?_
    refine XS.aloadN X0.here hx rfl (hb hby d31_15) rfl rfl ?_
    refine XS.iloadN X0.here hx rfl (hb hby d31_16) rfl ?_
    refine X0.baloadBytes hx (j := (17 : Int32)) (v := (.int (110 : Int32))) (by rw [e0]; exact Ar61.1) (State.isArrayOf_alike hZ.alike Ar61.2.1) Ar61.2.2 hin61 hat61 (g := (mkF m 17 #[.val (.ref a1), .val (.ref a2), .val (.int (17 : Int32))] [(.int (17 : Int32)), (.ref a1)])) rfl rfl (hb hby d31_17) _ ?_
    show Steps p.tables e below (s₁.setTop (mkF m 18 #[.val (.ref a1), .val (.ref a2), .val (.int (17 : Int32))] [(.int (110 : Int32))])) _
    refine XS.aloadN X0.here hx rfl (hb hby d31_18) rfl rfl ?_
    refine XS.iloadN X0.here hx rfl (hb hby d31_19) rfl ?_
    refine X0.baloadBytes hx (j := (17 : Int32)) (v := (.int (110 : Int32))) (by rw [e0]; exact Ar62.1) (State.isArrayOf_alike hZ.alike Ar62.2.1) Ar62.2.2 hin62 hat62 (g := (mkF m 20 #[.val (.ref a1), .val (.ref a2), .val (.int (17 : Int32))] [(.int (17 : Int32)), (.ref a2), (.int (110 : Int32))])) rfl rfl (hb hby d31_20) _ ?_
    refine XS.icmpYes X0.here hx rfl (pc0 := 21) (pc' := 26) rfl (hb hby d31_21) rfl (teq (by decide +kernel : (110 : Int32) = (110 : Int32))).1 (by decide) (by decide) ?_
    refine XS.iinc X0.here hx rfl (hb hby d31_26) rfl (l' := #[.val (.ref a1), .val (.ref a2), .val (.int ((17 : Int32) + (1 : Int32)))]) rfl ?_
    show Steps p.tables e below (s₁.setTop (mkF m 29 #[.val (.ref a1), .val (.ref a2), .val (.int ((17 : Int32) + (1 : Int32)))] [])) _
    rw [(by decide +kernel : ((17 : Int32) + (1 : Int32)) = (18 : Int32))]
    refine XS.goto X0.here hx rfl (pc0 := 29) (pc' := 9) rfl (hb hby d31_29) (by decide) (by decide) ?_
    refine XS.iloadN X0.here hx rfl (hb hby d31_9) rfl ?_
    refine XS.aloadN X0.here hx rfl (hb hby d31_10) rfl rfl ?_
    refine X0.arraylength hx (by rw [e0]; exact Ar63.1) (State.isArrayOf_alike hZ.alike Ar63.2.1) (g := (mkF m 11 #[.val (.ref a1), .val (.ref a2), .val (.int (18 : Int32))] [(.ref a1), (.int (18 : Int32))])) rfl rfl (hb hby d31_11) _ ?_
    rw [len_of Sz63 Nn63]
    refine XS.icmpNo X0.here hx rfl (hb hby d31_12) rfl (tlt (by decide +kernel : (18 : Int32) < (31 : Int32))).2.1 ?_
    refine XS.aloadN X0.here hx rfl (hb hby d31_15) rfl rfl ?_
    refine XS.iloadN X0.here hx rfl (hb hby d31_16) rfl ?_
    refine X0.baloadBytes hx (j := (18 : Int32)) (v := (.int (100 : Int32))) (by rw [e0]; exact Ar64.1) (State.isArrayOf_alike hZ.alike Ar64.2.1) Ar64.2.2 hin64 hat64 (g := (mkF m 17 #[.val (.ref a1), .val (.ref a2), .val (.int (18 : Int32))] [(.int (18 : Int32)), (.ref a1)])) rfl rfl (hb hby d31_17) _ ?_
    show Steps p.tables e below (s₁.setTop (mkF m 18 #[.val (.ref a1), .val (.ref a2), .val (.int (18 : Int32))] [(.int (100 : Int32))])) _
    refine XS.aloadN X0.here hx rfl (hb hby d31_18) rfl rfl ?_
    refine XS.iloadN X0.here hx rfl (hb hby d31_19) rfl ?_
    refine X0.baloadBytes hx (j := (18 : Int32)) (v := (.int (100 : Int32))) (by rw [e0]; exact Ar65.1) (State.isArrayOf_alike hZ.alike Ar65.2.1) Ar65.2.2 hin65 hat65 (g := (mkF m 20 #[.val (.ref a1), .val (.ref a2), .val (.int (18 : Int32))] [(.int (18 : Int32)), (.ref a2), (.int (100 : Int32))])) rfl rfl (hb hby d31_20) _ ?_
    refine XS.icmpYes X0.here hx rfl (pc0 := 21) (pc' := 26) rfl (hb hby d31_21) rfl (teq (by decide +kernel : (100 : Int32) = (100 : Int32))).1 (by decide) (by decide) ?_
    refine XS.iinc X0.here hx rfl (hb hby d31_26) rfl (l' := #[.val (.ref a1), .val (.ref a2), .val (.int ((18 : Int32) + (1 : Int32)))]) rfl ?_
    show Steps p.tables e below (s₁.setTop (mkF m 29 #[.val (.ref a1), .val (.ref a2), .val (.int ((18 : Int32) + (1 : Int32)))] [])) _
    rw [(by decide +kernel : ((18 : Int32) + (1 : Int32)) = (19 : Int32))]
    refine XS.goto X0.here hx rfl (pc0 := 29) (pc' := 9) rfl (hb hby d31_29) (by decide) (by decide) ?_
    refine XS.iloadN X0.here hx rfl (hb hby d31_9) rfl ?_
    refine XS.aloadN X0.here hx rfl (hb hby d31_10) rfl rfl ?_
    refine X0.arraylength hx (by rw [e0]; exact Ar66.1) (State.isArrayOf_alike hZ.alike Ar66.2.1) (g := (mkF m 11 #[.val (.ref a1), .val (.ref a2), .val (.int (19 : Int32))] [(.ref a1), (.int (19 : Int32))])) rfl rfl (hb hby d31_11) _ ?_
    rw [len_of Sz66 Nn66]
    refine XS.icmpNo X0.here hx rfl (hb hby d31_12) rfl (tlt (by decide +kernel : (19 : Int32) < (31 : Int32))).2.1 ?_
    refine XS.aloadN X0.here hx rfl (hb hby d31_15) rfl rfl ?_
    refine XS.iloadN X0.here hx rfl (hb hby d31_16) rfl ?_
    refine X0.baloadBytes hx (j := (19 : Int32)) (v := (.int (32 : Int32))) (by rw [e0]; exact Ar67.1) (State.isArrayOf_alike hZ.alike Ar67.2.1) Ar67.2.2 hin67 hat67 (g := (mkF m 17 #[.val (.ref a1), .val (.ref a2), .val (.int (19 : Int32))] [(.int (19 : Int32)), (.ref a1)])) rfl rfl (hb hby d31_17) _ ?_
    show Steps p.tables e below (s₁.setTop (mkF m 18 #[.val (.ref a1), .val (.ref a2), .val (.int (19 : Int32))] [(.int (32 : Int32))])) _
    refine XS.aloadN X0.here hx rfl (hb hby d31_18) rfl rfl ?_
    refine XS.iloadN X0.here hx rfl (hb hby d31_19) rfl ?_
    refine X0.baloadBytes hx (j := (19 : Int32)) (v := (.int (32 : Int32))) (by rw [e0]; exact Ar68.1) (State.isArrayOf_alike hZ.alike Ar68.2.1) Ar68.2.2 hin68 hat68 (g := (mkF m 20 #[.val (.ref a1), .val (.ref a2), .val (.int (19 : Int32))] [(.int (19 : Int32)), (.ref a2), (.int (32 : Int32))])) rfl rfl (hb hby d31_20) _ ?_
    refine XS.icmpYes X0.here hx rfl (pc0 := 21) (pc' := 26) rfl (hb hby d31_21) rfl (teq (by decide +kernel : (32 : Int32) = (32 : Int32))).1 (by decide) (by decide) ?_
    refine XS.iinc X0.here hx rfl (hb hby d31_26) rfl (l' := #[.val (.ref a1), .val (.ref a2), .val (.int ((19 : Int32) + (1 : Int32)))]) rfl ?_
    show Steps p.tables e below (s₁.setTop (mkF m 29 #[.val (.ref a1), .val (.ref a2), .val (.int ((19 : Int32) + (1 : Int32)))] [])) _
    rw [(by decide +kernel : ((19 : Int32) + (1 : Int32)) = (20 : Int32))]
    refine XS.goto X0.here hx rfl (pc0 := 29) (pc' := 9) rfl (hb hby d31_29) (by decide) (by decide) ?_
    refine XS.iloadN X0.here hx rfl (hb hby d31_9) rfl ?_
    refine XS.aloadN X0.here hx rfl (hb hby d31_10) rfl rfl ?_
    refine X0.arraylength hx (by rw [e0]; exact Ar69.1) (State.isArrayOf_alike hZ.alike Ar69.2.1) (g := (mkF m 11 #[.val (.ref a1), .val (.ref a2), .val (.int (20 : Int32))] [(.ref a1), (.int (20 : Int32))])) rfl rfl (hb hby d31_11) _ ?_
    rw [len_of Sz69 Nn69]
    refine XS.icmpNo X0.here hx rfl (hb hby d31_12) rfl (tlt (by decide +kernel : (20 : Int32) < (31 : Int32))).2.1 ?_
    refine XS.aloadN X0.here hx rfl (hb hby d31_15) rfl rfl ?_
    refine XS.iloadN X0.here hx rfl (hb hby d31_16) rfl ?_
    refine X0.baloadBytes hx (j := (20 : Int32)) (v := (.int (97 : Int32))) (by rw [e0]; exact Ar70.1) (State.isArrayOf_alike hZ.alike Ar70.2.1) Ar70.2.2 hin70 hat70 (g := (mkF m 17 #[.val (.ref a1), .val (.ref a2), .val (.int (20 : Int32))] [(.int (20 : Int32)), (.ref a1)])) rfl rfl (hb hby d31_17) _ ?_
    show Steps p.tables e below (s₁.setTop (mkF m 18 #[.val (.ref a1), .val (.ref a2), .val (.int (20 : Int32))] [(.int (97 : Int32))])) _
    refine XS.aloadN X0.here hx rfl (hb hby d31_18) rfl rfl ?_
    refine XS.iloadN X0.here hx rfl (hb hby d31_19) rfl ?_
    refine X0.baloadBytes hx (j := (20 : Int32)) (v := (.int (97 : Int32))) (by rw [e0]; exact Ar71.1) (State.isArrayOf_alike hZ.alike Ar71.2.1) Ar71.2.2 hin71 hat71 (g := (mkF m 20 #[.val (.ref a1), .val (.ref a2), .val (.int (20 : Int32))] [(.int (20 : Int32)), (.ref a2), (.int (97 : Int32))])) rfl rfl (hb hby d31_20) _ ?_
    refine XS.icmpYes X0.here hx rfl (pc0 := 21) (pc' := 26) rfl (hb hby d31_21) rfl (teq (by decide +kernel : (97 : Int32) = (97 : Int32))).1 (by decide) (by decide) ?_
    refine XS.iinc X0.here hx rfl (hb hby d31_26) rfl (l' := #[.val (.ref a1), .val (.ref a2), .val (.int ((20 : Int32) + (1 : Int32)))]) rfl ?_
    show Steps p.tables e below (s₁.setTop (mkF m 29 #[.val (.ref a1), .val (.ref a2), .val (.int ((20 : Int32) + (1 : Int32)))] [])) _
    rw [(by decide +kernel : ((20 : Int32) + (1 : Int32)) = (21 : Int32))]
    refine XS.goto X0.here hx rfl (pc0 := 29) (pc' := 9) rfl (hb hby d31_29) (by decide) (by decide) ?_
    refine XS.iloadN X0.here hx rfl (hb hby d31_9) rfl ?_
    refine XS.aloadN X0.here hx rfl (hb hby d31_10) rfl rfl ?_
    refine X0.arraylength hx (by rw [e0]; exact Ar72.1) (State.isArrayOf_alike hZ.alike Ar72.2.1) (g := (mkF m 11 #[.val (.ref a1), .val (.ref a2), .val (.int (21 : Int32))] [(.ref a1), (.int (21 : Int32))])) rfl rfl (hb hby d31_11) _ ?_
    rw [len_of Sz72 Nn72]
    refine XS.icmpNo X0.here hx rfl (hb hby d31_12) rfl (tlt (by decide +kernel : (21 : Int32) < (31 : Int32))).2.1 ?_
    refine XS.aloadN X0.here hx rfl (hb hby d31_15) rfl rfl ?_
    refine XS.iloadN X0.here hx rfl (hb hby d31_16) rfl ?_
    refine X0.baloadBytes hx (j := (21 : Int32)) (v := (.int (110 : Int32))) (by rw [e0]; exact Ar73.1) (State.isArrayOf_alike hZ.alike Ar73.2.1) Ar73.2.2 hin73 hat73 (g := (mkF m 17 #[.val (.ref a1), .val (.ref a2), .val (.int (21 : Int32))] [(.int (21 : Int32)), (.ref a1)])) rfl rfl (hb hby d31_17) _ ?_
    show Steps p.tables e below (s₁.setTop (mkF m 18 #[.val (.ref a1), .val (.ref a2), .val (.int (21 : Int32))] [(.int (110 : Int32))])) _
    refine XS.aloadN X0.here hx rfl (hb hby d31_18) rfl rfl ?_
    refine XS.iloadN X0.here hx rfl (hb hby d31_19) rfl ?_
    refine X0.baloadBytes hx (j := (21 : Int32)) (v := (.int (110 : Int32))) (by rw [e0]; exact Ar74.1) (State.isArrayOf_alike hZ.alike Ar74.2.1) Ar74.2.2 hin74 hat74 (g := (mkF m 20 #[.val (.ref a1), .val (.ref a2), .val (.int (21 : Int32))] [(.int (21 : Int32)), (.ref a2), (.int (110 : Int32))])) rfl rfl (hb hby d31_20) _ ?_
    refine XS.icmpYes X0.here hx rfl (pc0 := 21) (pc' := 26) rfl (hb hby d31_21) rfl (teq (by decide +kernel : (110 : Int32) = (110 : Int32))).1 (by decide) (by decide) ?_
    refine XS.iinc X0.here hx rfl (hb hby d31_26) rfl (l' := #[.val (.ref a1), .val (.ref a2), .val (.int ((21 : Int32) + (1 : Int32)))]) rfl ?_
    show Steps p.tables e below (s₁.setTop (mkF m 29 #[.val (.ref a1), .val (.ref a2), .val (.int ((21 : Int32) + (1 : Int32)))] [])) _
    rw [(by decide +kernel : ((21 : Int32) + (1 : Int32)) = (22 : Int32))]
    refine XS.goto X0.here hx rfl (pc0 := 29) (pc' := 9) rfl (hb hby d31_29) (by decide) (by decide) ?_
    refine XS.iloadN X0.here hx rfl (hb hby d31_9) rfl ?_
    refine XS.aloadN X0.here hx rfl (hb hby d31_10) rfl rfl ?_
    refine X0.arraylength hx (by rw [e0]; exact Ar75.1) (State.isArrayOf_alike hZ.alike Ar75.2.1) (g := (mkF m 11 #[.val (.ref a1), .val (.ref a2), .val (.int (22 : Int32))] [(.ref a1), (.int (22 : Int32))])) rfl rfl (hb hby d31_11) _ ?_
    rw [len_of Sz75 Nn75]
    refine XS.icmpNo X0.here hx rfl (hb hby d31_12) rfl (tlt (by decide +kernel : (22 : Int32) < (31 : Int32))).2.1 ?_
    refine XS.aloadN X0.here hx rfl (hb hby d31_15) rfl rfl ?_
    refine XS.iloadN X0.here hx rfl (hb hby d31_16) rfl ?_
    refine X0.baloadBytes hx (j := (22 : Int32)) (v := (.int (100 : Int32))) (by rw [e0]; exact Ar76.1) (State.isArrayOf_alike hZ.alike Ar76.2.1) Ar76.2.2 hin76 hat76 (g := (mkF m 17 #[.val (.ref a1), .val (.ref a2), .val (.int (22 : Int32))] [(.int (22 : Int32)), (.ref a1)])) rfl rfl (hb hby d31_17) _ ?_
    show Steps p.tables e below (s₁.setTop (mkF m 18 #[.val (.ref a1), .val (.ref a2), .val (.int (22 : Int32))] [(.int (100 : Int32))])) _
    refine XS.aloadN X0.here hx rfl (hb hby d31_18) rfl rfl ?_
    refine XS.iloadN X0.here hx rfl (hb hby d31_19) rfl ?_
    refine X0.baloadBytes hx (j := (22 : Int32)) (v := (.int (100 : Int32))) (by rw [e0]; exact Ar77.1) (State.isArrayOf_alike hZ.alike Ar77.2.1) Ar77.2.2 hin77 hat77 (g := (mkF m 20 #[.val (.ref a1), .val (.ref a2), .val (.int (22 : Int32))] [(.int (22 : Int32)), (.ref a2), (.int (100 : Int32))])) rfl rfl (hb hby d31_20) _ ?_
    refine XS.icmpYes X0.here hx rfl (pc0 := 21) (pc' := 26) rfl (hb hby d31_21) rfl (teq (by decide +kernel : (100 : Int32) = (100 : Int32))).1 (by decide) (by decide) ?_
    refine XS.iinc X0.here hx rfl (hb hby d31_26) rfl (l' := #[.val (.ref a1), .val (.ref a2), .val (.int ((22 : Int32) + (1 : Int32)))]) rfl ?_
    show Steps p.tables e below (s₁.setTop (mkF m 29 #[.val (.ref a1), .val (.ref a2), .val (.int ((22 : Int32) + (1 : Int32)))] [])) _
    rw [(by decide +kernel : ((22 : Int32) + (1 : Int32)) = (23 : Int32))]
    refine XS.goto X0.here hx rfl (pc0 := 29) (pc' := 9) rfl (hb hby d31_29) (by decide) (by decide) ?_
    refine XS.iloadN X0.here hx rfl (hb hby d31_9) rfl ?_
    refine XS.aloadN X0.here hx rfl (hb hby d31_10) rfl rfl ?_
    refine X0.arraylength hx (by rw [e0]; exact Ar78.1) (State.isArrayOf_alike hZ.alike Ar78.2.1) (g := (mkF m 11 #[.val (.ref a1), .val (.ref a2), .val (.int (23 : Int32))] [(.ref a1), (.int (23 : Int32))])) rfl rfl (hb hby d31_11) _ ?_
    rw [len_of Sz78 Nn78]
    refine XS.icmpNo X0.here hx rfl (hb hby d31_12) rfl (tlt (by decide +kernel : (23 : Int32) < (31 : Int32))).2.1 ?_
    refine XS.aloadN X0.here hx rfl (hb hby d31_15) rfl rfl ?_
    refine XS.iloadN X0.here hx rfl (hb hby d31_16) rfl ?_
    refine X0.baloadBytes hx (j := (23 : Int32)) (v := (.int (32 : Int32))) (by rw [e0]; exact Ar79.1) (State.isArrayOf_alike hZ.alike Ar79.2.1) Ar79.2.2 hin79 hat79 (g := (mkF m 17 #[.val (.ref a1), .val (.ref a2), .val (.int (23 : Int32))] [(.int (23 : Int32)), (.ref a1)])) rfl rfl (hb hby d31_17) _ ?_
    show Steps p.tables e below (s₁.setTop (mkF m 18 #[.val (.ref a1), .val (.ref a2), .val (.int (23 : Int32))] [(.int (32 : Int32))])) _
    refine XS.aloadN X0.here hx rfl (hb hby d31_18) rfl rfl ?_
    refine XS.iloadN X0.here hx rfl (hb hby d31_19) rfl ?_
    refine X0.baloadBytes hx (j := (23 : Int32)) (v := (.int (32 : Int32))) (by rw [e0]; exact Ar80.1) (State.isArrayOf_alike hZ.alike Ar80.2.1) Ar80.2.2 hin80 hat80 (g := (mkF m 20 #[.val (.ref a1), .val (.ref a2), .val (.int (23 : Int32))] [(.int (23 : Int32)), (.ref a2), (.int (32 : Int32))])) rfl rfl (hb hby d31_20) _ ?_
    refine XS.icmpYes X0.here hx rfl (pc0 := 21) (pc' := 26) rfl (hb hby d31_21) rfl (teq (by decide +kernel : (32 : Int32) = (32 : Int32))).1 (by decide) (by decide) ?_
    refine XS.iinc X0.here hx rfl (hb hby d31_26) rfl (l' := #[.val (.ref a1), .val (.ref a2), .val (.int ((23 : Int32) + (1 : Int32)))]) rfl ?_
    show Steps p.tables e below (s₁.setTop (mkF m 29 #[.val (.ref a1), .val (.ref a2), .val (.int ((23 : Int32) + (1 : Int32)))] [])) _
    rw [(by decide +kernel : ((23 : Int32) + (1 : Int32)) = (24 : Int32))]
    refine XS.goto X0.here hx rfl (pc0 := 29) (pc' := 9) rfl (hb hby d31_29) (by decide) (by decide) ?_
    refine XS.iloadN X0.here hx rfl (hb hby d31_9) rfl ?_
    refine XS.aloadN X0.here hx rfl (hb hby d31_10) rfl rfl ?_
    refine X0.arraylength hx (by rw [e0]; exact Ar81.1) (State.isArrayOf_alike hZ.alike Ar81.2.1) (g := (mkF m 11 #[.val (.ref a1), .val (.ref a2), .val (.int (24 : Int32))] [(.ref a1), (.int (24 : Int32))])) rfl rfl (hb hby d31_11) _ ?_
    rw [len_of Sz81 Nn81]
    refine XS.icmpNo X0.here hx rfl (hb hby d31_12) rfl (tlt (by decide +kernel : (24 : Int32) < (31 : Int32))).2.1 ?_
    refine XS.aloadN X0.here hx rfl (hb hby d31_15) rfl rfl ?_
    refine XS.iloadN X0.here hx rfl (hb hby d31_16) rfl ?_
    refine X0.baloadBytes hx (j := (24 : Int32)) (v := (.int (67 : Int32))) (by rw [e0]; exact Ar82.1) (State.isArrayOf_alike hZ.alike Ar82.2.1) Ar82.2.2 hin82 hat82 (g := (mkF m 17 #[.val (.ref a1), .val (.ref a2), .val (.int (24 : Int32))] [(.int (24 : Int32)), (.ref a1)])) rfl rfl (hb hby d31_17) _ ?_
    show Steps p.tables e below (s₁.setTop (mkF m 18 #[.val (.ref a1), .val (.ref a2), .val (.int (24 : Int32))] [(.int (67 : Int32))])) _
    refine XS.aloadN X0.here hx rfl (hb hby d31_18) rfl rfl ?_
    refine XS.iloadN X0.here hx rfl (hb hby d31_19) rfl ?_
    refine X0.baloadBytes hx (j := (24 : Int32)) (v := (.int (67 : Int32))) (by rw [e0]; exact Ar83.1) (State.isArrayOf_alike hZ.alike Ar83.2.1) Ar83.2.2 hin83 hat83 (g := (mkF m 20 #[.val (.ref a1), .val (.ref a2), .val (.int (24 : Int32))] [(.int (24 : Int32)), (.ref a2), (.int (67 : Int32))])) rfl rfl (hb hby d31_20) _ ?_
    refine XS.icmpYes X0.here hx rfl (pc0 := 21) (pc' := 26) rfl (hb hby d31_21) rfl (teq (by decide +kernel : (67 : Int32) = (67 : Int32))).1 (by decide) (by decide) ?_
    refine XS.iinc X0.here hx rfl (hb hby d31_26) rfl (l' := #[.val (.ref a1), .val (.ref a2), .val (.int ((24 : Int32) + (1 : Int32)))]) rfl ?_
    show Steps p.tables e below (s₁.setTop (mkF m 29 #[.val (.ref a1), .val (.ref a2), .val (.int ((24 : Int32) + (1 : Int32)))] [])) _
    rw [(by decide +kernel : ((24 : Int32) + (1 : Int32)) = (25 : Int32))]
    refine XS.goto X0.here hx rfl (pc0 := 29) (pc' := 9) rfl (hb hby d31_29) (by decide) (by decide) ?_
    refine XS.iloadN X0.here hx rfl (hb hby d31_9) rfl ?_
    refine XS.aloadN X0.here hx rfl (hb hby d31_10) rfl rfl ?_
    refine X0.arraylength hx (by rw [e0]; exact Ar84.1) (State.isArrayOf_alike hZ.alike Ar84.2.1) (g := (mkF m 11 #[.val (.ref a1), .val (.ref a2), .val (.int (25 : Int32))] [(.ref a1), (.int (25 : Int32))])) rfl rfl (hb hby d31_11) _ ?_
    rw [len_of Sz84 Nn84]
    refine XS.icmpNo X0.here hx rfl (hb hby d31_12) rfl (tlt (by decide +kernel : (25 : Int32) < (31 : Int32))).2.1 ?_
    refine XS.aloadN X0.here hx rfl (hb hby d31_15) rfl rfl ?_
    refine XS.iloadN X0.here hx rfl (hb hby d31_16) rfl ?_
    refine X0.baloadBytes hx (j := (25 : Int32)) (v := (.int (111 : Int32))) (by rw [e0]; exact Ar85.1) (State.isArrayOf_alike hZ.alike Ar85.2.1) Ar85.2.2 hin85 hat85 (g := (mkF m 17 #[.val (.ref a1), .val (.ref a2), .val (.int (25 : Int32))] [(.int (25 : Int32)), (.ref a1)])) rfl rfl (hb hby d31_17) _ ?_
    show Steps p.tables e below (s₁.setTop (mkF m 18 #[.val (.ref a1), .val (.ref a2), .val (.int (25 : Int32))] [(.int (111 : Int32))])) _
    refine XS.aloadN X0.here hx rfl (hb hby d31_18) rfl rfl ?_
    refine XS.iloadN X0.here hx rfl (hb hby d31_19) rfl ?_
    refine X0.baloadBytes hx (j := (25 : Int32)) (v := (.int (111 : Int32))) (by rw [e0]; exact Ar86.1) (State.isArrayOf_alike hZ.alike Ar86.2.1) Ar86.2.2 hin86 hat86 (g := (mkF m 20 #[.val (.ref a1), .val (.ref a2), .val (.int (25 : Int32))] [(.int (25 : Int32)), (.ref a2), (.int (111 : Int32))])) rfl rfl (hb hby d31_20) _ ?_
    refine XS.icmpYes X0.here hx rfl (pc0 := 21) (pc' := 26) rfl (hb hby d31_21) rfl (teq (by decide +kernel : (111 : Int32) = (111 : Int32))).1 (by decide) (by decide) ?_
    refine XS.iinc X0.here hx rfl (hb hby d31_26) rfl (l' := #[.val (.ref a1), .val (.ref a2), .val (.int ((25 : Int32) + (1 : Int32)))]) rfl ?_
    show Steps p.tables e below (s₁.setTop (mkF m 29 #[.val (.ref a1), .val (.ref a2), .val (.int ((25 : Int32) + (1 : Int32)))] [])) _
    rw [(by decide +kernel : ((25 : Int32) + (1 : Int32)) = (26 : Int32))]
    refine XS.goto X0.here hx rfl (pc0 := 29) (pc' := 9) rfl (hb hby d31_29) (by decide) (by decide) ?_
    refine XS.iloadN X0.here hx rfl (hb hby d31_9) rfl ?_
    refine XS.aloadN X0.here hx rfl (hb hby d31_10) rfl rfl ?_
    refine X0.arraylength hx (by rw [e0]; exact Ar87.1) (State.isArrayOf_alike hZ.alike Ar87.2.1) (g := (mkF m 11 #[.val (.ref a1), .val (.ref a2), .val (.int (26 : Int32))] [(.ref a1), (.int (26 : Int32))])) rfl rfl (hb hby d31_11) _ ?_
    rw [len_of Sz87 Nn87]
    refine XS.icmpNo X0.here hx rfl (hb hby d31_12) rfl (tlt (by decide +kernel : (26 : Int32) < (31 : Int32))).2.1 ?_
    refine XS.aloadN X0.here hx rfl (hb hby d31_15) rfl rfl ?_
    refine XS.iloadN X0.here hx rfl (hb hby d31_16) rfl ?_
    refine X0.baloadBytes hx (j := (26 : Int32)) (v := (.int (110 : Int32))) (by rw [e0]; exact Ar88.1) (State.isArrayOf_alike hZ.alike Ar88.2.1) Ar88.2.2 hin88 hat88 (g := (mkF m 17 #[.val (.ref a1), .val (.ref a2), .val (.int (26 : Int32))] [(.int (26 : Int32)), (.ref a1)])) rfl rfl (hb hby d31_17) _ ?_
    show Steps p.tables e below (s₁.setTop (mkF m 18 #[.val (.ref a1), .val (.ref a2), .val (.int (26 : Int32))] [(.int (110 : Int32))])) _
    refine XS.aloadN X0.here hx rfl (hb hby d31_18) rfl rfl ?_
    refine XS.iloadN X0.here hx rfl (hb hby d31_19) rfl ?_
    refine X0.baloadBytes hx (j := (26 : Int32)) (v := (.int (110 : Int32))) (by rw [e0]; exact Ar89.1) (State.isArrayOf_alike hZ.alike Ar89.2.1) Ar89.2.2 hin89 hat89 (g := (mkF m 20 #[.val (.ref a1), .val (.ref a2), .val (.int (26 : Int32))] [(.int (26 : Int32)), (.ref a2), (.int (110 : Int32))])) rfl rfl (hb hby d31_20) _ ?_
    refine XS.icmpYes X0.here hx rfl (pc0 := 21) (pc' := 26) rfl (hb hby d31_21) rfl (teq (by decide +kernel : (110 : Int32) = (110 : Int32))).1 (by decide) (by decide) ?_
    refine XS.iinc X0.here hx rfl (hb hby d31_26) rfl (l' := #[.val (.ref a1), .val (.ref a2), .val (.int ((26 : Int32) + (1 : Int32)))]) rfl ?_
    show Steps p.tables e below (s₁.setTop (mkF m 29 #[.val (.ref a1), .val (.ref a2), .val (.int ((26 : Int32) + (1 : Int32)))] [])) _
    rw [(by decide +kernel : ((26 : Int32) + (1 : Int32)) = (27 : Int32))]
    refine XS.goto X0.here hx rfl (pc0 := 29) (pc' := 9) rfl (hb hby d31_29) (by decide) (by decide) ?_
    refine XS.iloadN X0.here hx rfl (hb hby d31_9) rfl ?_
    refine XS.aloadN X0.here hx rfl (hb hby d31_10) rfl rfl ?_
    refine X0.arraylength hx (by rw [e0]; exact Ar90.1) (State.isArrayOf_alike hZ.alike Ar90.2.1) (g := (mkF m 11 #[.val (.ref a1), .val (.ref a2), .val (.int (27 : Int32))] [(.ref a1), (.int (27 : Int32))])) rfl rfl (hb hby d31_11) _ ?_
    rw [len_of Sz90 Nn90]
    refine XS.icmpNo X0.here hx rfl (hb hby d31_12) rfl (tlt (by decide +kernel : (27 : Int32) < (31 : Int32))).2.1 ?_
    refine XS.aloadN X0.here hx rfl (hb hby d31_15) rfl rfl ?_
    refine XS.iloadN X0.here hx rfl (hb hby d31_16) rfl ?_
    refine X0.baloadBytes hx (j := (27 : Int32)) (v := (.int (116 : Int32))) (by rw [e0]; exact Ar91.1) (State.isArrayOf_alike hZ.alike Ar91.2.1) Ar91.2.2 hin91 hat91 (g := (mkF m 17 #[.val (.ref a1), .val (.ref a2), .val (.int (27 : Int32))] [(.int (27 : Int32)), (.ref a1)])) rfl rfl (hb hby d31_17) _ ?_
    show Steps p.tables e below (s₁.setTop (mkF m 18 #[.val (.ref a1), .val (.ref a2), .val (.int (27 : Int32))] [(.int (116 : Int32))])) _
    refine XS.aloadN X0.here hx rfl (hb hby d31_18) rfl rfl ?_
    refine XS.iloadN X0.here hx rfl (hb hby d31_19) rfl ?_
    refine X0.baloadBytes hx (j := (27 : Int32)) (v := (.int (116 : Int32))) (by rw [e0]; exact Ar92.1) (State.isArrayOf_alike hZ.alike Ar92.2.1) Ar92.2.2 hin92 hat92 (g := (mkF m 20 #[.val (.ref a1), .val (.ref a2), .val (.int (27 : Int32))] [(.int (27 : Int32)), (.ref a2), (.int (116 : Int32))])) rfl rfl (hb hby d31_20) _ ?_
    refine XS.icmpYes X0.here hx rfl (pc0 := 21) (pc' := 26) rfl (hb hby d31_21) rfl (teq (by decide +kernel : (116 : Int32) = (116 : Int32))).1 (by decide) (by decide) ?_
    refine XS.iinc X0.here hx rfl (hb hby d31_26) rfl (l' := #[.val (.ref a1), .val (.ref a2), .val (.int ((27 : Int32) + (1 : Int32)))]) rfl ?_
    show Steps p.tables e below (s₁.setTop (mkF m 29 #[.val (.ref a1), .val (.ref a2), .val (.int ((27 : Int32) + (1 : Int32)))] [])) _
    rw [(by decide +kernel : ((27 : Int32) + (1 : Int32)) = (28 : Int32))]
    refine XS.goto X0.here hx rfl (pc0 := 29) (pc' := 9) rfl (hb hby d31_29) (by decide) (by decide) ?_
    refine XS.iloadN X0.here hx rfl (hb hby d31_9) rfl ?_
    refine XS.aloadN X0.here hx rfl (hb hby d31_10) rfl rfl ?_
    refine X0.arraylength hx (by rw [e0]; exact Ar93.1) (State.isArrayOf_alike hZ.alike Ar93.2.1) (g := (mkF m 11 #[.val (.ref a1), .val (.ref a2), .val (.int (28 : Int32))] [(.ref a1), (.int (28 : Int32))])) rfl rfl (hb hby d31_11) _ ?_
    rw [len_of Sz93 Nn93]
    refine XS.icmpNo X0.here hx rfl (hb hby d31_12) rfl (tlt (by decide +kernel : (28 : Int32) < (31 : Int32))).2.1 ?_
    refine XS.aloadN X0.here hx rfl (hb hby d31_15) rfl rfl ?_
    refine XS.iloadN X0.here hx rfl (hb hby d31_16) rfl ?_
    refine X0.baloadBytes hx (j := (28 : Int32)) (v := (.int (114 : Int32))) (by rw [e0]; exact Ar94.1) (State.isArrayOf_alike hZ.alike Ar94.2.1) Ar94.2.2 hin94 hat94 (g := (mkF m 17 #[.val (.ref a1), .val (.ref a2), .val (.int (28 : Int32))] [(.int (28 : Int32)), (.ref a1)])) rfl rfl (hb hby d31_17) _ ?_
    show Steps p.tables e below (s₁.setTop (mkF m 18 #[.val (.ref a1), .val (.ref a2), .val (.int (28 : Int32))] [(.int (114 : Int32))])) _
    refine XS.aloadN X0.here hx rfl (hb hby d31_18) rfl rfl ?_
    refine XS.iloadN X0.here hx rfl (hb hby d31_19) rfl ?_
    refine X0.baloadBytes hx (j := (28 : Int32)) (v := (.int (114 : Int32))) (by rw [e0]; exact Ar95.1) (State.isArrayOf_alike hZ.alike Ar95.2.1) Ar95.2.2 hin95 hat95 (g := (mkF m 20 #[.val (.ref a1), .val (.ref a2), .val (.int (28 : Int32))] [(.int (28 : Int32)), (.ref a2), (.int (114 : Int32))])) rfl rfl (hb hby d31_20) _ ?_
    refine XS.icmpYes X0.here hx rfl (pc0 := 21) (pc' := 26) rfl (hb hby d31_21) rfl (teq (by decide +kernel : (114 : Int32) = (114 : Int32))).1 (by decide) (by decide) ?_
    refine XS.iinc X0.here hx rfl (hb hby d31_26) rfl (l' := #[.val (.ref a1), .val (.ref a2), .val (.int ((28 : Int32) + (1 : Int32)))]) rfl ?_
    show Steps p.tables e below (s₁.setTop (mkF m 29 #[.val (.ref a1), .val (.ref a2), .val (.int ((28 : Int32) + (1 : Int32)))] [])) _
    rw [(by decide +kernel : ((28 : Int32) + (1 : Int32)) = (29 : Int32))]
    refine XS.goto X0.here hx rfl (pc0 := 29) (pc' := 9) rfl (hb hby d31_29) (by decide) (by decide) ?_
    refine XS.iloadN X0.here hx rfl (hb hby d31_9) rfl ?_
    refine XS.aloadN X0.here hx rfl (hb hby d31_10) rfl rfl ?_
    refine X0.arraylength hx (by rw [e0]; exact Ar96.1) (State.isArrayOf_alike hZ.alike Ar96.2.1) (g := (mkF m 11 #[.val (.ref a1), .val (.ref a2), .val (.int (29 : Int32))] [(.ref a1), (.int (29 : Int32))])) rfl rfl (hb hby d31_11) _ ?_
    rw [len_of Sz96 Nn96]
    refine XS.icmpNo X0.here hx rfl (hb hby d31_12) rfl (tlt (by decide +kernel : (29 : Int32) < (31 : Int32))).2.1 ?_
    refine XS.aloadN X0.here hx rfl (hb hby d31_15) rfl rfl ?_
    refine XS.iloadN X0.here hx rfl (hb hby d31_16) rfl ?_
    refine X0.baloadBytes hx (j := (29 : Int32)) (v := (.int (111 : Int32))) (by rw [e0]; exact Ar97.1) (State.isArrayOf_alike hZ.alike Ar97.2.1) Ar97.2.2 hin97 hat97 (g := (mkF m 17 #[.val (.ref a1), .val (.ref a2), .val (.int (29 : Int32))] [(.int (29 : Int32)), (.ref a1)])) rfl rfl (hb hby d31_17) _ ?_
    show Steps p.tables e below (s₁.setTop (mkF m 18 #[.val (.ref a1), .val (.ref a2), .val (.int (29 : Int32))] [(.int (111 : Int32))])) _
    refine XS.aloadN X0.here hx rfl (hb hby d31_18) rfl rfl ?_
    refine XS.iloadN X0.here hx rfl (hb hby d31_19) rfl ?_
    refine X0.baloadBytes hx (j := (29 : Int32)) (v := (.int (111 : Int32))) (by rw [e0]; exact Ar98.1) (State.isArrayOf_alike hZ.alike Ar98.2.1) Ar98.2.2 hin98 hat98 (g := (mkF m 20 #[.val (.ref a1), .val (.ref a2), .val (.int (29 : Int32))] [(.int (29 : Int32)), (.ref a2), (.int (111 : Int32))])) rfl rfl (hb hby d31_20) _ ?_
    refine XS.icmpYes X0.here hx rfl (pc0 := 21) (pc' := 26) rfl (hb hby d31_21) rfl (teq (by decide +kernel : (111 : Int32) = (111 : Int32))).1 (by decide) (by decide) ?_
    refine XS.iinc X0.here hx rfl (hb hby d31_26) rfl (l' := #[.val (.ref a1), .val (.ref a2), .val (.int ((29 : Int32) + (1 : Int32)))]) rfl ?_
    show Steps p.tables e below (s₁.setTop (mkF m 29 #[.val (.ref a1), .val (.ref a2), .val (.int ((29 : Int32) + (1 : Int32)))] [])) _
    rw [(by decide +kernel : ((29 : Int32) + (1 : Int32)) = (30 : Int32))]
    refine XS.goto X0.here hx rfl (pc0 := 29) (pc' := 9) rfl (hb hby d31_29) (by decide) (by decide) ?_
    refine XS.iloadN X0.here hx rfl (hb hby d31_9) rfl ?_
    refine XS.aloadN X0.here hx rfl (hb hby d31_10) rfl rfl ?_
    refine X0.arraylength hx (by rw [e0]; exact Ar99.1) (State.isArrayOf_alike hZ.alike Ar99.2.1) (g := (mkF m 11 #[.val (.ref a1), .val (.ref a2), .val (.int (30 : Int32))] [(.ref a1), (.int (30 : Int32))])) rfl rfl (hb hby d31_11) _ ?_
    rw [len_of Sz99 Nn99]
    refine XS.icmpNo X0.here hx rfl (hb hby d31_12) rfl (tlt (by decide +kernel : (30 : Int32) < (31 : Int32))).2.1 ?_
    refine XS.aloadN X0.here hx rfl (hb hby d31_15) rfl rfl ?_
    refine XS.iloadN X0.here hx rfl (hb hby d31_16) rfl ?_
    refine X0.baloadBytes hx (j := (30 : Int32)) (v := (.int (108 : Int32))) (by rw [e0]; exact Ar100.1) (State.isArrayOf_alike hZ.alike Ar100.2.1) Ar100.2.2 hin100 hat100 (g := (mkF m 17 #[.val (.ref a1), .val (.ref a2), .val (.int (30 : Int32))] [(.int (30 : Int32)), (.ref a1)])) rfl rfl (hb hby d31_17) _ ?_
    show Steps p.tables e below (s₁.setTop (mkF m 18 #[.val (.ref a1), .val (.ref a2), .val (.int (30 : Int32))] [(.int (108 : Int32))])) _
    refine XS.aloadN X0.here hx rfl (hb hby d31_18) rfl rfl ?_
    refine XS.iloadN X0.here hx rfl (hb hby d31_19) rfl ?_
    refine X0.baloadBytes hx (j := (30 : Int32)) (v := (.int (108 : Int32))) (by rw [e0]; exact Ar101.1) (State.isArrayOf_alike hZ.alike Ar101.2.1) Ar101.2.2 hin101 hat101 (g := (mkF m 20 #[.val (.ref a1), .val (.ref a2), .val (.int (30 : Int32))] [(.int (30 : Int32)), (.ref a2), (.int (108 : Int32))])) rfl rfl (hb hby d31_20) _ ?_
    refine XS.icmpYes X0.here hx rfl (pc0 := 21) (pc' := 26) rfl (hb hby d31_21) rfl (teq (by decide +kernel : (108 : Int32) = (108 : Int32))).1 (by decide) (by decide) ?_
    refine XS.iinc X0.here hx rfl (hb hby d31_26) rfl (l' := #[.val (.ref a1), .val (.ref a2), .val (.int ((30 : Int32) + (1 : Int32)))]) rfl ?_
    show Steps p.tables e below (s₁.setTop (mkF m 29 #[.val (.ref a1), .val (.ref a2), .val (.int ((30 : Int32) + (1 : Int32)))] [])) _
    rw [(by decide +kernel : ((30 : Int32) + (1 : Int32)) = (31 : Int32))]
    refine XS.goto X0.here hx rfl (pc0 := 29) (pc' := 9) rfl (hb hby d31_29) (by decide) (by decide) ?_
    refine XS.iloadN X0.here hx rfl (hb hby d31_9) rfl ?_
    refine XS.aloadN X0.here hx rfl (hb hby d31_10) rfl rfl ?_
    refine X0.arraylength hx (by rw [e0]; exact Ar102.1) (State.isArrayOf_alike hZ.alike Ar102.2.1) (g := (mkF m 11 #[.val (.ref a1), .val (.ref a2), .val (.int (31 : Int32))] [(.ref a1), (.int (31 : Int32))])) rfl rfl (hb hby d31_11) _ ?_
    rw [len_of Sz102 Nn102]
    refine XS.icmpYes X0.here hx rfl (pc0 := 12) (pc' := 32) rfl (hb hby d31_12) rfl (flt (by decide +kernel : ¬ ((31 : Int32) < (31 : Int32)))).2.1 (by decide) (by decide) ?_
    refine XS.iconst X0.here hx rfl (hb hby d31_32) ?_
    show Steps p.tables e below (s₁.setTop (mkF m 33 #[.val (.ref a1), .val (.ref a2), .val (.int (31 : Int32))] [(.int (1 : Int32))])) _
    exact retN X0 hx (t := .boolean) Bd.returns (by simp) (hb hby d31_33) hr
  · show Q31_69 Z _ _ _ _ h0 n0 _ s₁.heap _
    rw [e0]
    exact ⟨rfl, N0, rfl⟩
theorem ef_rm30_68 (m : MethodId) (x0 : Addr) (x1 : Addr) : entryFrame m #[(.ref x0), (.ref x1)] 3 = mkF m 0 #[.val (.ref x0), .val (.ref x1), .unset] [] := by first | (simp [entryFrame, mkF, argsToLocals, Value.category]; done) | rfl
def Q30_68 (Z : State) (a1 : Addr) (a2 : Addr) (p8 : Int32) (a16 : Addr) (a19 : Addr) (k22 : ClassId) (k24 : ClassId) (h0 : Heap) (n0 : Nat) (v : Option Value) (h : Heap) (L : List Loc) : Prop := (v = some (.int (1 : Int32)) ∧ Fr n0 L ∧ h = h0)
set_option maxRecDepth 65536 in
set_option maxHeartbeats 40000000 in
theorem rm30_68 (l : Launch) (Z : State) (a0 : Array Value) (hw : ∀ d ∈ own_ws, d.before a0 Z = true) (ws : List Jvm.Cond) (a1 : Addr) (a2 : Addr) (p8 : Int32) (a16 : Addr) (a19 : Addr) (k22 : ClassId) (k24 : ClassId) (h0 : Heap) (n0 : Nat) (O0 : Old Z n0 h0) (E_5 : Exa Z h0 a2 C_4) (S_9 : Sta Z Z.heap C_4 "COMPACT_STRINGS" "Z" (.int p8)) (hk11 : ¬ (p8 = (0 : Int32))) (F12 : Fld Z h0 a1 C_4 "coder" "B" (.int (0 : Int32))) (F14 : Fld Z h0 a2 C_4 "coder" "B" (.int (0 : Int32))) (F17 : Fld Z h0 a1 C_4 "value" "[B" (.ref a16)) (F20 : Fld Z h0 a2 C_4 "value" "[B" (.ref a19)) (V23 : Arv Z h0 a16 k22 .byte (31 : Int32) [(.int (82 : Int32)), (.int (101 : Int32)), (.int (97 : Int32)), (.int (100 : Int32)), (.int (44 : Int32)), (.int (32 : Int32)), (.int (87 : Int32)), (.int (114 : Int32)), (.int (105 : Int32)), (.int (116 : Int32)), (.int (101 : Int32)), (.int (44 : Int32)), (.int (32 : Int32)), (.int (65 : Int32)), (.int (112 : Int32)), (.int (112 : Int32)), (.int (101 : Int32)), (.int (110 : Int32)), (.int (100 : Int32)), (.int (32 : Int32)), (.int (97 : Int32)), (.int (110 : Int32)), (.int (100 : Int32)), (.int (32 : Int32)), (.int (67 : Int32)), (.int (111 : Int32)), (.int (110 : Int32)), (.int (116 : Int32)), (.int (114 : Int32)), (.int (111 : Int32)), (.int (108 : Int32))] (.int (0 : Int32))) (V25 : Arv Z h0 a19 k24 .byte (31 : Int32) [(.int (82 : Int32)), (.int (101 : Int32)), (.int (97 : Int32)), (.int (100 : Int32)), (.int (44 : Int32)), (.int (32 : Int32)), (.int (87 : Int32)), (.int (114 : Int32)), (.int (105 : Int32)), (.int (116 : Int32)), (.int (101 : Int32)), (.int (44 : Int32)), (.int (32 : Int32)), (.int (65 : Int32)), (.int (112 : Int32)), (.int (112 : Int32)), (.int (101 : Int32)), (.int (110 : Int32)), (.int (100 : Int32)), (.int (32 : Int32)), (.int (97 : Int32)), (.int (110 : Int32)), (.int (100 : Int32)), (.int (32 : Int32)), (.int (67 : Int32)), (.int (111 : Int32)), (.int (110 : Int32)), (.int (116 : Int32)), (.int (114 : Int32)), (.int (111 : Int32)), (.int (108 : Int32))] (.int 0)) :
    MetFree l M_29 (head1 (Jvm.Cond.code M_29 jdk_42_method_66_code 3 (some .boolean) :: ws) ({ frames := 1, cells := 0, slots := 0, locals := 14 } : Room)) (fun a U => a = #[(.ref a1), (.ref a2)] ∧ Z.Warmed39 U.vm ∧ U.heap = h0) (fun _ _ _ _ _ => True) (fun _ U o U' => ∃ v L, o = .returned v ∧ Q30_68 Z a1 a2 p8 a16 a19 k22 k24 h0 n0 v U'.heap L ∧ FrameEnd U o U' L ({ frames := 1, cells := 0, slots := 0, locals := 14 } : Room).cells ({ frames := 1, cells := 0, slots := 0, locals := 14 } : Room).slots) := by
  refine MetFree.of_bodySF (plainFor_of_name pn_1) hisR ?_
  intro p e s m args below meth c s₁ Bd hml0 hP hK
  obtain ⟨rfl, hZ, hh⟩ := hP
  have hx := Bd.exec
  have hby := Bd.bytes
  have hml : c.maxLocals = 3 := hml0
  have hown : s.vm.findClass "java/lang/String" = some m.cls := findClass_of_methodNamed Bd.named
  have hnm := (name_of_methodNamed Bd.named Bd.method).1
  have X0 : Stand p l e ({ frames := 1, cells := 0, slots := 0, locals := 14 } : Room) s m #[(.ref a1), (.ref a2)] below meth c s₁ [] 0 0 := Stand.of_body Bd
  have e0 : s₁.heap = h0 := by rw [← hh, Bd.state]; rfl
  have N0 := Fr.nil n0
  have pre0 : ∀ t, Steps p.tables e below (s₁.setTop (mkF m 0 #[.val (.ref a1), .val (.ref a2), .unset] [])) t → Steps p.tables e below (s₁.setTop (entryFrame m #[(.ref a1), (.ref a2)] 3)) t := fun t k => castTop (ef_rm30_68 m a1 a2) k
  have pre3 : ∀ t, Steps p.tables e below (s₁.setTop (mkF m 2 #[.val (.ref a1), .val (.ref a2), .unset] [(.ref a2), (.ref a1)])) t → Steps p.tables e below (s₁.setTop (entryFrame m #[(.ref a1), (.ref a2)] 3)) t := by
    intro t kt
    refine pre0 t ?_
    show Steps p.tables e below (s₁.setTop (mkF m 0 #[.val (.ref a1), .val (.ref a2), .unset] [])) _
    refine XS.aloadN X0.here hx rfl (hb hby d30_0) rfl rfl ?_
    refine XS.aloadN X0.here hx rfl (hb hby d30_1) rfl rfl ?_
    exact kt
  by_cases ha4 : a1 = a2
  · skip
    obtain ⟨fs, hr, hrun, hended, hW, hsame⟩ := X0.leave (v := some (.int (1 : Int32))) (fun h => by rw [Bd.returns] at h; cases h)
    refine ⟨_, _, pre3 _ ?_, hrun, hended, _, _, rfl, ?_, ⟨_, rfl⟩, hW, hsame.mono (by decide) (by decide)⟩
    · show Steps p.tables e below (s₁.setTop (mkF m 2 #[.val (.ref a1), .val (.ref a2), .unset] [(.ref a2), (.ref a1)])) _
      refine Jvm.RoadKit.acmp (g := (mkF m 2 #[.val (.ref a1), .val (.ref a2), .unset] [(.ref a2), (.ref a1)])) X0 hx rfl rfl rfl (pc0 := 2) (pc' := 5) (same := true) rfl (hb hby d30_2) rfl (decide_eq_true (congrArg Value.ref ha4)) (by decide) (by decide) ?_
      refine XS.iconst X0.here hx rfl (hb hby d30_5) ?_
      show Steps p.tables e below (s₁.setTop (mkF m 6 #[.val (.ref a1), .val (.ref a2), .unset] [(.int (1 : Int32))])) _
      exact retN X0 hx (t := .boolean) Bd.returns (by simp) (hb hby d30_6) hr
    · show Q30_68 Z _ _ _ _ _ _ _ h0 n0 _ s₁.heap _
      rw [e0]
      exact ⟨rfl, N0, rfl⟩
  · skip
    obtain ⟨T6, X6, e6, st6⟩ := instY X0 hx hZ hown (hw _ (gw 180 rfl)) e0 (Ins.self E_5) (g := (mkF m 8 #[.val (.ref a1), .val (.ref a2), .unset] [(.ref a2)])) rfl rfl (hb hby d30_8)
    obtain ⟨T7, X7, e7, st7⟩ := castY X6 hx hZ hown (hw _ (gw 180 rfl)) e6 (Ins.self E_5) (g := (mkF m 15 #[.val (.ref a1), .val (.ref a2), .unset] [(.ref a2)])) rfl rfl (hb hby d30_15)
    obtain ⟨T10, X10, e10, st10⟩ := getS2 X7 hx hZ hown (host := "") (Or.inl (hw _ (gw 53 rfl))) Via.refl e7 (Sta.ext O0.2 S_9) (g := (mkF m 19 #[.val (.ref a1), .val (.ref a2), .val (.ref a2)] [])) rfl (hb hby d30_19)
    obtain ⟨T13, X13, e13, st13⟩ := getF X10 hx hZ hown (host := "") (Or.inl (hw _ (gw 54 rfl))) Via.refl e10 F12 (g := (mkF m 26 #[.val (.ref a1), .val (.ref a2), .val (.ref a2)] [(.ref a1)])) rfl rfl (hb hby d30_26)
    obtain ⟨T15, X15, e15, st15⟩ := getF X13 hx hZ hown (host := "") (Or.inl (hw _ (gw 54 rfl))) Via.refl e13 F14 (g := (mkF m 30 #[.val (.ref a1), .val (.ref a2), .val (.ref a2)] [(.ref a2), (.int (0 : Int32))])) rfl rfl (hb hby d30_30)
    obtain ⟨T18, X18, e18, st18⟩ := getF X15 hx hZ hown (host := "") (Or.inl (hw _ (gw 46 rfl))) Via.refl e15 F17 (g := (mkF m 37 #[.val (.ref a1), .val (.ref a2), .val (.ref a2)] [(.ref a1)])) rfl rfl (hb hby d30_37)
    obtain ⟨T21, X21, e21, st21⟩ := getF X18 hx hZ hown (host := "") (Or.inl (hw _ (gw 46 rfl))) Via.refl e18 F20 (g := (mkF m 41 #[.val (.ref a1), .val (.ref a2), .val (.ref a2)] [(.ref a2), (.ref a16)])) rfl rfl (hb hby d30_41)
    obtain ⟨_, _, ⟨T26, L26, k26, n26⟩, -, X26, ⟨Lc26, hQ26, l26, y26, z26⟩, st26⟩ := Jvm.LawKit.callS X21 hx (y := M_28) hown (mvT hZ (hw _ (gw 181 rfl))) (mvT hZ (hw _ (gw 182 rfl))) (mvT hZ (hw _ (gw 183 rfl))) (mvT hZ (hw _ (gw 184 rfl))) (by decide) (backOf (W := 0) (rm31_69 l Z a0 hw [] a16 a19 k22 k24 h0 n0  O0 V23 V25) hZ (hw _ (gw 184 rfl)) (hw _ (gw 183 rfl)) (by decide) (by decide)) (g := (mkF m 44 #[.val (.ref a1), .val (.ref a2), .val (.ref a2)] [(.ref a19), (.ref a16)])) rfl (by rw [hml]; rfl) (argsL := [(.ref a16), (.ref a19)]) (rest := []) (lenOf pd_20 rfl) rfl (by show 2 * 0 + _ ≤ _; exact Nat.le_of_eq rfl) (hb hby d30_44) (fun _ _ => ⟨rfl, e21, (by decide : 0 + 0 ≤ _), (by decide : 0 + 0 ≤ _)⟩)
    dsimp only [Pt.U, Pt.locs, Pt.cells, Pt.slots] at X26 l26 y26 z26 st26 hQ26
    subst l26 y26 z26
    obtain ⟨rfl, u28, u29⟩ := hQ26
    have N26 := Fr.app N0 u28
    obtain ⟨fs, hr, hrun, hended, hW, hsame⟩ := X26.leave (v := some (.int (1 : Int32))) (fun h => by rw [Bd.returns] at h; cases h)
    refine ⟨_, _, pre3 _ ?_, hrun, hended, _, _, rfl, ?_, ⟨_, rfl⟩, hW, hsame.mono (by decide) (by decide)⟩
    · show Steps p.tables e below (s₁.setTop (mkF m 2 #[.val (.ref a1), .val (.ref a2), .unset] [(.ref a2), (.ref a1)])) _
      refine Jvm.RoadKit.acmp (g := (mkF m 2 #[.val (.ref a1), .val (.ref a2), .unset] [(.ref a2), (.ref a1)])) X0 hx rfl rfl rfl (pc0 := 2) (pc' := 7) (same := false) rfl (hb hby d30_2) rfl (decide_eq_false fun q => ha4 (Value.ref.inj q)) (by decide) (by decide) ?_
      refine XS.aloadN X0.here hx rfl (hb hby d30_7) rfl rfl ?_
      refine st6 _ ?_
      refine XS.ifNo X6.here hx rfl (hb hby d30_11) rfl ((if0 _ _).trans (feq (by decide +kernel : ¬ ((1 : Int32) = (0 : Int32)))).1) ?_
      refine XS.aloadN X6.here hx rfl (hb hby d30_14) rfl rfl ?_
      refine st7 _ ?_
      refine XS.astoreN X7.here hx rfl (hb hby d30_18) rfl rfl (l' := #[.val (.ref a1), .val (.ref a2), .val (.ref a2)]) rfl ?_
      refine st10 _ ?_
      refine XS.ifNo X10.here hx rfl (hb hby d30_22) rfl ((if0 _ _).trans (feq hk11).1) ?_
      show Steps p.tables e below (T10.setTop (mkF m 25 #[.val (.ref a1), .val (.ref a2), .val (.ref a2)] [])) _
      refine XS.aloadN X10.here hx rfl (hb hby d30_25) rfl rfl ?_
      refine st13 _ ?_
      refine XS.aloadN X13.here hx rfl (hb hby d30_29) rfl rfl ?_
      refine st15 _ ?_
      refine XS.icmpNo X15.here hx rfl (hb hby d30_33) rfl (teq (by decide +kernel : (0 : Int32) = (0 : Int32))).2 ?_
      refine XS.aloadN X15.here hx rfl (hb hby d30_36) rfl rfl ?_
      refine st18 _ ?_
      refine XS.aloadN X18.here hx rfl (hb hby d30_40) rfl rfl ?_
      refine st21 _ ?_
      show Steps p.tables e below (T21.setTop (mkF m 44 #[.val (.ref a1), .val (.ref a2), .val (.ref a2)] [(.ref a19), (.ref a16)])) _
      refine st26 _ ?_
      refine XS.ifNo X26.here hx rfl (hb hby d30_47) rfl ((if0 _ _).trans (feq (by decide +kernel : ¬ ((1 : Int32) = (0 : Int32)))).1) ?_
      refine XS.iconst X26.here hx rfl (hb hby d30_50) ?_
      refine XS.goto X26.here hx rfl (pc0 := 51) (pc' := 55) rfl (hb hby d30_51) (by decide) (by decide) ?_
      show Steps p.tables e below (T26.setTop (mkF m 55 #[.val (.ref a1), .val (.ref a2), .val (.ref a2)] [(.int (1 : Int32))])) _
      exact retN X26 hx (t := .boolean) Bd.returns (by simp) (hb hby d30_55) hr
    · show Q30_68 Z _ _ _ _ _ _ _ h0 n0 _ T26.heap _
      rw [u29]
      exact ⟨rfl, N26, rfl⟩
theorem ef_rm0 (m : MethodId)  : entryFrame m #[] maxLocals = mkF m 0 #[.unset] [] := by first | (simp [entryFrame, mkF, argsToLocals, Value.category, maxLocals]; done) | rfl
def Q0 (Z : State) (a1 : Addr) (a3 : Addr) (a4 : Addr) (a5 : Addr) (a6 : Addr) (k7 : ClassId) (a10 : Addr) (a13 : Addr) (k15 : ClassId) (p17 : Int32) (a21 : Addr) (a24 : Addr) (k26 : ClassId) (a29 : Addr) (a32 : Addr) (k34 : ClassId) (a37 : Addr) (a40 : Addr) (k42 : ClassId) (h0 : Heap) (n0 : Nat) (v : Option Value) (h : Heap) (L : List Loc) : Prop := v = some (.int 1) ∧ Fr n0 L
set_option maxRecDepth 65536 in
set_option maxHeartbeats 40000000 in
theorem rm0 (l : Launch) (Z : State) (a0 : Array Value) (hw : ∀ d ∈ own_ws, d.before a0 Z = true) (ws : List Jvm.Cond) (a1 : Addr) (a3 : Addr) (a4 : Addr) (a5 : Addr) (a6 : Addr) (k7 : ClassId) (a10 : Addr) (a13 : Addr) (k15 : ClassId) (p17 : Int32) (a21 : Addr) (a24 : Addr) (k26 : ClassId) (a29 : Addr) (a32 : Addr) (k34 : ClassId) (a37 : Addr) (a40 : Addr) (k42 : ClassId) (h0 : Heap) (n0 : Nat) (O0 : Old Z n0 h0) (S_2 : Sta Z Z.heap C_0 "$VALUES" C_1 (.ref a1)) (V8 : Arv Z Z.heap a1 k7 (.object "com/example/stern_warden/sternwarden/model/AccessMode") (4 : Int32) [(.ref a3), (.ref a4), (.ref a5), (.ref a6)] .null) (E_9 : Exa Z Z.heap a1 C_1) (F11 : Fld Z Z.heap a3 C_0 "localName" C_3 (.ref a10)) (E_12 : Exa Z Z.heap a10 C_4) (F14 : Fld Z Z.heap a10 C_4 "value" "[B" (.ref a13)) (V16 : Arv Z Z.heap a13 k15 .byte (4 : Int32) [(.int (82 : Int32)), (.int (101 : Int32)), (.int (97 : Int32)), (.int (100 : Int32))] (.int (0 : Int32))) (S_18 : Sta Z Z.heap C_4 "COMPACT_STRINGS" "Z" (.int p17)) (hk19 : ¬ (p17 = (0 : Int32))) (F20 : Fld Z Z.heap a10 C_4 "coder" "B" (.int (0 : Int32))) (F22 : Fld Z Z.heap a4 C_0 "localName" C_3 (.ref a21)) (E_23 : Exa Z Z.heap a21 C_4) (F25 : Fld Z Z.heap a21 C_4 "value" "[B" (.ref a24)) (V27 : Arv Z Z.heap a24 k26 .byte (5 : Int32) [(.int (87 : Int32)), (.int (114 : Int32)), (.int (105 : Int32)), (.int (116 : Int32)), (.int (101 : Int32))] (.int (0 : Int32))) (F28 : Fld Z Z.heap a21 C_4 "coder" "B" (.int (0 : Int32))) (F30 : Fld Z Z.heap a5 C_0 "localName" C_3 (.ref a29)) (E_31 : Exa Z Z.heap a29 C_4) (F33 : Fld Z Z.heap a29 C_4 "value" "[B" (.ref a32)) (V35 : Arv Z Z.heap a32 k34 .byte (6 : Int32) [(.int (65 : Int32)), (.int (112 : Int32)), (.int (112 : Int32)), (.int (101 : Int32)), (.int (110 : Int32)), (.int (100 : Int32))] (.int (0 : Int32))) (F36 : Fld Z Z.heap a29 C_4 "coder" "B" (.int (0 : Int32))) (F38 : Fld Z Z.heap a6 C_0 "localName" C_3 (.ref a37)) (E_39 : Exa Z Z.heap a37 C_4) (F41 : Fld Z Z.heap a37 C_4 "value" "[B" (.ref a40)) (V43 : Arv Z Z.heap a40 k42 .byte (7 : Int32) [(.int (67 : Int32)), (.int (111 : Int32)), (.int (110 : Int32)), (.int (116 : Int32)), (.int (114 : Int32)), (.int (111 : Int32)), (.int (108 : Int32))] (.int (0 : Int32))) (F44 : Fld Z Z.heap a37 C_4 "coder" "B" (.int (0 : Int32))) :
    MetFree l x (head1 (Jvm.Cond.code x code maxLocals ret :: ws) room_1) (fun a U => a = #[] ∧ Z.Warmed39 U.vm ∧ U.heap = h0 ∧ CHv Z own_EL U.vm h0) (fun _ _ _ _ _ => True) (fun _ U o U' => ∃ v L, o = .returned v ∧ Q0 Z a1 a3 a4 a5 a6 k7 a10 a13 k15 p17 a21 a24 k26 a29 a32 k34 a37 a40 k42 h0 n0 v U'.heap L ∧ ReturnedEndW U o U' L room_1.cells room_1.slots) := by
  refine MetFree.of_bodySF (plainFor_of_name pn_7) hisR ?_
  intro p e s m args below meth c s₁ Bd hml0 hP hK
  obtain ⟨rfl, hZ, hh, hCH⟩ := hP
  have hx := Bd.exec
  have hby := Bd.bytes
  have hml : c.maxLocals = 1 := hml0
  have hown : s.vm.findClass "com/example/stern_warden/sternwarden/model/AccessModeListNamesPinLaw" = some m.cls := findClass_of_methodNamed Bd.named
  have hnm := (name_of_methodNamed Bd.named Bd.method).1
  have X0 : Stand p l e room_1 s m #[] below meth c s₁ [] 0 0 := Stand.of_body Bd
  have e0 : s₁.heap = h0 := by rw [← hh, Bd.state]; rfl
  have N0 := Fr.nil n0
  have Y0 : h0.size ≤ h0.size := Nat.le_refl _
  have hS0 : s.Since s.vm h0.size := (State.WarmedH.refl s).since _
  have CR0 : CHr Z own_EL s.vm h0 s.vm h0 := CHr.refl hCH
  have pre0 : ∀ t, Steps p.tables e below (s₁.setTop (mkF m 0 #[.unset] [])) t → Steps p.tables e below (s₁.setTop (entryFrame m #[] maxLocals)) t := fun t k => castTop (ef_rm0 m ) k
  obtain ⟨_, _, ⟨T45, L45, k45, n45⟩, -, X45, sn45, gr45, ⟨Lc45, hQ45, l45, y45, z45, cg45⟩, st45⟩ := callSS X0 hx (y := M_27) hown (mvT hZ (hw _ (gw 0 rfl))) (mvT hZ (hw _ (gw 1 rfl))) (mvT hZ (hw _ (gw 2 rfl))) (mvT hZ (hw _ (gw 3 rfl))) (by decide) (backOfSH (s := s) (vm0 := s.vm) (EL := own_EL) (W := 0) (rm1_2 l Z a0 hw [] a1 a3 a4 a5 a6 k7 a10 a13 k15 p17 a21 a24 k26 a29 a32 k34 a37 a40 k42 h0 n0  O0 S_2 V8 E_9 F11 E_12 F14 V16 S_18 hk19 F20 F22 E_23 F25 V27 F28 F30 E_31 F33 V35 F36 F38 E_39 F41 V43 F44) hZ (hw _ (gw 3 rfl)) (hw _ (gw 2 rfl)) (by decide) (by decide) (own_EW hw) CR0.1) (g := (mkF m 0 #[.unset] [])) rfl (by rw [hml]; rfl) (argsL := []) (rest := []) (lenOf pd_19 rfl) rfl (by show 2 * 0 + _ ≤ _; exact Nat.le_of_eq rfl) (hb hby at_0) (fun _ _ => ⟨rfl, e0, (by decide : 0 + 12 ≤ _), (by decide : 0 + 153 ≤ _)⟩)
  dsimp only [Pt.U, Pt.locs, Pt.cells, Pt.slots] at X45 l45 y45 z45 st45 hQ45 sn45 gr45 cg45
  subst l45 y45 z45
  have gs45 : h0.size ≤ T45.heap.size := by have q := gr45; rw [e0] at q; exact q
  have hS45 : s.Since T45.vm T45.heap.size := hS0.trans sn45 (Nat.le_trans Y0 gs45)
  have hZ45 : Z.Warmed39 (s.setVm T45.vm).vm := State.Warmed39.trans (t := s) hZ sn45.1
  have hown45 : (s.setVm T45.vm).vm.findClass "com/example/stern_warden/sternwarden/model/AccessModeListNamesPinLaw" = some m.cls := by rw [show (s.setVm T45.vm).vm = T45.vm from rfl, sn45.1.alike.findClass]; exact hown
  obtain ⟨b46, b47, k48, rfl, u50, u51, u52, u53, u54, u55, Ku56, u57, u58, u59, u60, u61⟩ := hQ45
  have Ou56 : Old Z n0 T45.heap := O0.keep Ku56 all0
  have chu56 := cg45
  have CRu56 := CR0.trans chu56
  have g_b46 : n0 ≤ b46 := Nat.le_trans (own_z O0) u51
  have sz_b46 : h0.size ≤ b46 := Nat.le_trans (Nat.le_refl _) u51
  have g_b47 : n0 ≤ b47 := Nat.le_trans (own_z O0) u53
  have sz_b47 : h0.size ≤ b47 := Nat.le_trans (Nat.le_refl _) u53
  have N45 := Fr.app N0 u50
  obtain ⟨b62, T62, h62, kk62, bv62, k62, X62, e62, E62, hS62, hk62, hZ62, hown62, A62, Fc62, Fv62, V62, lta62, ltb62, cg62, Lt62, ns62, st62⟩ := ldcCH (s := s) (vm0 := T45.vm) (EL := own_EL) X45 hx hZ45 hown45 (hw _ (gw 174 rfl)) (own_wS hw) rfl hS45 (Nat.le_refl _) (own_EW hw) (by decide) CRu56.1 (vs := [(.int (82 : Int32)), (.int (101 : Int32)), (.int (97 : Int32)), (.int (100 : Int32)), (.int (44 : Int32)), (.int (32 : Int32)), (.int (87 : Int32)), (.int (114 : Int32)), (.int (105 : Int32)), (.int (116 : Int32)), (.int (101 : Int32)), (.int (44 : Int32)), (.int (32 : Int32)), (.int (65 : Int32)), (.int (112 : Int32)), (.int (112 : Int32)), (.int (101 : Int32)), (.int (110 : Int32)), (.int (100 : Int32)), (.int (32 : Int32)), (.int (97 : Int32)), (.int (110 : Int32)), (.int (100 : Int32)), (.int (32 : Int32)), (.int (67 : Int32)), (.int (111 : Int32)), (.int (110 : Int32)), (.int (116 : Int32)), (.int (114 : Int32)), (.int (111 : Int32)), (.int (108 : Int32))]) (z := (31 : Int32)) (by decide +kernel) (by decide +kernel) (by decide +kernel) (g := (mkF m 5 #[.val (.ref b46)] [(.ref b46)])) rfl (hb hby at_5) (n := 124) (by decide +kernel) (by decide) (by decide) (by decide)
  have O62 : Old Z n0 h62 := Ou56.ext E62
  have ch62 := cg62
  have CR62 := CRu56.trans ch62
  have f63 : Fld Z h62 b46 C_4 "coder" "B" (.int (0 : Int32)) := (Fld.ext E62 u58)
  have f64 : Fld Z h62 b46 C_4 "value" "[B" (.ref b47) := (Fld.ext E62 u59)
  have f65 : Arv Z h62 b47 k48 .byte (31 : Int32) [(.int (82 : Int32)), (.int (101 : Int32)), (.int (97 : Int32)), (.int (100 : Int32)), (.int (44 : Int32)), (.int (32 : Int32)), (.int (87 : Int32)), (.int (114 : Int32)), (.int (105 : Int32)), (.int (116 : Int32)), (.int (101 : Int32)), (.int (44 : Int32)), (.int (32 : Int32)), (.int (65 : Int32)), (.int (112 : Int32)), (.int (112 : Int32)), (.int (101 : Int32)), (.int (110 : Int32)), (.int (100 : Int32)), (.int (32 : Int32)), (.int (97 : Int32)), (.int (110 : Int32)), (.int (100 : Int32)), (.int (32 : Int32)), (.int (67 : Int32)), (.int (111 : Int32)), (.int (110 : Int32)), (.int (116 : Int32)), (.int (114 : Int32)), (.int (111 : Int32)), (.int (108 : Int32))] (.int (0 : Int32)) := (u61.ext E62)
  have f67 : Exa Z h62 b46 C_4 := (Exa.ext E62 u57)
  obtain ⟨cq66, kq66, q66a, q66b, q66c⟩ := isOf hZ62 e62 f67
  obtain ⟨_, _, ⟨T66, L66, k66, n66⟩, -, X66, ⟨Lc66, hQ66, l66, y66, z66⟩, st66⟩ := X62.virtualBack hx (y := M_29) (z := M_29) hown62 (mvT hZ62 (hw _ (gw 175 rfl))) (mvT hZ62 (hw _ (gw 176 rfl))) (notFace_of_selects (args := #[]) (mvT hZ62 (hw _ (gw 178 rfl)))) (mvT hZ62 (hw _ (gw 178 rfl))) (mvT hZ62 (hw _ (gw 177 rfl))) (by decide) (backOf (W := 0) (rm30_68 l Z a0 hw [] b46 b62 p17 b47 bv62 k48 k62 h62 n0  O62 A62 S_18 hk19 f63 Fc62 f64 Fv62 f65 V62) hZ62 (hw _ (gw 179 rfl)) (hw _ (gw 44 rfl)) (by decide) (by decide)) q66a q66c (g := (mkF m 7 #[.val (.ref b46)] [(.ref b62), (.ref b46)])) rfl (by rw [hml]; rfl) (Steps.refl _) (argsL := [(.ref b62)]) (rest := []) (lenOf pd_21 rfl) rfl (by show 2 * 0 + _ ≤ _; exact Nat.le_of_eq rfl) (hb hby at_7) (fun _ _ => ⟨rfl, e62, (by decide : 14 + 0 ≤ _), (by decide : 281 + 0 ≤ _)⟩)
  dsimp only [Pt.U, Pt.locs, Pt.cells, Pt.slots] at X66 l66 y66 z66 st66 hQ66
  subst l66 y66 z66
  obtain ⟨rfl, u69, u70⟩ := hQ66
  have N66 := Fr.app N45 u69
  obtain ⟨fs, hr, hrun, hended, hEnd⟩ := X66.leaveW (s := s) (vm₁ := T62.vm) hS62 (by rw [u70]; exact hk62) (v := some (.int (1 : Int32))) (fun h => by rw [Bd.returns] at h; cases h)
  refine ⟨_, _, pre0 _ ?_, hrun, hended, _, _, rfl, ?_, hEnd.1, hEnd.2.1, hEnd.2.2.1, hEnd.2.2.2.mono (by decide) (by decide)⟩
  · show Steps p.tables e below (s₁.setTop (mkF m 0 #[.unset] [])) _
    refine st45.trans ?_
    refine XS.astoreN X45.here hx rfl (hb hby at_3) rfl rfl (l' := #[.val (.ref b46)]) rfl ?_
    refine XS.aloadN X45.here hx rfl (hb hby at_4) rfl rfl ?_
    refine st62 _ ?_
    refine st66.trans ?_
    show Steps p.tables e below (T66.setTop (mkF m 10 #[.val (.ref b46)] [(.int (1 : Int32))])) _
    exact retN X66 hx (t := .boolean) Bd.returns (by simp) (hb hby at_10) hr
  · show Q0 Z _ _ _ _ _ _ _ _ _ _ _ _ _ _ _ _ _ _ _ h0 n0 _ T66.heap _
    rw [u70]
    exact ⟨rfl, N66⟩
set_option maxRecDepth 65536 in
set_option maxHeartbeats 40000000 in
theorem comes_1 {Post : Tables → Env → Array Value → State → Outcome → State → Prop} (hpost : ∀ tb e args s v u, (limb_1_1.after args s (.returned v) u = true ∧ limb_1_2.after args s (.returned v) u = true ∧ True) → ReturnedEndW s (.returned v) u (Jvm.fieldLocs frame_1_writes args s ++ Jvm.arrayLocs frame_1_arrays args s ++ Jvm.staticLocs frame_1_statics s) 32 3392 → Post tb e args s (.returned v) u) :
    ArmFor flags0 classFile x code maxLocals ret World_1 tables_1 room_1 Calls_1 rest_1 Pre_1 Post := by
  intro l hfl _ _ p e ha hc hk s m args below hf hA hF happ hP
  obtain ⟨hcalls, hrest, hpre⟩ := hP
  obtain ⟨-, -, -, hnamed, -, -, -, hat⟩ := (Spec.applies_iff hf).mp happ
  obtain ⟨hg, hn⟩ := and_e (Cond.before_iff.mp (show (Jvm.Cond.and given_1 narrow_1).before args s = true from hpre))
  have h1 := hg
  obtain rfl : args = #[] := by
    have hs : args.size = 0 := by simpa [Cond.value, given_1] using h1
    exact Array.eq_empty_of_size_eq_zero hs
  have hwt := fun d (hd : d ∈ tables_1) => atoms_spec (ws := Jvm.Cond.code x code maxLocals ret :: tables_1) hat d (List.mem_cons_of_mem _ hd)
  obtain ⟨hsets, hown0⟩ := atoms_of _ (rest_1_c_eq ▸ (show rest_1_c.before _ s = true from hrest))
  have hw : ∀ d ∈ own_ws, d.before _ s = true := fun d hd => (List.mem_append.mp hd).elim (hwt d) (hsets d)
  have hfit : Fit s := fun {y c} hc i hi => by
    obtain ⟨ha, rfl⟩ := Array.getElem?_eq_some_iff.mp hc
    have q := List.all_eq_true.mp ((Array.all_eq_true_iff_forall_mem.mp hF) _ (Array.getElem_mem ha)) i (List.mem_range.mpr hi)
    simpa [Array.getElem?_eq_getElem hi] using q
  have hheld : ∀ p ∈ own_EL, Jvm.Lit.constHeld s p.1 p.2 := own_held hcalls
  obtain ⟨c1, c2⟩ := and_e hn
  obtain ⟨c3, c4⟩ := and_e c2
  obtain ⟨c5, c6⟩ := and_e c4
  obtain ⟨c7, c8⟩ := and_e c6
  obtain ⟨c9, c10⟩ := and_e c8
  obtain ⟨c11, c12⟩ := and_e c10
  obtain ⟨c13, c14⟩ := and_e c12
  obtain ⟨c15, c16⟩ := and_e c14
  obtain ⟨c17, c18⟩ := and_e c16
  obtain ⟨c19, c20⟩ := and_e c18
  obtain ⟨c21, c22⟩ := and_e c20
  obtain ⟨c23, c24⟩ := and_e c22
  obtain ⟨c25, c26⟩ := and_e c24
  obtain ⟨c27, c28⟩ := and_e c26
  obtain ⟨c29, c30⟩ := and_e c28
  obtain ⟨c31, c32⟩ := and_e c30
  obtain ⟨c33, c34⟩ := and_e c32
  obtain ⟨c35, c36⟩ := and_e c34
  obtain ⟨c37, c38⟩ := and_e c36
  obtain ⟨c39, c40⟩ := and_e c38
  obtain ⟨c41, c42⟩ := and_e c40
  obtain ⟨c43, c44⟩ := and_e c42
  obtain ⟨c45, c46⟩ := and_e c44
  obtain ⟨c47, c48⟩ := and_e c46
  obtain ⟨c49, c50⟩ := and_e c48
  obtain ⟨c51, c52⟩ := and_e c50
  obtain ⟨c53, c54⟩ := and_e c52
  obtain ⟨c55, c56⟩ := and_e c54
  obtain ⟨c57, c58⟩ := and_e c56
  obtain ⟨c59, c60⟩ := and_e c58
  obtain ⟨c61, c62⟩ := and_e c60
  obtain ⟨c63, c64⟩ := and_e c62
  obtain ⟨c65, c66⟩ := and_e c64
  obtain ⟨c67, c68⟩ := and_e c66
  obtain ⟨c69, c70⟩ := and_e c68
  obtain ⟨c71, c72⟩ := and_e c70
  obtain ⟨c73, c74⟩ := and_e c72
  obtain ⟨c75, c76⟩ := and_e c74
  obtain ⟨c77, c78⟩ := and_e c76
  obtain ⟨c79, c80⟩ := and_e c78
  obtain ⟨c81, c82⟩ := and_e c80
  obtain ⟨c83, c84⟩ := and_e c82
  obtain ⟨c85, c86⟩ := and_e c84
  obtain ⟨c87, c88⟩ := and_e c86
  obtain ⟨c89, c90⟩ := and_e c88
  obtain ⟨c91, c92⟩ := and_e c90
  obtain ⟨c93, c94⟩ := and_e c92
  obtain ⟨c95, c96⟩ := and_e c94
  obtain ⟨c97, c98⟩ := and_e c96
  obtain ⟨c99, c100⟩ := and_e c98
  obtain ⟨c101, c102⟩ := and_e c100
  obtain ⟨c103, c104⟩ := and_e c102
  have hs1 := Cond.before_iff.mp (hsets _ (List.mem_of_getElem? (i := 1) rfl))
  have hs2 := Cond.before_iff.mp (hsets _ (List.mem_of_getElem? (i := 2) rfl))
  have hs8 := Cond.before_iff.mp (hsets _ (List.mem_of_getElem? (i := 8) rfl))
  obtain ⟨o1, ev_o1⟩ := arr_v c1
  have S_o1 : Sta s s.heap "com/example/stern_warden/sternwarden/model/AccessMode" "$VALUES" "[Lcom/example/stern_warden/sternwarden/model/AccessMode;" (.ref o1) := Sta.start ev_o1 (Or.inl (hw _ (gw 20 rfl)))
  obtain ⟨cl_o1, Ar_o1⟩ := Arr.start ev_o1 c1
  have E_o1 : Exa s s.heap o1 "[Lcom/example/stern_warden/sternwarden/model/AccessMode;" := Exa.start ev_o1 c3
  have ev105 := own_eqI c5
  obtain ⟨o2, ev_o2⟩ := exa_v c7
  have S_o2 : Sta s s.heap "com/example/stern_warden/sternwarden/model/AccessMode" "READ" "Lcom/example/stern_warden/sternwarden/model/AccessMode;" (.ref o2) := Sta.start ev_o2 (Or.inr ⟨(hw _ (gw 2 rfl)), (hw _ (gw 16 rfl))⟩)
  have E_o2 : Exa s s.heap o2 "com/example/stern_warden/sternwarden/model/AccessMode" := Exa.start ev_o2 c7
  have ev106 := own_eqR ev_o2 c9
  obtain ⟨o3, ev_o3⟩ := exa_v c11
  have S_o3 : Sta s s.heap "com/example/stern_warden/sternwarden/model/AccessMode" "WRITE" "Lcom/example/stern_warden/sternwarden/model/AccessMode;" (.ref o3) := Sta.start ev_o3 (Or.inr ⟨(hw _ (gw 2 rfl)), (hw _ (gw 17 rfl))⟩)
  have E_o3 : Exa s s.heap o3 "com/example/stern_warden/sternwarden/model/AccessMode" := Exa.start ev_o3 c11
  have ev107 := own_eqR ev_o3 c13
  obtain ⟨o4, ev_o4⟩ := exa_v c15
  have S_o4 : Sta s s.heap "com/example/stern_warden/sternwarden/model/AccessMode" "APPEND" "Lcom/example/stern_warden/sternwarden/model/AccessMode;" (.ref o4) := Sta.start ev_o4 (Or.inr ⟨(hw _ (gw 2 rfl)), (hw _ (gw 18 rfl))⟩)
  have E_o4 : Exa s s.heap o4 "com/example/stern_warden/sternwarden/model/AccessMode" := Exa.start ev_o4 c15
  have ev108 := own_eqR ev_o4 c17
  obtain ⟨o5, ev_o5⟩ := exa_v c19
  have S_o5 : Sta s s.heap "com/example/stern_warden/sternwarden/model/AccessMode" "CONTROL" "Lcom/example/stern_warden/sternwarden/model/AccessMode;" (.ref o5) := Sta.start ev_o5 (Or.inr ⟨(hw _ (gw 2 rfl)), (hw _ (gw 19 rfl))⟩)
  have E_o5 : Exa s s.heap o5 "com/example/stern_warden/sternwarden/model/AccessMode" := Exa.start ev_o5 c19
  have ev109 := own_eqR ev_o5 c21
  obtain ⟨o6, ev_o6⟩ := exa_v c23
  have Ff_o6 : Fld s s.heap o2 "com/example/stern_warden/sternwarden/model/AccessMode" "localName" "Ljava/lang/String;" (.ref o6) := Fld.start ((fld_at ev_o2).symm.trans ev_o6)
  have E_o6 : Exa s s.heap o6 "java/lang/String" := Exa.start ev_o6 c23
  obtain ⟨o7, ev_o7⟩ := arr_v c25
  have Ff_o7 : Fld s s.heap o6 "java/lang/String" "value" "[B" (.ref o7) := Fld.start ((fld_at ev_o6).symm.trans ev_o7)
  obtain ⟨cl_o7, Ar_o7⟩ := Arr.start ev_o7 c25
  have E_o7 : Exa s s.heap o7 "[B" := Exa.start ev_o7 c27
  have ev110 := own_eqI c29
  have F111 : Fld s s.heap o6 "java/lang/String" "coder" "B" (.int (0 : Int32)) := Fld.start ((fld_at ev_o6).symm.trans (own_eqI c31))
  have ev112 := own_eqI c33
  have ev113 := own_eqI c35
  have ev114 := own_eqI c37
  have ev115 := own_eqI c39
  obtain ⟨o8, ev_o8⟩ := exa_v c41
  have Ff_o8 : Fld s s.heap o3 "com/example/stern_warden/sternwarden/model/AccessMode" "localName" "Ljava/lang/String;" (.ref o8) := Fld.start ((fld_at ev_o3).symm.trans ev_o8)
  have E_o8 : Exa s s.heap o8 "java/lang/String" := Exa.start ev_o8 c41
  obtain ⟨o9, ev_o9⟩ := arr_v c43
  have Ff_o9 : Fld s s.heap o8 "java/lang/String" "value" "[B" (.ref o9) := Fld.start ((fld_at ev_o8).symm.trans ev_o9)
  obtain ⟨cl_o9, Ar_o9⟩ := Arr.start ev_o9 c43
  have E_o9 : Exa s s.heap o9 "[B" := Exa.start ev_o9 c45
  have ev116 := own_eqI c47
  have F117 : Fld s s.heap o8 "java/lang/String" "coder" "B" (.int (0 : Int32)) := Fld.start ((fld_at ev_o8).symm.trans (own_eqI c49))
  obtain ⟨o10, ev_o10⟩ := exa_v c51
  have Ff_o10 : Fld s s.heap o4 "com/example/stern_warden/sternwarden/model/AccessMode" "localName" "Ljava/lang/String;" (.ref o10) := Fld.start ((fld_at ev_o4).symm.trans ev_o10)
  have E_o10 : Exa s s.heap o10 "java/lang/String" := Exa.start ev_o10 c51
  obtain ⟨o11, ev_o11⟩ := arr_v c53
  have Ff_o11 : Fld s s.heap o10 "java/lang/String" "value" "[B" (.ref o11) := Fld.start ((fld_at ev_o10).symm.trans ev_o11)
  obtain ⟨cl_o11, Ar_o11⟩ := Arr.start ev_o11 c53
  have E_o11 : Exa s s.heap o11 "[B" := Exa.start ev_o11 c55
  have ev118 := own_eqI c57
  have F119 : Fld s s.heap o10 "java/lang/String" "coder" "B" (.int (0 : Int32)) := Fld.start ((fld_at ev_o10).symm.trans (own_eqI c59))
  obtain ⟨o12, ev_o12⟩ := exa_v c61
  have Ff_o12 : Fld s s.heap o5 "com/example/stern_warden/sternwarden/model/AccessMode" "localName" "Ljava/lang/String;" (.ref o12) := Fld.start ((fld_at ev_o5).symm.trans ev_o12)
  have E_o12 : Exa s s.heap o12 "java/lang/String" := Exa.start ev_o12 c61
  obtain ⟨o13, ev_o13⟩ := arr_v c63
  have Ff_o13 : Fld s s.heap o12 "java/lang/String" "value" "[B" (.ref o13) := Fld.start ((fld_at ev_o12).symm.trans ev_o13)
  obtain ⟨cl_o13, Ar_o13⟩ := Arr.start ev_o13 c63
  have E_o13 : Exa s s.heap o13 "[B" := Exa.start ev_o13 c65
  have ev120 := own_eqI c67
  have F121 : Fld s s.heap o12 "java/lang/String" "coder" "B" (.int (0 : Int32)) := Fld.start ((fld_at ev_o12).symm.trans (own_eqI c69))
  have ev122 := own_eqI c71
  have ev123 := own_eqI c73
  have ev124 := own_eqI c75
  have ev125 := own_eqI c77
  have ev126 := own_eqI c79
  have ev127 := own_eqI c81
  have ev128 := own_eqI c83
  have ev129 := own_eqI c85
  have ev130 := own_eqI c87
  have ev131 := own_eqI c89
  have ev132 := own_eqI c91
  have ev133 := own_eqI c93
  have ev134 := own_eqI c95
  have ev135 := own_eqI c97
  have ev136 := own_eqI c99
  have ev137 := own_eqI c101
  have ev138 := own_eqI c103
  have ev139 := own_eqI c104
  obtain ⟨n1, ev_n1⟩ := is_v hs1
  have S_n1 : Sta s s.heap "java/lang/String" "COMPACT_STRINGS" "Z" (.int n1) := Sta.start ev_n1 (Or.inl (hw _ (gw 185 rfl)))
  have cn140 : ¬ (n1 = (0 : Int32)) := gotF (Cond.eq_ints ev_n1 (Term.int_eval (0))) (not_v hs2)
  obtain ⟨r2, ev_r2, ir_r2⟩ := isR_v hs8
  have S_r2 : Sta s s.heap "jdk/internal/util/Preconditions" "SIOOBE_FORMATTER" "Ljava/util/function/BiFunction;" r2 := Sta.start ev_r2 (Or.inl (hw _ (gw 192 rfl)))
  obtain ⟨sm_o1, sz_o1⟩ := own_len ev_o1 Ar_o1 ev105
  have V_o1 : Arv s s.heap o1 cl_o1.cls (.object "com/example/stern_warden/sternwarden/model/AccessMode") (4 : Int32) [(.ref o2), (.ref o3), (.ref o4), (.ref o5)] .null := Arv.start hfit Ar_o1 sm_o1 sz_o1 (by decide +kernel) rfl ⟨own_elem ev_o1 Ar_o1 ev106 rfl, ⟨own_elem ev_o1 Ar_o1 ev107 rfl, ⟨own_elem ev_o1 Ar_o1 ev108 rfl, ⟨own_elem ev_o1 Ar_o1 ev109 rfl, trivial⟩⟩⟩⟩
  obtain ⟨sm_o7, sz_o7⟩ := own_len ev_o7 Ar_o7 ev110
  have V_o7 : Arv s s.heap o7 cl_o7.cls .byte (4 : Int32) [(.int (82 : Int32)), (.int (101 : Int32)), (.int (97 : Int32)), (.int (100 : Int32))] (.int (0 : Int32)) := Arv.start hfit Ar_o7 sm_o7 sz_o7 (by decide +kernel) rfl ⟨own_elem ev_o7 Ar_o7 ev112 rfl, ⟨own_elem ev_o7 Ar_o7 ev113 rfl, ⟨own_elem ev_o7 Ar_o7 ev114 rfl, ⟨own_elem ev_o7 Ar_o7 ev115 rfl, trivial⟩⟩⟩⟩
  obtain ⟨sm_o9, sz_o9⟩ := own_len ev_o9 Ar_o9 ev116
  have V_o9 : Arv s s.heap o9 cl_o9.cls .byte (5 : Int32) [(.int (87 : Int32)), (.int (114 : Int32)), (.int (105 : Int32)), (.int (116 : Int32)), (.int (101 : Int32))] (.int (0 : Int32)) := Arv.start hfit Ar_o9 sm_o9 sz_o9 (by decide +kernel) rfl ⟨own_elem ev_o9 Ar_o9 ev122 rfl, ⟨own_elem ev_o9 Ar_o9 ev123 rfl, ⟨own_elem ev_o9 Ar_o9 ev124 rfl, ⟨own_elem ev_o9 Ar_o9 ev125 rfl, ⟨own_elem ev_o9 Ar_o9 ev126 rfl, trivial⟩⟩⟩⟩⟩
  obtain ⟨sm_o11, sz_o11⟩ := own_len ev_o11 Ar_o11 ev118
  have V_o11 : Arv s s.heap o11 cl_o11.cls .byte (6 : Int32) [(.int (65 : Int32)), (.int (112 : Int32)), (.int (112 : Int32)), (.int (101 : Int32)), (.int (110 : Int32)), (.int (100 : Int32))] (.int (0 : Int32)) := Arv.start hfit Ar_o11 sm_o11 sz_o11 (by decide +kernel) rfl ⟨own_elem ev_o11 Ar_o11 ev127 rfl, ⟨own_elem ev_o11 Ar_o11 ev128 rfl, ⟨own_elem ev_o11 Ar_o11 ev129 rfl, ⟨own_elem ev_o11 Ar_o11 ev130 rfl, ⟨own_elem ev_o11 Ar_o11 ev131 rfl, ⟨own_elem ev_o11 Ar_o11 ev132 rfl, trivial⟩⟩⟩⟩⟩⟩
  obtain ⟨sm_o13, sz_o13⟩ := own_len ev_o13 Ar_o13 ev120
  have V_o13 : Arv s s.heap o13 cl_o13.cls .byte (7 : Int32) [(.int (67 : Int32)), (.int (111 : Int32)), (.int (110 : Int32)), (.int (116 : Int32)), (.int (114 : Int32)), (.int (111 : Int32)), (.int (108 : Int32))] (.int (0 : Int32)) := Arv.start hfit Ar_o13 sm_o13 sz_o13 (by decide +kernel) rfl ⟨own_elem ev_o13 Ar_o13 ev133 rfl, ⟨own_elem ev_o13 Ar_o13 ev134 rfl, ⟨own_elem ev_o13 Ar_o13 ev135 rfl, ⟨own_elem ev_o13 Ar_o13 ev136 rfl, ⟨own_elem ev_o13 Ar_o13 ev137 rfl, ⟨own_elem ev_o13 Ar_o13 ev138 rfl, ⟨own_elem ev_o13 Ar_o13 ev139 rfl, trivial⟩⟩⟩⟩⟩⟩⟩
  obtain ⟨n, o, h1, h2, h3, _, L, rfl, ⟨rfl, N⟩, hq⟩ := rm0 l s _ hw tables_1 o1 o2 o3 o4 o5 cl_o1.cls o6 o7 cl_o7.cls n1 o8 o9 cl_o9.cls o10 o11 cl_o11.cls o12 o13 cl_o13.cls s.heap s.heap.size (Old.start s) S_o1 V_o1 E_o1 Ff_o6 E_o6 Ff_o7 V_o7 S_n1 cn140 F111 Ff_o8 E_o8 Ff_o9 V_o9 F117 Ff_o10 E_o10 Ff_o11 V_o11 F119 Ff_o12 E_o12 Ff_o13 V_o13 F121 p e ha hc hk s m _ below hf ((Spec.applies_iff_loose hf).mp happ).1 ⟨rfl, State.Warmed39.refl s, rfl, CHv.start (own_EW hw) hheld (own_compact hw) (hw _ (gw 60 rfl)) (hw _ (gw 105 rfl))⟩ trivial
  refine ⟨n, _, h1, h2, h3, hpost _ _ _ _ _ _ ⟨Cond.after_iff.mpr rfl, Cond.after_iff.mpr (eq_i res_at (Term.int_eval (1)) rfl), trivial⟩ ⟨hq.1, hq.2.1, hq.2.2.1, (hq.2.2.2.sift fun y hy => Or.inr (N y hy)).mono (by decide) (by decide)⟩⟩
theorem main_1_1 : Claimed_1_1 := comes_1 fun _ _ _ _ _ _ h hF => ⟨h.1, hF⟩
theorem main_1_2 : Claimed_1_2 := comes_1 fun _ _ _ _ _ _ h hF => ⟨h.2.1, hF⟩
end Jvm.Pilot.@@N@@
namespace Jvm.Pilot.@@N@@
open Jvm Jvm.ClassFile Sem Op Lib Jvm.Free Jvm.Stand Jvm.Pilot.@@N@@.Jvm.D
/-! MADE BY PROGRAM (witnessworld.py) out of the Statement's table words and the real class files: 25 classes; the members and pool entries that the words name. The judged class is class 1, her method 1. -/
namespace start1
open Jvm.ClassFile
def u (s : String) : CpInfo := .utf8 (stringToUtf16 s)
/-- a pool by its gaps: so many unusable entries, then the entry; so many at the end -/
def gap : Nat → List CpInfo → List CpInfo
  | 0, r => r
  | n + 1, r => .unusable :: gap n r
def poolList (es : List (Nat × CpInfo)) (last : Nat) : List CpInfo := es.foldr (fun e r => gap e.1 (e.2 :: r)) (gap last [])
def pool (es : List (Nat × CpInfo)) (last : Nat) : Array CpInfo := ⟨poolList es last⟩
def fileOf (pool : Array CpInfo) (this : Nat) (attrs : Array Attribute := #[]) (ms : Array MethodInfo := #[]) (fl : Nat := 33) (sup : Nat := 0) (ifs : Array Nat := #[]) (fds : Array FieldInfo := #[]) : ClassFile where
  minorVersion := 0
  majorVersion := 65
  constantPool := pool
  accessFlags := fl
  thisClass := this
  superClass := sup
  interfaces := ifs
  fields := fds
  methods := ms
  attributes := attrs
def plain (name : String) (sup : Option ClassId) : Class where
  name := name
  kind := .ordinary
  loader := none
  accessFlags := 33
  super := sup
  interfaces := #[]
  cf := none
  fields := #[]
  methods := #[]
  instanceTypes := #[]
  staticTypes := #[]
  resolved := #[]
  callSites := []
  init := .initialized
  statics := none
  mirror := none

def pool0 : Array CpInfo := pool [(5, u "<init>"), (0, u "()V"), (1, .class_ 10), (1, u "java/lang/Object"), (85, u "clone"), (0, u "()Ljava/lang/Object;")] 26

def k0c0 : Code := { maxStack := 0, maxLocals := 1, code := object_method_1_code, exceptionTable := #[], attributes := #[] }
def k0m0 : Method := { name := "<init>", desc := "()V", sig := { parameters := [], returnType := none }, accessFlags := 1, code := some k0c0 }
def k0m1 : Method := { name := "clone", desc := "()Ljava/lang/Object;", sig := { parameters := [], returnType := some (.object "java/lang/Object") }, accessFlags := 260, code := none }
/-- java/lang/Object -/
def k0 : Class := { plain "java/lang/Object" none with
  accessFlags := 33
  interfaces := #[]
  cf := some (fileOf pool0 8 #[] #[{ accessFlags := 1, nameIndex := 5, descriptorIndex := 6, attributes := #[] }, { accessFlags := 260, nameIndex := 96, descriptorIndex := 97, attributes := #[] }] 33 0 #[] #[])
  fields := #[]
  methods := #[k0m0, k0m1]
  instanceTypes := #[]
  staticTypes := #[]
  resolved := Array.replicate 124 none
  statics := none }

def pool1 : Array CpInfo := pool [(2, .class_ 4), (1, u "java/lang/Object"), (0, u "<init>"), (0, u "()V"), (0, .methodref 8 9), (0, .class_ 10), (0, .nameAndType 11 12), (0, u "com/example/stern_warden/sternwarden/model/AccessMode"), (0, u "listNames"), (0, u "()Ljava/lang/String;"), (0, .string 14), (0, u "Read, Write, Append and Control"), (0, .methodref 16 17), (0, .class_ 18), (0, .nameAndType 19 20), (0, u "java/lang/String"), (0, u "equals"), (0, u "(Ljava/lang/Object;)Z"), (0, .class_ 22), (0, u "com/example/stern_warden/sternwarden/model/AccessModeListNamesPinLaw"), (2, u "law"), (0, u "()Z")] 2

def k1m0 : Method := { name := "<init>", desc := "()V", sig := { parameters := [], returnType := none }, accessFlags := 2, code := none }
def k1c1 : Code := { maxStack := 2, maxLocals := 1, code := code, exceptionTable := #[], attributes := #[] }
def k1m1 : Method := { name := "law", desc := "()Z", sig := { parameters := [], returnType := some .boolean }, accessFlags := 9, code := some k1c1 }
/-- com/example/stern_warden/sternwarden/model/AccessModeListNamesPinLaw -/
def k1 : Class := { plain "com/example/stern_warden/sternwarden/model/AccessModeListNamesPinLaw" (some 0) with
  accessFlags := 49
  interfaces := #[]
  cf := some (fileOf pool1 21 #[] #[{ accessFlags := 2, nameIndex := 5, descriptorIndex := 6, attributes := #[] }, { accessFlags := 9, nameIndex := 25, descriptorIndex := 26, attributes := #[] }] 49 2 #[] #[])
  fields := #[]
  methods := #[k1m0, k1m1]
  instanceTypes := #[]
  staticTypes := #[]
  resolved := Array.replicate 29 none
  statics := none }

def pool2 : Array CpInfo := pool [(1, .class_ 2), (0, u "java/lang/constant/Constable"), (0, .class_ 4), (0, u "java/lang/Object")] 6

/-- java/lang/constant/Constable -/
def k2 : Class := { plain "java/lang/constant/Constable" (some 0) with
  accessFlags := 1537
  interfaces := #[]
  cf := some (fileOf pool2 1 #[] #[] 1537 3 #[] #[])
  fields := #[]
  methods := #[]
  instanceTypes := #[]
  staticTypes := #[]
  resolved := Array.replicate 11 none
  statics := none }

def pool3 : Array CpInfo := pool [(1, .class_ 2), (0, u "java/lang/Comparable"), (0, .class_ 4), (0, u "java/lang/Object")] 7

/-- java/lang/Comparable -/
def k3 : Class := { plain "java/lang/Comparable" (some 0) with
  accessFlags := 1537
  interfaces := #[]
  cf := some (fileOf pool3 1 #[] #[] 1537 3 #[] #[])
  fields := #[]
  methods := #[]
  instanceTypes := #[]
  staticTypes := #[]
  resolved := Array.replicate 12 none
  statics := none }

def pool4 : Array CpInfo := pool [(1, .class_ 2), (0, u "java/io/Serializable"), (0, .class_ 4), (0, u "java/lang/Object")] 2

/-- java/io/Serializable -/
def k4 : Class := { plain "java/io/Serializable" (some 0) with
  accessFlags := 1537
  interfaces := #[]
  cf := some (fileOf pool4 1 #[] #[] 1537 3 #[] #[])
  fields := #[]
  methods := #[]
  instanceTypes := #[]
  staticTypes := #[]
  resolved := Array.replicate 7 none
  statics := none }

def pool5 : Array CpInfo := pool [(2, .class_ 4), (1, u "java/lang/Enum"), (0, u "name"), (0, u "Ljava/lang/String;"), (2, u "ordinal"), (0, u "I"), (1, .class_ 14), (1, u "java/lang/Object"), (4, u "hash"), (86, .class_ 108), (1, u "java/lang/Enum$EnumDesc"), (2, .class_ 112), (0, u "java/lang/constant/Constable"), (0, .class_ 114), (0, u "java/lang/Comparable"), (0, .class_ 116), (0, u "java/io/Serializable")] 87

/-- java/lang/Enum -/
def k5 : Class := { plain "java/lang/Enum" (some 0) with
  accessFlags := 1057
  interfaces := #[2, 3, 4]
  cf := some (fileOf pool5 2 #[.nestMembers #[106]] #[] 1057 12 #[111, 113, 115] #[{ accessFlags := 18, nameIndex := 5, descriptorIndex := 6, attributes := #[] }, { accessFlags := 18, nameIndex := 9, descriptorIndex := 10, attributes := #[] }, { accessFlags := 2, nameIndex := 19, descriptorIndex := 10, attributes := #[] }])
  fields := #[{ name := "name", type := (.object "java/lang/String"), accessFlags := 18, slot := 0, constantValue := 0 }, { name := "ordinal", type := .int, accessFlags := 18, slot := 1, constantValue := 0 }, { name := "hash", type := .int, accessFlags := 2, slot := 2, constantValue := 0 }]
  methods := #[]
  instanceTypes := #[(.object "java/lang/String"), .int, .int]
  staticTypes := #[]
  resolved := Array.replicate 204 none
  statics := none }

def pool6 : Array CpInfo := pool [(1, .class_ 2), (0, u "com/example/stern_warden/sternwarden/model/AccessMode"), (2, u "READ"), (0, u "Lcom/example/stern_warden/sternwarden/model/AccessMode;"), (2, u "WRITE"), (2, u "APPEND"), (2, u "CONTROL"), (0, .fieldref 1 17), (0, .nameAndType 18 19), (0, u "$VALUES"), (0, u "[Lcom/example/stern_warden/sternwarden/model/AccessMode;"), (0, .methodref 21 22), (0, .class_ 19), (0, .nameAndType 23 24), (0, u "clone"), (0, u "()Ljava/lang/Object;"), (1, .class_ 28), (1, u "java/lang/Enum"), (4, u "<init>"), (1, .fieldref 1 36), (0, .nameAndType 37 38), (0, u "localName"), (0, u "Ljava/lang/String;"), (6, u "iri"), (0, .methodref 1 47), (0, .nameAndType 48 49), (0, u "values"), (0, u "()[Lcom/example/stern_warden/sternwarden/model/AccessMode;"), (0, .class_ 51), (0, u "java/lang/StringBuilder"), (0, .methodref 50 53), (0, .nameAndType 33 54), (0, u "(Ljava/lang/String;)V"), (0, .string 56), (0, u " and "), (0, .string 58), (0, u ", "), (0, .methodref 50 60), (0, .nameAndType 61 62), (0, u "append"), (0, u "(Ljava/lang/String;)Ljava/lang/StringBuilder;"), (0, .methodref 50 64), (0, .nameAndType 65 66), (0, u "toString"), (0, u "()Ljava/lang/String;"), (62, u "listNames")] 22

def k6c0 : Code := { maxStack := 1, maxLocals := 0, code := prog_2_method_1_code, exceptionTable := #[], attributes := #[] }
def k6m0 : Method := { name := "values", desc := "()[Lcom/example/stern_warden/sternwarden/model/AccessMode;", sig := { parameters := [], returnType := some (.array (.object "com/example/stern_warden/sternwarden/model/AccessMode")) }, accessFlags := 9, code := some k6c0 }
def k6c1 : Code := { maxStack := 4, maxLocals := 3, code := prog_2_method_7_code, exceptionTable := #[], attributes := #[] }
def k6m1 : Method := { name := "listNames", desc := "()Ljava/lang/String;", sig := { parameters := [], returnType := some (.object "java/lang/String") }, accessFlags := 9, code := some k6c1 }
/-- com/example/stern_warden/sternwarden/model/AccessMode -/
def k6 : Class := { plain "com/example/stern_warden/sternwarden/model/AccessMode" (some 5) with
  accessFlags := 16433
  interfaces := #[]
  cf := some (fileOf pool6 1 #[] #[{ accessFlags := 9, nameIndex := 48, descriptorIndex := 49, attributes := #[] }, { accessFlags := 9, nameIndex := 129, descriptorIndex := 66, attributes := #[] }] 16433 26 #[] #[{ accessFlags := 16409, nameIndex := 5, descriptorIndex := 6, attributes := #[] }, { accessFlags := 16409, nameIndex := 9, descriptorIndex := 6, attributes := #[] }, { accessFlags := 16409, nameIndex := 12, descriptorIndex := 6, attributes := #[] }, { accessFlags := 16409, nameIndex := 15, descriptorIndex := 6, attributes := #[] }, { accessFlags := 18, nameIndex := 37, descriptorIndex := 38, attributes := #[] }, { accessFlags := 18, nameIndex := 45, descriptorIndex := 38, attributes := #[] }, { accessFlags := 4122, nameIndex := 18, descriptorIndex := 19, attributes := #[] }])
  fields := #[{ name := "READ", type := (.object "com/example/stern_warden/sternwarden/model/AccessMode"), accessFlags := 16409, slot := 0, constantValue := 0 }, { name := "WRITE", type := (.object "com/example/stern_warden/sternwarden/model/AccessMode"), accessFlags := 16409, slot := 1, constantValue := 0 }, { name := "APPEND", type := (.object "com/example/stern_warden/sternwarden/model/AccessMode"), accessFlags := 16409, slot := 2, constantValue := 0 }, { name := "CONTROL", type := (.object "com/example/stern_warden/sternwarden/model/AccessMode"), accessFlags := 16409, slot := 3, constantValue := 0 }, { name := "localName", type := (.object "java/lang/String"), accessFlags := 18, slot := 3, constantValue := 0 }, { name := "iri", type := (.object "java/lang/String"), accessFlags := 18, slot := 4, constantValue := 0 }, { name := "$VALUES", type := (.array (.object "com/example/stern_warden/sternwarden/model/AccessMode")), accessFlags := 4122, slot := 4, constantValue := 0 }]
  methods := #[k6m0, k6m1]
  instanceTypes := #[(.object "java/lang/String"), .int, .int, (.object "java/lang/String"), (.object "java/lang/String")]
  staticTypes := #[(.object "com/example/stern_warden/sternwarden/model/AccessMode"), (.object "com/example/stern_warden/sternwarden/model/AccessMode"), (.object "com/example/stern_warden/sternwarden/model/AccessMode"), (.object "com/example/stern_warden/sternwarden/model/AccessMode"), (.array (.object "com/example/stern_warden/sternwarden/model/AccessMode"))]
  resolved := Array.replicate 152 none
  statics := some 0 }

def pool7 : Array CpInfo := pool [(1, .class_ 2), (0, u "java/lang/Cloneable"), (0, .class_ 4), (0, u "java/lang/Object")] 2

/-- java/lang/Cloneable -/
def k7 : Class := { plain "java/lang/Cloneable" (some 0) with
  accessFlags := 1537
  interfaces := #[]
  cf := some (fileOf pool7 1 #[] #[] 1537 3 #[] #[])
  fields := #[]
  methods := #[]
  instanceTypes := #[]
  staticTypes := #[]
  resolved := Array.replicate 7 none
  statics := none }

def pool8 : Array CpInfo := pool [(1, .class_ 2), (0, u "java/lang/Appendable"), (0, .class_ 4), (0, u "java/lang/Object")] 9

/-- java/lang/Appendable -/
def k8 : Class := { plain "java/lang/Appendable" (some 0) with
  accessFlags := 1537
  interfaces := #[]
  cf := some (fileOf pool8 1 #[] #[] 1537 3 #[] #[])
  fields := #[]
  methods := #[]
  instanceTypes := #[]
  staticTypes := #[]
  resolved := Array.replicate 14 none
  statics := none }

def pool9 : Array CpInfo := pool [(2, .class_ 4), (1, u "java/lang/CharSequence"), (42, .class_ 48), (0, u "java/lang/CharSequence$1CodePointIterator"), (10, .class_ 60), (0, u "java/lang/CharSequence$1CharIterator"), (5, .class_ 67), (0, u "java/lang/Object")] 63

/-- java/lang/CharSequence -/
def k9 : Class := { plain "java/lang/CharSequence" (some 0) with
  accessFlags := 1537
  interfaces := #[]
  cf := some (fileOf pool9 2 #[.nestMembers #[47, 59]] #[] 1537 66 #[] #[])
  fields := #[]
  methods := #[]
  instanceTypes := #[]
  staticTypes := #[]
  resolved := Array.replicate 131 none
  statics := none }

def pool10 : Array CpInfo := pool [(1, .class_ 2), (0, u "java/lang/String"), (0, .methodref 4 5), (0, .class_ 6), (0, .nameAndType 7 8), (0, u "java/lang/Object"), (0, u "<init>"), (0, u "()V"), (1, .class_ 12), (1, u "java/lang/AbstractStringBuilder"), (0, u "EMPTYVALUE"), (0, u "[B"), (0, .fieldref 10 16), (0, .nameAndType 17 14), (0, u "value"), (0, .fieldref 1 19), (0, .nameAndType 20 21), (0, u "COMPACT_STRINGS"), (0, u "Z"), (0, .fieldref 10 23), (0, .nameAndType 24 25), (0, u "coder"), (0, u "B"), (6, .methodref 1 33), (0, .nameAndType 34 35), (0, u "length"), (0, u "()I"), (2, .integer 2147483631), (0, .integer 2147483647), (0, .methodref 1 41), (0, .nameAndType 24 42), (0, u "()B"), (0, .methodref 10 44), (0, .nameAndType 45 46), (0, u "append"), (0, u "(Ljava/lang/String;)Ljava/lang/AbstractStringBuilder;"), (1, .class_ 49), (0, u "java/lang/CharSequence"), (19, u "(Ljava/lang/String;)V"), (5, u "maybeLatin1"), (3, .fieldref 10 80), (0, .nameAndType 81 82), (0, u "count"), (0, u "I"), (2, u "isLatin1"), (0, u "()Z"), (13, .methodref 10 101), (0, .nameAndType 102 103), (0, u "ensureCapacityInternal"), (0, u "(I)V"), (0, .methodref 10 105), (0, .nameAndType 106 107), (0, u "newCapacity"), (0, u "(I)I"), (0, .methodref 109 110), (0, .class_ 111), (0, .nameAndType 112 113), (0, u "java/util/Arrays"), (0, u "copyOf"), (0, u "([BI)[B"), (0, .methodref 115 116), (0, .class_ 117), (0, .nameAndType 118 119), (0, u "jdk/internal/util/ArraysSupport"), (0, u "newLength"), (0, u "(III)I"), (88, .methodref 10 209), (0, .nameAndType 210 211), (0, u "putStringAt"), (0, u "(ILjava/lang/String;)V"), (5, u "inflateIfNeededFor"), (2, .nameAndType 221 222), (0, u "getBytes"), (0, u "([BIB)V"), (174, .methodref 10 398), (0, .nameAndType 217 69), (0, .methodref 1 220), (3, u "()[B"), (40, .class_ 445), (0, u "java/lang/Appendable"), (106, u "getValue")] 56

def k10m0 : Method := { name := "<init>", desc := "()V", sig := { parameters := [], returnType := none }, accessFlags := 0, code := none }
def k10c1 : Code := { maxStack := 2, maxLocals := 5, code := jdk_68_method_3_code, exceptionTable := #[], attributes := #[] }
def k10m1 : Method := { name := "<init>", desc := "(Ljava/lang/String;)V", sig := { parameters := [(.object "java/lang/String")], returnType := none }, accessFlags := 0, code := some k10c1 }
def k10c2 : Code := { maxStack := 1, maxLocals := 1, code := jdk_68_method_6_code, exceptionTable := #[], attributes := #[] }
def k10m2 : Method := { name := "length", desc := "()I", sig := { parameters := [], returnType := some .int }, accessFlags := 1, code := some k10c2 }
def k10c3 : Code := { maxStack := 4, maxLocals := 3, code := jdk_68_method_9_code, exceptionTable := #[], attributes := #[] }
def k10m3 : Method := { name := "ensureCapacityInternal", desc := "(I)V", sig := { parameters := [.int], returnType := none }, accessFlags := 2, code := some k10c3 }
def k10c4 : Code := { maxStack := 5, maxLocals := 6, code := jdk_68_method_10_code, exceptionTable := #[], attributes := #[] }
def k10m4 : Method := { name := "newCapacity", desc := "(I)I", sig := { parameters := [.int], returnType := some .int }, accessFlags := 2, code := some k10c4 }
def k10c5 : Code := { maxStack := 3, maxLocals := 3, code := jdk_68_method_22_code, exceptionTable := #[], attributes := #[] }
def k10m5 : Method := { name := "append", desc := "(Ljava/lang/String;)Ljava/lang/AbstractStringBuilder;", sig := { parameters := [(.object "java/lang/String")], returnType := some (.object "java/lang/AbstractStringBuilder") }, accessFlags := 1, code := some k10c5 }
def k10c6 : Code := { maxStack := 1, maxLocals := 1, code := jdk_68_method_64_code, exceptionTable := #[], attributes := #[] }
def k10m6 : Method := { name := "getValue", desc := "()[B", sig := { parameters := [], returnType := some (.array .byte) }, accessFlags := 16, code := some k10c6 }
def k10c7 : Code := { maxStack := 1, maxLocals := 1, code := jdk_68_method_68_code, exceptionTable := #[], attributes := #[] }
def k10m7 : Method := { name := "isLatin1", desc := "()Z", sig := { parameters := [], returnType := some .boolean }, accessFlags := 16, code := some k10c7 }
def k10c8 : Code := { maxStack := 2, maxLocals := 2, code := jdk_68_method_71_code, exceptionTable := #[], attributes := #[] }
def k10m8 : Method := { name := "inflateIfNeededFor", desc := "(Ljava/lang/String;)V", sig := { parameters := [(.object "java/lang/String")], returnType := none }, accessFlags := 2, code := some k10c8 }
def k10c9 : Code := { maxStack := 4, maxLocals := 3, code := jdk_68_method_73_code, exceptionTable := #[], attributes := #[] }
def k10m9 : Method := { name := "putStringAt", desc := "(ILjava/lang/String;)V", sig := { parameters := [.int, (.object "java/lang/String")], returnType := none }, accessFlags := 2, code := some k10c9 }
/-- java/lang/AbstractStringBuilder -/
def k10 : Class := { plain "java/lang/AbstractStringBuilder" (some 0) with
  accessFlags := 1056
  interfaces := #[8, 9]
  cf := some (fileOf pool10 10 #[] #[{ accessFlags := 0, nameIndex := 7, descriptorIndex := 8, attributes := #[] }, { accessFlags := 0, nameIndex := 7, descriptorIndex := 69, attributes := #[] }, { accessFlags := 1, nameIndex := 34, descriptorIndex := 35, attributes := #[] }, { accessFlags := 2, nameIndex := 102, descriptorIndex := 103, attributes := #[] }, { accessFlags := 2, nameIndex := 106, descriptorIndex := 107, attributes := #[] }, { accessFlags := 1, nameIndex := 45, descriptorIndex := 46, attributes := #[] }, { accessFlags := 16, nameIndex := 552, descriptorIndex := 403, attributes := #[] }, { accessFlags := 16, nameIndex := 85, descriptorIndex := 86, attributes := #[] }, { accessFlags := 2, nameIndex := 217, descriptorIndex := 69, attributes := #[] }, { accessFlags := 2, nameIndex := 210, descriptorIndex := 211, attributes := #[] }] 1056 4 #[444, 48] #[{ accessFlags := 0, nameIndex := 17, descriptorIndex := 14, attributes := #[] }, { accessFlags := 0, nameIndex := 24, descriptorIndex := 25, attributes := #[] }, { accessFlags := 0, nameIndex := 75, descriptorIndex := 21, attributes := #[] }, { accessFlags := 0, nameIndex := 81, descriptorIndex := 82, attributes := #[] }, { accessFlags := 26, nameIndex := 13, descriptorIndex := 14, attributes := #[] }])
  fields := #[{ name := "value", type := (.array .byte), accessFlags := 0, slot := 0, constantValue := 0 }, { name := "coder", type := .byte, accessFlags := 0, slot := 1, constantValue := 0 }, { name := "maybeLatin1", type := .boolean, accessFlags := 0, slot := 2, constantValue := 0 }, { name := "count", type := .int, accessFlags := 0, slot := 3, constantValue := 0 }, { name := "EMPTYVALUE", type := (.array .byte), accessFlags := 26, slot := 0, constantValue := 0 }]
  methods := #[k10m0, k10m1, k10m2, k10m3, k10m4, k10m5, k10m6, k10m7, k10m8, k10m9]
  instanceTypes := #[(.array .byte), .byte, .boolean, .int]
  staticTypes := #[(.array .byte)]
  resolved := Array.replicate 609 none
  statics := none }

def pool11 : Array CpInfo := pool [(2, .class_ 4), (1, u "java/lang/AbstractStringBuilder"), (0, u "<init>"), (1, .methodref 2 8), (0, .nameAndType 5 9), (0, u "(Ljava/lang/String;)V"), (8, .class_ 20), (1, u "java/lang/String"), (2, .methodref 24 25), (0, .class_ 26), (0, .nameAndType 27 28), (0, u "java/lang/StringBuilder"), (0, u "append"), (0, u "(Ljava/lang/String;)Ljava/lang/StringBuilder;"), (0, .methodref 2 30), (0, .nameAndType 27 31), (0, u "(Ljava/lang/String;)Ljava/lang/AbstractStringBuilder;"), (105, .methodref 18 138), (0, .nameAndType 5 139), (0, u "(Ljava/lang/StringBuilder;)V"), (5, u "()V"), (10, u "()I"), (186, .methodref 2 344), (0, .nameAndType 345 156), (0, u "length"), (3, .class_ 350), (0, u "java/lang/Appendable"), (0, .class_ 352), (0, u "java/io/Serializable"), (0, .class_ 354), (0, u "java/lang/Comparable"), (0, .class_ 356), (0, u "java/lang/CharSequence"), (0, u "serialVersionUID"), (0, u "J"), (40, u "toString"), (0, u "()Ljava/lang/String;")] 21

def k11m0 : Method := { name := "<init>", desc := "()V", sig := { parameters := [], returnType := none }, accessFlags := 1, code := none }
def k11c1 : Code := { maxStack := 2, maxLocals := 2, code := jdk_67_method_3_code, exceptionTable := #[], attributes := #[] }
def k11m1 : Method := { name := "<init>", desc := "(Ljava/lang/String;)V", sig := { parameters := [(.object "java/lang/String")], returnType := none }, accessFlags := 1, code := some k11c1 }
def k11c2 : Code := { maxStack := 2, maxLocals := 2, code := jdk_67_method_7_code, exceptionTable := #[], attributes := #[] }
def k11m2 : Method := { name := "append", desc := "(Ljava/lang/String;)Ljava/lang/StringBuilder;", sig := { parameters := [(.object "java/lang/String")], returnType := some (.object "java/lang/StringBuilder") }, accessFlags := 1, code := some k11c2 }
def k11c3 : Code := { maxStack := 3, maxLocals := 1, code := jdk_67_method_42_code, exceptionTable := #[], attributes := #[] }
def k11m3 : Method := { name := "toString", desc := "()Ljava/lang/String;", sig := { parameters := [], returnType := some (.object "java/lang/String") }, accessFlags := 1, code := some k11c3 }
def k11c4 : Code := { maxStack := 2, maxLocals := 2, code := jdk_67_method_80_code, exceptionTable := #[], attributes := #[] }
def k11m4 : Method := { name := "append", desc := "(Ljava/lang/String;)Ljava/lang/AbstractStringBuilder;", sig := { parameters := [(.object "java/lang/String")], returnType := some (.object "java/lang/AbstractStringBuilder") }, accessFlags := 4161, code := some k11c4 }
def k11c5 : Code := { maxStack := 1, maxLocals := 1, code := jdk_67_method_93_code, exceptionTable := #[], attributes := #[] }
def k11m5 : Method := { name := "length", desc := "()I", sig := { parameters := [], returnType := some .int }, accessFlags := 4161, code := some k11c5 }
/-- java/lang/StringBuilder -/
def k11 : Class := { plain "java/lang/StringBuilder" (some 10) with
  accessFlags := 49
  interfaces := #[8, 4, 3, 9]
  cf := some (fileOf pool11 24 #[] #[{ accessFlags := 1, nameIndex := 5, descriptorIndex := 145, attributes := #[] }, { accessFlags := 1, nameIndex := 5, descriptorIndex := 9, attributes := #[] }, { accessFlags := 1, nameIndex := 27, descriptorIndex := 28, attributes := #[] }, { accessFlags := 1, nameIndex := 399, descriptorIndex := 400, attributes := #[] }, { accessFlags := 4161, nameIndex := 27, descriptorIndex := 31, attributes := #[] }, { accessFlags := 4161, nameIndex := 345, descriptorIndex := 156, attributes := #[] }] 49 2 #[349, 351, 353, 355] #[{ accessFlags := 24, nameIndex := 357, descriptorIndex := 358, attributes := #[] }])
  fields := #[{ name := "serialVersionUID", type := .long, accessFlags := 24, slot := 0, constantValue := 0 }]
  methods := #[k11m0, k11m1, k11m2, k11m3, k11m4, k11m5]
  instanceTypes := #[(.array .byte), .byte, .boolean, .int]
  staticTypes := #[.long]
  resolved := Array.replicate 422 none
  statics := none }

def pool12 : Array CpInfo := pool [(1, .class_ 2), (0, u "java/lang/constant/ConstantDesc"), (0, .class_ 4), (0, u "java/lang/Object")] 32

/-- java/lang/constant/ConstantDesc -/
def k12 : Class := { plain "java/lang/constant/ConstantDesc" (some 0) with
  accessFlags := 1537
  interfaces := #[]
  cf := some (fileOf pool12 1 #[] #[] 1537 3 #[] #[])
  fields := #[]
  methods := #[]
  instanceTypes := #[]
  staticTypes := #[]
  resolved := Array.replicate 37 none
  statics := none }

def pool13 : Array CpInfo := pool [(1, .methodref 2 3), (0, .class_ 4), (0, .nameAndType 5 6), (0, u "java/lang/Object"), (0, u "<init>"), (0, u "()V"), (2, .fieldref 10 11), (0, .class_ 12), (0, .nameAndType 13 14), (0, u "java/lang/String"), (0, u "value"), (0, u "[B"), (0, .fieldref 10 16), (0, .nameAndType 17 18), (0, u "coder"), (0, u "B"), (2, u "hash"), (0, u "I"), (2, u "hashIsZero"), (0, u "Z"), (11, .fieldref 10 39), (0, .nameAndType 40 26), (0, u "COMPACT_STRINGS"), (13, .methodref 55 56), (0, .class_ 57), (0, .nameAndType 58 59), (0, u "java/util/Arrays"), (0, u "copyOfRange"), (0, u "([BII)[B"), (47, .class_ 109), (1, u "java/lang/StringLatin1"), (32, u "()Z"), (50, .class_ 195), (1, u "java/lang/System"), (16, .methodref 193 213), (0, .nameAndType 214 215), (0, u "arraycopy"), (0, u "(Ljava/lang/Object;ILjava/lang/Object;II)V"), (118, u "()I"), (0, .methodref 10 336), (0, .nameAndType 17 337), (0, u "()B"), (2, u "()[B"), (148, .methodref 10 490), (0, .nameAndType 5 491), (0, u "(Ljava/lang/AbstractStringBuilder;Ljava/lang/Void;)V"), (1, .nameAndType 494 142), (0, u "isLatin1"), (11, .nameAndType 507 334), (0, u "length"), (24, u "getBytes"), (8, .methodref 107 542), (0, .nameAndType 543 544), (0, u "equals"), (0, u "([B[B)Z"), (4, .methodref 550 506), (0, .class_ 551), (0, u "java/lang/AbstractStringBuilder"), (0, .methodref 550 553), (0, .nameAndType 554 340), (0, u "getValue"), (18, u "(Ljava/lang/Object;)Z"), (1, .class_ 576), (0, u "java/lang/CharSequence"), (22, u "CASE_INSENSITIVE_ORDER"), (0, u "Ljava/util/Comparator;"), (220, u "([BIB)V"), (225, .methodref 550 493), (53, u "serialPersistentFields"), (0, u "[Ljava/io/ObjectStreamField;"), (0, .class_ 1104), (0, u "java/lang/String$CaseInsensitiveComparator"), (1, .class_ 1107), (0, u "java/io/Serializable"), (0, .class_ 1109), (0, u "java/lang/Comparable"), (0, .class_ 1111), (0, u "java/lang/constant/Constable"), (0, .class_ 1113), (0, u "java/lang/constant/ConstantDesc"), (2, u "serialVersionUID"), (0, u "J"), (3, u "REPL"), (0, u "C"), (2, u "LATIN1"), (1, u "UTF16"), (105, u "(Ljava/lang/StringBuilder;)V")] 217

def k13m0 : Method := { name := "<init>", desc := "()V", sig := { parameters := [], returnType := none }, accessFlags := 1, code := none }
def k13c1 : Code := { maxStack := 3, maxLocals := 2, code := jdk_42_method_53_code, exceptionTable := #[], attributes := #[] }
def k13m1 : Method := { name := "<init>", desc := "(Ljava/lang/StringBuilder;)V", sig := { parameters := [(.object "java/lang/StringBuilder")], returnType := none }, accessFlags := 1, code := some k13c1 }
def k13c2 : Code := { maxStack := 2, maxLocals := 1, code := jdk_42_method_54_code, exceptionTable := #[], attributes := #[] }
def k13m2 : Method := { name := "length", desc := "()I", sig := { parameters := [], returnType := some .int }, accessFlags := 1, code := some k13c2 }
def k13c3 : Code := { maxStack := 2, maxLocals := 3, code := jdk_42_method_66_code, exceptionTable := #[], attributes := #[] }
def k13m3 : Method := { name := "equals", desc := "(Ljava/lang/Object;)Z", sig := { parameters := [(.object "java/lang/Object")], returnType := some .boolean }, accessFlags := 1, code := some k13c3 }
def k13c4 : Code := { maxStack := 5, maxLocals := 4, code := jdk_42_method_147_code, exceptionTable := #[], attributes := #[] }
def k13m4 : Method := { name := "getBytes", desc := "([BIB)V", sig := { parameters := [(.array .byte), .int, .byte], returnType := none }, accessFlags := 0, code := some k13c4 }
def k13c5 : Code := { maxStack := 5, maxLocals := 5, code := jdk_42_method_150_code, exceptionTable := #[], attributes := #[] }
def k13m5 : Method := { name := "<init>", desc := "(Ljava/lang/AbstractStringBuilder;Ljava/lang/Void;)V", sig := { parameters := [(.object "java/lang/AbstractStringBuilder"), (.object "java/lang/Void")], returnType := none }, accessFlags := 0, code := some k13c5 }
def k13c6 : Code := { maxStack := 1, maxLocals := 1, code := jdk_42_method_152_code, exceptionTable := #[], attributes := #[] }
def k13m6 : Method := { name := "coder", desc := "()B", sig := { parameters := [], returnType := some .byte }, accessFlags := 0, code := some k13c6 }
/-- java/lang/String -/
def k13 : Class := { plain "java/lang/String" (some 0) with
  accessFlags := 49
  interfaces := #[4, 3, 9, 2, 12]
  cf := some (fileOf pool13 10 #[.nestMembers #[1103]] #[{ accessFlags := 1, nameIndex := 5, descriptorIndex := 6, attributes := #[] }, { accessFlags := 1, nameIndex := 5, descriptorIndex := 1233, attributes := #[] }, { accessFlags := 1, nameIndex := 507, descriptorIndex := 334, attributes := #[] }, { accessFlags := 1, nameIndex := 543, descriptorIndex := 573, attributes := #[] }, { accessFlags := 0, nameIndex := 532, descriptorIndex := 821, attributes := #[] }, { accessFlags := 0, nameIndex := 5, descriptorIndex := 491, attributes := #[] }, { accessFlags := 0, nameIndex := 17, descriptorIndex := 337, attributes := #[] }] 49 2 #[1106, 1108, 575, 1110, 1112] #[{ accessFlags := 18, nameIndex := 13, descriptorIndex := 14, attributes := #[] }, { accessFlags := 18, nameIndex := 17, descriptorIndex := 18, attributes := #[] }, { accessFlags := 2, nameIndex := 21, descriptorIndex := 22, attributes := #[] }, { accessFlags := 2, nameIndex := 25, descriptorIndex := 26, attributes := #[] }, { accessFlags := 26, nameIndex := 1116, descriptorIndex := 1117, attributes := #[] }, { accessFlags := 24, nameIndex := 40, descriptorIndex := 26, attributes := #[] }, { accessFlags := 26, nameIndex := 1101, descriptorIndex := 1102, attributes := #[] }, { accessFlags := 26, nameIndex := 1121, descriptorIndex := 1122, attributes := #[] }, { accessFlags := 25, nameIndex := 599, descriptorIndex := 600, attributes := #[] }, { accessFlags := 24, nameIndex := 1125, descriptorIndex := 18, attributes := #[] }, { accessFlags := 24, nameIndex := 1127, descriptorIndex := 18, attributes := #[] }])
  fields := #[{ name := "value", type := (.array .byte), accessFlags := 18, slot := 0, constantValue := 0 }, { name := "coder", type := .byte, accessFlags := 18, slot := 1, constantValue := 0 }, { name := "hash", type := .int, accessFlags := 2, slot := 2, constantValue := 0 }, { name := "hashIsZero", type := .boolean, accessFlags := 2, slot := 3, constantValue := 0 }, { name := "serialVersionUID", type := .long, accessFlags := 26, slot := 0, constantValue := 0 }, { name := "COMPACT_STRINGS", type := .boolean, accessFlags := 24, slot := 1, constantValue := 0 }, { name := "serialPersistentFields", type := (.array (.object "java/io/ObjectStreamField")), accessFlags := 26, slot := 2, constantValue := 0 }, { name := "REPL", type := .char, accessFlags := 26, slot := 3, constantValue := 0 }, { name := "CASE_INSENSITIVE_ORDER", type := (.object "java/util/Comparator"), accessFlags := 25, slot := 4, constantValue := 0 }, { name := "LATIN1", type := .byte, accessFlags := 24, slot := 5, constantValue := 0 }, { name := "UTF16", type := .byte, accessFlags := 24, slot := 6, constantValue := 0 }]
  methods := #[k13m0, k13m1, k13m2, k13m3, k13m4, k13m5, k13m6]
  instanceTypes := #[(.array .byte), .byte, .int, .boolean]
  staticTypes := #[.long, .boolean, (.array (.object "java/io/ObjectStreamField")), .char, (.object "java/util/Comparator"), .byte, .byte]
  resolved := Array.replicate 1451 none
  statics := some 1 }

def pool14 : Array CpInfo := pool [(2, .class_ 4), (1, u "java/lang/Object"), (0, u "<init>"), (0, u "()V"), (1, .class_ 10), (1, u "java/lang/System"), (0, u "allowSecurityManager"), (0, u "I"), (16, u "cons"), (0, u "Ljava/io/Console;"), (77, .class_ 110), (1, u "java/lang/System$CallersHolder"), (43, u "initialErrStream"), (0, u "Ljava/io/PrintStream;"), (19, u "security"), (0, u "Ljava/lang/SecurityManager;"), (31, .class_ 209), (0, u "java/lang/System$1"), (7, u "props"), (0, u "Ljava/util/Properties;"), (2, u "lineSeparator"), (0, u "Ljava/lang/String;"), (96, .class_ 321), (1, u "java/lang/System$LoggerFinder"), (5, .class_ 328), (0, u "java/lang/System$Logger"), (67, u "err"), (2, u "out"), (91, u "notSupportedJnuEncoding"), (15, u "in"), (17, u "initialIn"), (0, u "Ljava/io/InputStream;"), (35, u "bootLayer"), (0, u "Ljava/lang/ModuleLayer;"), (99, .class_ 664), (0, u "java/lang/System$2"), (9, u "NEVER"), (2, u "MAYBE"), (49, u "arraycopy"), (0, u "(Ljava/lang/Object;ILjava/lang/Object;II)V"), (72, .class_ 802), (0, u "java/lang/System$Logger$Level")] 31

def k14m0 : Method := { name := "<init>", desc := "()V", sig := { parameters := [], returnType := none }, accessFlags := 2, code := none }
def k14m1 : Method := { name := "arraycopy", desc := "(Ljava/lang/Object;ILjava/lang/Object;II)V", sig := { parameters := [(.object "java/lang/Object"), .int, (.object "java/lang/Object"), .int, .int], returnType := none }, accessFlags := 265, code := none }
/-- java/lang/System -/
def k14 : Class := { plain "java/lang/System" (some 0) with
  accessFlags := 49
  interfaces := #[]
  cf := some (fileOf pool14 8 #[.nestMembers #[319, 327, 801, 108, 663, 208]] #[{ accessFlags := 2, nameIndex := 5, descriptorIndex := 6, attributes := #[] }, { accessFlags := 265, nameIndex := 727, descriptorIndex := 728, attributes := #[] }] 49 2 #[] #[{ accessFlags := 25, nameIndex := 507, descriptorIndex := 526, attributes := #[] }, { accessFlags := 25, nameIndex := 399, descriptorIndex := 155, attributes := #[] }, { accessFlags := 25, nameIndex := 396, descriptorIndex := 155, attributes := #[] }, { accessFlags := 10, nameIndex := 525, descriptorIndex := 526, attributes := #[] }, { accessFlags := 26, nameIndex := 674, descriptorIndex := 12, attributes := #[] }, { accessFlags := 26, nameIndex := 677, descriptorIndex := 12, attributes := #[] }, { accessFlags := 10, nameIndex := 11, descriptorIndex := 12, attributes := #[] }, { accessFlags := 74, nameIndex := 175, descriptorIndex := 176, attributes := #[] }, { accessFlags := 10, nameIndex := 491, descriptorIndex := 222, attributes := #[] }, { accessFlags := 74, nameIndex := 29, descriptorIndex := 30, attributes := #[] }, { accessFlags := 74, nameIndex := 154, descriptorIndex := 155, attributes := #[] }, { accessFlags := 10, nameIndex := 217, descriptorIndex := 218, attributes := #[] }, { accessFlags := 10, nameIndex := 221, descriptorIndex := 222, attributes := #[] }, { accessFlags := 8, nameIndex := 562, descriptorIndex := 563, attributes := #[] }])
  fields := #[{ name := "in", type := (.object "java/io/InputStream"), accessFlags := 25, slot := 0, constantValue := 0 }, { name := "out", type := (.object "java/io/PrintStream"), accessFlags := 25, slot := 1, constantValue := 0 }, { name := "err", type := (.object "java/io/PrintStream"), accessFlags := 25, slot := 2, constantValue := 0 }, { name := "initialIn", type := (.object "java/io/InputStream"), accessFlags := 10, slot := 3, constantValue := 0 }, { name := "NEVER", type := .int, accessFlags := 26, slot := 4, constantValue := 0 }, { name := "MAYBE", type := .int, accessFlags := 26, slot := 5, constantValue := 0 }, { name := "allowSecurityManager", type := .int, accessFlags := 10, slot := 6, constantValue := 0 }, { name := "security", type := (.object "java/lang/SecurityManager"), accessFlags := 74, slot := 7, constantValue := 0 }, { name := "notSupportedJnuEncoding", type := (.object "java/lang/String"), accessFlags := 10, slot := 8, constantValue := 0 }, { name := "cons", type := (.object "java/io/Console"), accessFlags := 74, slot := 9, constantValue := 0 }, { name := "initialErrStream", type := (.object "java/io/PrintStream"), accessFlags := 74, slot := 10, constantValue := 0 }, { name := "props", type := (.object "java/util/Properties"), accessFlags := 10, slot := 11, constantValue := 0 }, { name := "lineSeparator", type := (.object "java/lang/String"), accessFlags := 10, slot := 12, constantValue := 0 }, { name := "bootLayer", type := (.object "java/lang/ModuleLayer"), accessFlags := 8, slot := 13, constantValue := 0 }]
  methods := #[k14m0, k14m1]
  instanceTypes := #[]
  staticTypes := #[(.object "java/io/InputStream"), (.object "java/io/PrintStream"), (.object "java/io/PrintStream"), (.object "java/io/InputStream"), .int, .int, .int, (.object "java/lang/SecurityManager"), (.object "java/lang/String"), (.object "java/io/Console"), (.object "java/io/PrintStream"), (.object "java/util/Properties"), (.object "java/lang/String"), (.object "java/lang/ModuleLayer")]
  resolved := Array.replicate 834 none
  statics := none }

def pool15 : Array CpInfo := pool [(9, u "<init>"), (6, .class_ 18), (1, u "java/lang/Object"), (0, u "()V"), (1, .class_ 23), (1, u "jdk/internal/util/ArraysSupport"), (0, u "LOG2_ARRAY_LONG_INDEX_SCALE"), (0, u "I"), (2, u "U"), (0, u "Ljdk/internal/misc/Unsafe;"), (8, u "BIG_ENDIAN"), (0, u "Z"), (8, u "LOG2_BYTE_BIT_SIZE"), (4, u "LOG2_ARRAY_INT_INDEX_SCALE"), (54, u "JLA"), (0, u "Ljdk/internal/access/JavaLangAccess;"), (11, u "LOG2_ARRAY_BOOLEAN_INDEX_SCALE"), (9, u "LOG2_ARRAY_BYTE_INDEX_SCALE"), (5, u "LOG2_ARRAY_CHAR_INDEX_SCALE"), (5, u "LOG2_ARRAY_SHORT_INDEX_SCALE"), (18, u "LOG2_ARRAY_FLOAT_INDEX_SCALE"), (24, u "LOG2_ARRAY_DOUBLE_INDEX_SCALE"), (6, .methodref 195 196), (0, .class_ 197), (0, .nameAndType 198 199), (0, u "java/lang/Math"), (0, u "max"), (0, u "(II)I"), (0, .integer 2147483639), (76, u "T_BOOLEAN"), (2, u "T_CHAR"), (1, u "T_FLOAT"), (1, u "T_DOUBLE"), (1, u "T_BYTE"), (1, u "T_SHORT"), (1, u "T_INT"), (1, u "T_LONG"), (1, u "SOFT_MAX_ARRAY_LENGTH"), (56, u "newLength"), (0, u "(III)I")] 25

def k15m0 : Method := { name := "<init>", desc := "()V", sig := { parameters := [], returnType := none }, accessFlags := 2, code := none }
def k15c1 : Code := { maxStack := 3, maxLocals := 4, code := jdk_48_method_27_code, exceptionTable := #[], attributes := #[] }
def k15m1 : Method := { name := "newLength", desc := "(III)I", sig := { parameters := [.int, .int, .int], returnType := some .int }, accessFlags := 9, code := some k15c1 }
/-- jdk/internal/util/ArraysSupport -/
def k15 : Class := { plain "jdk/internal/util/ArraysSupport" (some 0) with
  accessFlags := 33
  interfaces := #[]
  cf := some (fileOf pool15 21 #[] #[{ accessFlags := 2, nameIndex := 9, descriptorIndex := 19, attributes := #[] }, { accessFlags := 9, nameIndex := 351, descriptorIndex := 352, attributes := #[] }] 33 16 #[] #[{ accessFlags := 24, nameIndex := 28, descriptorIndex := 29, attributes := #[] }, { accessFlags := 26, nameIndex := 38, descriptorIndex := 39, attributes := #[] }, { accessFlags := 25, nameIndex := 121, descriptorIndex := 25, attributes := #[] }, { accessFlags := 25, nameIndex := 131, descriptorIndex := 25, attributes := #[] }, { accessFlags := 25, nameIndex := 137, descriptorIndex := 25, attributes := #[] }, { accessFlags := 25, nameIndex := 143, descriptorIndex := 25, attributes := #[] }, { accessFlags := 25, nameIndex := 53, descriptorIndex := 25, attributes := #[] }, { accessFlags := 25, nameIndex := 24, descriptorIndex := 25, attributes := #[] }, { accessFlags := 25, nameIndex := 162, descriptorIndex := 25, attributes := #[] }, { accessFlags := 25, nameIndex := 187, descriptorIndex := 25, attributes := #[] }, { accessFlags := 26, nameIndex := 48, descriptorIndex := 25, attributes := #[] }, { accessFlags := 25, nameIndex := 277, descriptorIndex := 25, attributes := #[] }, { accessFlags := 25, nameIndex := 280, descriptorIndex := 25, attributes := #[] }, { accessFlags := 25, nameIndex := 282, descriptorIndex := 25, attributes := #[] }, { accessFlags := 25, nameIndex := 284, descriptorIndex := 25, attributes := #[] }, { accessFlags := 25, nameIndex := 286, descriptorIndex := 25, attributes := #[] }, { accessFlags := 25, nameIndex := 288, descriptorIndex := 25, attributes := #[] }, { accessFlags := 25, nameIndex := 290, descriptorIndex := 25, attributes := #[] }, { accessFlags := 25, nameIndex := 292, descriptorIndex := 25, attributes := #[] }, { accessFlags := 26, nameIndex := 108, descriptorIndex := 109, attributes := #[] }, { accessFlags := 25, nameIndex := 294, descriptorIndex := 25, attributes := #[] }])
  fields := #[{ name := "U", type := (.object "jdk/internal/misc/Unsafe"), accessFlags := 24, slot := 0, constantValue := 0 }, { name := "BIG_ENDIAN", type := .boolean, accessFlags := 26, slot := 1, constantValue := 0 }, { name := "LOG2_ARRAY_BOOLEAN_INDEX_SCALE", type := .int, accessFlags := 25, slot := 2, constantValue := 0 }, { name := "LOG2_ARRAY_BYTE_INDEX_SCALE", type := .int, accessFlags := 25, slot := 3, constantValue := 0 }, { name := "LOG2_ARRAY_CHAR_INDEX_SCALE", type := .int, accessFlags := 25, slot := 4, constantValue := 0 }, { name := "LOG2_ARRAY_SHORT_INDEX_SCALE", type := .int, accessFlags := 25, slot := 5, constantValue := 0 }, { name := "LOG2_ARRAY_INT_INDEX_SCALE", type := .int, accessFlags := 25, slot := 6, constantValue := 0 }, { name := "LOG2_ARRAY_LONG_INDEX_SCALE", type := .int, accessFlags := 25, slot := 7, constantValue := 0 }, { name := "LOG2_ARRAY_FLOAT_INDEX_SCALE", type := .int, accessFlags := 25, slot := 8, constantValue := 0 }, { name := "LOG2_ARRAY_DOUBLE_INDEX_SCALE", type := .int, accessFlags := 25, slot := 9, constantValue := 0 }, { name := "LOG2_BYTE_BIT_SIZE", type := .int, accessFlags := 26, slot := 10, constantValue := 0 }, { name := "T_BOOLEAN", type := .int, accessFlags := 25, slot := 11, constantValue := 0 }, { name := "T_CHAR", type := .int, accessFlags := 25, slot := 12, constantValue := 0 }, { name := "T_FLOAT", type := .int, accessFlags := 25, slot := 13, constantValue := 0 }, { name := "T_DOUBLE", type := .int, accessFlags := 25, slot := 14, constantValue := 0 }, { name := "T_BYTE", type := .int, accessFlags := 25, slot := 15, constantValue := 0 }, { name := "T_SHORT", type := .int, accessFlags := 25, slot := 16, constantValue := 0 }, { name := "T_INT", type := .int, accessFlags := 25, slot := 17, constantValue := 0 }, { name := "T_LONG", type := .int, accessFlags := 25, slot := 18, constantValue := 0 }, { name := "JLA", type := (.object "jdk/internal/access/JavaLangAccess"), accessFlags := 26, slot := 19, constantValue := 0 }, { name := "SOFT_MAX_ARRAY_LENGTH", type := .int, accessFlags := 25, slot := 20, constantValue := 0 }]
  methods := #[k15m0, k15m1]
  instanceTypes := #[]
  staticTypes := #[(.object "jdk/internal/misc/Unsafe"), .boolean, .int, .int, .int, .int, .int, .int, .int, .int, .int, .int, .int, .int, .int, .int, .int, .int, .int, (.object "jdk/internal/access/JavaLangAccess"), .int]
  resolved := Array.replicate 378 none
  statics := none }

def pool16 : Array CpInfo := pool [(1, .class_ 2), (0, u "java/lang/Math"), (1, .class_ 6), (1, u "java/lang/Object"), (0, u "<init>"), (0, u "()V"), (89, .class_ 100), (1, u "java/lang/Math$RandomNumberGeneratorHolder"), (71, u "negativeZeroFloatBits"), (0, u "J"), (2, u "negativeZeroDoubleBits"), (21, u "max"), (2, u "min"), (43, u "$assertionsDisabled"), (0, u "Z"), (88, u "(II)I"), (2, u "twoToTheDoubleScaleDown"), (0, u "D"), (4, u "twoToTheDoubleScaleUp"), (9, u "E"), (3, u "PI"), (2, u "TAU"), (2, u "DEGREES_TO_RADIANS"), (0, u "RADIANS_TO_DEGREES")] 94

def k16m0 : Method := { name := "<init>", desc := "()V", sig := { parameters := [], returnType := none }, accessFlags := 2, code := none }
def k16c1 : Code := { maxStack := 2, maxLocals := 2, code := jdk_29_method_65_code, exceptionTable := #[], attributes := #[] }
def k16m1 : Method := { name := "max", desc := "(II)I", sig := { parameters := [.int, .int], returnType := some .int }, accessFlags := 9, code := some k16c1 }
def k16c2 : Code := { maxStack := 2, maxLocals := 2, code := jdk_29_method_69_code, exceptionTable := #[], attributes := #[] }
def k16m2 : Method := { name := "min", desc := "(II)I", sig := { parameters := [.int, .int], returnType := some .int }, accessFlags := 9, code := some k16c2 }
/-- java/lang/Math -/
def k16 : Class := { plain "java/lang/Math" (some 0) with
  accessFlags := 49
  interfaces := #[]
  cf := some (fileOf pool16 1 #[.nestMembers #[98]] #[{ accessFlags := 2, nameIndex := 7, descriptorIndex := 8, attributes := #[] }, { accessFlags := 9, nameIndex := 198, descriptorIndex := 335, attributes := #[] }, { accessFlags := 9, nameIndex := 201, descriptorIndex := 335, attributes := #[] }] 49 4 #[] #[{ accessFlags := 25, nameIndex := 354, descriptorIndex := 339, attributes := #[] }, { accessFlags := 25, nameIndex := 358, descriptorIndex := 339, attributes := #[] }, { accessFlags := 25, nameIndex := 361, descriptorIndex := 339, attributes := #[] }, { accessFlags := 26, nameIndex := 364, descriptorIndex := 339, attributes := #[] }, { accessFlags := 26, nameIndex := 365, descriptorIndex := 339, attributes := #[] }, { accessFlags := 26, nameIndex := 172, descriptorIndex := 173, attributes := #[] }, { accessFlags := 26, nameIndex := 176, descriptorIndex := 173, attributes := #[] }, { accessFlags := 8, nameIndex := 344, descriptorIndex := 339, attributes := #[] }, { accessFlags := 8, nameIndex := 338, descriptorIndex := 339, attributes := #[] }, { accessFlags := 4120, nameIndex := 245, descriptorIndex := 246, attributes := #[] }])
  fields := #[{ name := "E", type := .double, accessFlags := 25, slot := 0, constantValue := 0 }, { name := "PI", type := .double, accessFlags := 25, slot := 1, constantValue := 0 }, { name := "TAU", type := .double, accessFlags := 25, slot := 2, constantValue := 0 }, { name := "DEGREES_TO_RADIANS", type := .double, accessFlags := 26, slot := 3, constantValue := 0 }, { name := "RADIANS_TO_DEGREES", type := .double, accessFlags := 26, slot := 4, constantValue := 0 }, { name := "negativeZeroFloatBits", type := .long, accessFlags := 26, slot := 5, constantValue := 0 }, { name := "negativeZeroDoubleBits", type := .long, accessFlags := 26, slot := 6, constantValue := 0 }, { name := "twoToTheDoubleScaleUp", type := .double, accessFlags := 8, slot := 7, constantValue := 0 }, { name := "twoToTheDoubleScaleDown", type := .double, accessFlags := 8, slot := 8, constantValue := 0 }, { name := "$assertionsDisabled", type := .boolean, accessFlags := 4120, slot := 9, constantValue := 0 }]
  methods := #[k16m0, k16m1, k16m2]
  instanceTypes := #[]
  staticTypes := #[.double, .double, .double, .double, .double, .long, .long, .double, .double, .boolean]
  resolved := Array.replicate 460 none
  statics := none }

def pool17 : Array CpInfo := pool [(2, .class_ 4), (1, u "java/lang/Object"), (0, u "<init>"), (0, u "()V"), (7, .class_ 16), (1, u "java/util/Arrays"), (57, .class_ 76), (1, u "java/util/Arrays$NaturalOrder"), (36, .class_ 115), (1, u "java/util/Arrays$LegacyMergeSort"), (1, u "Z"), (21, u "copyOfRange"), (10, .methodref 151 152), (0, .class_ 153), (0, .nameAndType 154 155), (0, u "java/lang/System"), (0, u "arraycopy"), (0, u "(Ljava/lang/Object;ILjava/lang/Object;II)V"), (146, u "copyOf"), (1, .methodref 305 306), (0, .class_ 307), (0, .nameAndType 308 309), (0, u "java/lang/Math"), (0, u "min"), (0, u "(II)I"), (29, .methodref 14 340), (0, .nameAndType 341 342), (0, u "copyOfRangeByte"), (0, u "([BII)[B"), (0, .methodref 14 344), (0, .nameAndType 345 346), (0, u "checkLength"), (0, u "(II)V"), (28, .class_ 376), (0, u "java/util/Arrays$ArrayList"), (68, u "$assertionsDisabled"), (269, u "MIN_ARRAY_SORT_GRAN"), (0, u "I"), (2, u "INSERTIONSORT_THRESHOLD"), (149, u "([BI)[B"), (105, .class_ 976), (0, u "java/util/Arrays$ArrayItr")] 52

def k17m0 : Method := { name := "<init>", desc := "()V", sig := { parameters := [], returnType := none }, accessFlags := 2, code := none }
def k17c1 : Code := { maxStack := 6, maxLocals := 3, code := jdk_65_method_121_code, exceptionTable := #[], attributes := #[] }
def k17m1 : Method := { name := "copyOf", desc := "([BI)[B", sig := { parameters := [(.array .byte), .int], returnType := some (.array .byte) }, accessFlags := 9, code := some k17c1 }
def k17c2 : Code := { maxStack := 4, maxLocals := 2, code := jdk_65_method_131_code, exceptionTable := #[], attributes := #[] }
def k17m2 : Method := { name := "checkLength", desc := "(II)V", sig := { parameters := [.int, .int], returnType := none }, accessFlags := 10, code := some k17c2 }
def k17c3 : Code := { maxStack := 3, maxLocals := 3, code := jdk_65_method_132_code, exceptionTable := #[], attributes := #[] }
def k17m3 : Method := { name := "copyOfRange", desc := "([BII)[B", sig := { parameters := [(.array .byte), .int, .int], returnType := some (.array .byte) }, accessFlags := 9, code := some k17c3 }
def k17c4 : Code := { maxStack := 6, maxLocals := 5, code := jdk_65_method_133_code, exceptionTable := #[], attributes := #[] }
def k17m4 : Method := { name := "copyOfRangeByte", desc := "([BII)[B", sig := { parameters := [(.array .byte), .int, .int], returnType := some (.array .byte) }, accessFlags := 10, code := some k17c4 }
/-- java/util/Arrays -/
def k17 : Class := { plain "java/util/Arrays" (some 0) with
  accessFlags := 49
  interfaces := #[]
  cf := some (fileOf pool17 14 #[.nestMembers #[975, 375, 113, 74]] #[{ accessFlags := 2, nameIndex := 5, descriptorIndex := 6, attributes := #[] }, { accessFlags := 9, nameIndex := 302, descriptorIndex := 869, attributes := #[] }, { accessFlags := 10, nameIndex := 345, descriptorIndex := 346, attributes := #[] }, { accessFlags := 9, nameIndex := 139, descriptorIndex := 342, attributes := #[] }, { accessFlags := 10, nameIndex := 341, descriptorIndex := 342, attributes := #[] }] 49 2 #[] #[{ accessFlags := 26, nameIndex := 715, descriptorIndex := 716, attributes := #[] }, { accessFlags := 26, nameIndex := 719, descriptorIndex := 716, attributes := #[] }, { accessFlags := 4120, nameIndex := 445, descriptorIndex := 117, attributes := #[] }])
  fields := #[{ name := "MIN_ARRAY_SORT_GRAN", type := .int, accessFlags := 26, slot := 0, constantValue := 0 }, { name := "INSERTIONSORT_THRESHOLD", type := .int, accessFlags := 26, slot := 1, constantValue := 0 }, { name := "$assertionsDisabled", type := .boolean, accessFlags := 4120, slot := 2, constantValue := 0 }]
  methods := #[k17m0, k17m1, k17m2, k17m3, k17m4]
  instanceTypes := #[]
  staticTypes := #[.int, .int, .boolean]
  resolved := Array.replicate 1029 none
  statics := none }

def pool18 : Array CpInfo := pool [(4, .class_ 6), (1, u "java/lang/Object"), (0, u "<init>"), (0, u "()V"), (5, .class_ 16), (1, u "java/lang/StringLatin1"), (104, u "$assertionsDisabled"), (0, u "Z"), (98, .class_ 223), (1, u "java/lang/StringLatin1$LinesSpliterator"), (57, u "equals"), (0, u "([B[B)Z"), (107, .class_ 391), (0, u "java/lang/StringLatin1$CharsSpliterator")] 3

def k18m0 : Method := { name := "<init>", desc := "()V", sig := { parameters := [], returnType := none }, accessFlags := 0, code := none }
def k18c1 : Code := { maxStack := 3, maxLocals := 3, code := jdk_43_method_13_code, exceptionTable := #[], attributes := #[] }
def k18m1 : Method := { name := "equals", desc := "([B[B)Z", sig := { parameters := [(.array .byte), (.array .byte)], returnType := some .boolean }, accessFlags := 9, code := some k18c1 }
/-- java/lang/StringLatin1 -/
def k18 : Class := { plain "java/lang/StringLatin1" (some 0) with
  accessFlags := 48
  interfaces := #[]
  cf := some (fileOf pool18 14 #[.nestMembers #[390, 221]] #[{ accessFlags := 0, nameIndex := 7, descriptorIndex := 8, attributes := #[] }, { accessFlags := 9, nameIndex := 281, descriptorIndex := 282, attributes := #[] }] 48 4 #[] #[{ accessFlags := 4120, nameIndex := 121, descriptorIndex := 122, attributes := #[] }])
  fields := #[{ name := "$assertionsDisabled", type := .boolean, accessFlags := 4120, slot := 0, constantValue := 0 }]
  methods := #[k18m0, k18m1]
  instanceTypes := #[]
  staticTypes := #[.boolean]
  resolved := Array.replicate 395 none
  statics := none }

def pool19 : Array CpInfo := pool [(2, .class_ 4), (1, u "java/lang/Object"), (0, u "<init>"), (0, u "()V"), (17, .class_ 26), (1, u "jdk/internal/util/Preconditions"), (28, .class_ 56), (0, u "jdk/internal/util/Preconditions$4"), (57, .class_ 115), (0, u "jdk/internal/util/Preconditions$1"), (7, u "SIOOBE_FORMATTER"), (0, u "Ljava/util/function/BiFunction;"), (0, .class_ 126), (0, u "jdk/internal/util/Preconditions$2"), (3, u "AIOOBE_FORMATTER"), (0, .class_ 132), (0, u "jdk/internal/util/Preconditions$3"), (3, u "IOOBE_FORMATTER")] 57

def k19m0 : Method := { name := "<init>", desc := "()V", sig := { parameters := [], returnType := none }, accessFlags := 1, code := none }
/-- jdk/internal/util/Preconditions -/
def k19 : Class := { plain "jdk/internal/util/Preconditions" (some 0) with
  accessFlags := 33
  interfaces := #[]
  cf := some (fileOf pool19 24 #[.nestMembers #[55, 131, 125, 114]] #[{ accessFlags := 1, nameIndex := 5, descriptorIndex := 6, attributes := #[] }] 33 2 #[] #[{ accessFlags := 25, nameIndex := 123, descriptorIndex := 124, attributes := #[] }, { accessFlags := 25, nameIndex := 130, descriptorIndex := 124, attributes := #[] }, { accessFlags := 25, nameIndex := 136, descriptorIndex := 124, attributes := #[] }])
  fields := #[{ name := "SIOOBE_FORMATTER", type := (.object "java/util/function/BiFunction"), accessFlags := 25, slot := 0, constantValue := 0 }, { name := "AIOOBE_FORMATTER", type := (.object "java/util/function/BiFunction"), accessFlags := 25, slot := 1, constantValue := 0 }, { name := "IOOBE_FORMATTER", type := (.object "java/util/function/BiFunction"), accessFlags := 25, slot := 2, constantValue := 0 }]
  methods := #[k19m0]
  instanceTypes := #[]
  staticTypes := #[(.object "java/util/function/BiFunction"), (.object "java/util/function/BiFunction"), (.object "java/util/function/BiFunction")]
  resolved := Array.replicate 194 none
  statics := some 2 }

/-- the primitive byte -/
def k20 : Class := { plain "byte" none with kind := .primitive 'B', accessFlags := 0x411 }
/-- [B -/
def k21 : Class := { plain "[B" (some 0) with kind := .array 20 .byte, interfaces := #[7, 4], accessFlags := 1041 }

/-- the primitive int -/
def k22 : Class := { plain "int" none with kind := .primitive 'I', accessFlags := 0x411 }
/-- [I -/
def k23 : Class := { plain "[I" (some 0) with kind := .array 22 .int, interfaces := #[7, 4], accessFlags := 1041 }

/-- [Lcom/example/stern_warden/sternwarden/model/AccessMode; -/
def k24 : Class := { plain "[Lcom/example/stern_warden/sternwarden/model/AccessMode;" (some 0) with kind := .array 6 (.object "com/example/stern_warden/sternwarden/model/AccessMode"), interfaces := #[7, 4], accessFlags := 1041 }

def heap : Heap := #[{ cls := 6, slots := #[.ref 4, .ref 7, .ref 10, .ref 13, .ref 3], vm := .statics 6 },
  { cls := 13, slots := #[.long 0, .int 1, .null, .int 0, .null, .int 0, .int 0], vm := .statics 13 },
  { cls := 19, slots := #[.null, .null, .null], vm := .statics 19 },
  { cls := 24, slots := #[.ref 4, .ref 7, .ref 10, .ref 13], vm := .none },
  { cls := 6, slots := #[.null, .int 0, .int 0, .ref 5, .null], vm := .none },
  { cls := 13, slots := #[.ref 6, .int 0, .int 0, .int 0], vm := .none },
  { cls := 21, slots := #[.int 82, .int 101, .int 97, .int 100], vm := .none },
  { cls := 6, slots := #[.null, .int 0, .int 0, .ref 8, .null], vm := .none },
  { cls := 13, slots := #[.ref 9, .int 0, .int 0, .int 0], vm := .none },
  { cls := 21, slots := #[.int 87, .int 114, .int 105, .int 116, .int 101], vm := .none },
  { cls := 6, slots := #[.null, .int 0, .int 0, .ref 11, .null], vm := .none },
  { cls := 13, slots := #[.ref 12, .int 0, .int 0, .int 0], vm := .none },
  { cls := 21, slots := #[.int 65, .int 112, .int 112, .int 101, .int 110, .int 100], vm := .none },
  { cls := 6, slots := #[.null, .int 0, .int 0, .ref 14, .null], vm := .none },
  { cls := 13, slots := #[.ref 15, .int 0, .int 0, .int 0], vm := .none },
  { cls := 21, slots := #[.int 67, .int 111, .int 110, .int 116, .int 114, .int 111, .int 108], vm := .none }]
def classes : Array Class := #[k0, k1, k2, k3, k4, k5, k6, k7, k8, k9, k10, k11, k12, k13, k14, k15, k16, k17, k18, k19, k20, k21, k22, k23, k24]
def interned : List (Array UInt16 × Addr) := []
def slotsUsed : Nat := 77
def theMethod : MethodId := ⟨1, 1⟩
def args0 : Array Value := #[]
def aboutOver (below : List Frame) : State where
  vm := { classes := classes, interned := interned.toArray }
  heap := heap
  slotsUsed := slotsUsed
  threads := #[{ frames := .invoking theMethod args0 :: below }]
def below0 : List Frame := [.native { method := ⟨0, 0⟩, args := #[] }]
def about1 : State := aboutOver below0
def p0 : Program := .bare "" "" ""
def e0 : Env := launch0.env 0 0 0
theorem w_frames : about1.frames = Frame.invoking theMethod args0 :: below0 := rfl
set_option maxRecDepth 65536 in
theorem w_args : argsFit about1.vm theMethod args0 = true := by decide +kernel
set_option maxRecDepth 65536 in
theorem w_heap : heapFits about1 = true := by decide +kernel
set_option maxRecDepth 65536 in
theorem w_runnable : about1.curStatus? = some .runnable := by decide +kernel
set_option maxRecDepth 65536 in
theorem w_alone : about1.alone = true := by decide +kernel
set_option maxRecDepth 65536 in
theorem w_named : about1.methodNamed? x = some theMethod := by decide +kernel
set_option maxRecDepth 65536 in
theorem w_hears : about1.hears theMethod below0 = true := by decide +kernel
set_option maxRecDepth 65536 in
theorem w_ripe : about1.ripe theMethod args0 below0 = true := by decide +kernel
theorem w_running : about1.status = .running := rfl
set_option maxRecDepth 65536 in
theorem w_room : about1.hasRoom e0.platform room_1 = true :=
  launch0.hasRoom_least _ room_1 (by decide +kernel) (by decide +kernel) (by decide +kernel) (by decide +kernel) (by decide +kernel) (by decide +kernel)
theorem allAtoms_all (ts : List Jvm.Cond) (a : Array Jvm.Value) (st : Jvm.State) : (allAtoms ts).before a st = ts.all (fun c => c.before a st) := by
  induction ts with
  | nil => rfl
  | cons c t ih =>
    show (Jvm.Cond.and c (allAtoms t)).before a st = _
    rw [Jvm.Cond.before_and, ih, List.all_cons]
def words1 : List Jvm.Cond := Jvm.Cond.code x code maxLocals ret :: tables_1
/-- a 'code' word, met by the world's own term for the bytes: nothing is compared byte by byte -/
theorem code_word {y : MethodName} {bytes : ByteArray} {mx : Nat} {rt : Option FieldType} {a : Array Value} {s : State} {m : MethodId} {meth : Method} {c : Code} (h1 : s.methodNamed? y = some m) (h2 : s.vm.method? m = some meth) (h3 : meth.code = some c) (h4 : c.code = bytes)
    (h5 : (c.maxLocals == mx && c.exceptionTable.isEmpty && decide (c.maxStack ≤ mostOperands) && decide (meth.sig.returnType = rt) && !meth.locks && decide (parseMethodDescriptor y.desc = some meth.sig)) = true) : (Jvm.Cond.code y bytes mx rt).before a s = true := by
  simp only [Bool.and_eq_true, beq_iff_eq, Bool.not_eq_true', decide_eq_true_eq] at h5
  obtain ⟨⟨⟨⟨⟨g1, g2⟩, g3⟩, g4⟩, g5⟩, g6⟩ := h5
  simp [Cond.before, Cond.holds, Cond.value, h1, h2, h3, h4, g1, g2, g3, g4, g5, g6]
def isCode : Jvm.Cond → Bool
  | .code _ _ _ _ => true
  | _ => false
theorem all_split {L : List Jvm.Cond} {P : Jvm.Cond → Bool} (h1 : L.all (fun c => isCode c || P c) = true) (h2 : ∀ c ∈ L.filter isCode, P c = true) : L.all P = true := by
  refine List.all_eq_true.mpr fun c hc => ?_
  have h := List.all_eq_true.mp h1 c hc
  rcases Bool.eq_false_or_eq_true (isCode c) with hi | hi
  · exact h2 c (List.mem_filter.mpr ⟨hc, hi⟩)
  · simpa [hi] using h
set_option maxRecDepth 65536 in
theorem w_c0 : (Jvm.Cond.code x code maxLocals ret).before args0 about1 = true := code_word (m := ⟨1, 1⟩) (meth := k1m1) (c := k1c1) (by decide +kernel) rfl rfl rfl (by decide +kernel)
set_option maxRecDepth 65536 in
theorem w_c1 : (Jvm.Cond.code ({ cls := "com/example/stern_warden/sternwarden/model/AccessMode", name := "listNames", desc := "()Ljava/lang/String;" } : Jvm.MethodName) prog_2_method_7_code (3 : Nat) (Option.some (Jvm.ClassFile.FieldType.object "java/lang/String"))).before args0 about1 = true := code_word (m := ⟨6, 1⟩) (meth := k6m1) (c := k6c1) (by decide +kernel) rfl rfl rfl (by decide +kernel)
set_option maxRecDepth 65536 in
theorem w_c2 : (Jvm.Cond.code ({ cls := "com/example/stern_warden/sternwarden/model/AccessMode", name := "values", desc := "()[Lcom/example/stern_warden/sternwarden/model/AccessMode;" } : Jvm.MethodName) prog_2_method_1_code (0 : Nat) (Option.some (Jvm.ClassFile.FieldType.array (Jvm.ClassFile.FieldType.object "com/example/stern_warden/sternwarden/model/AccessMode")))).before args0 about1 = true := code_word (m := ⟨6, 0⟩) (meth := k6m0) (c := k6c0) (by decide +kernel) rfl rfl rfl (by decide +kernel)
set_option maxRecDepth 65536 in
theorem w_c3 : (Jvm.Cond.code ({ cls := "java/lang/StringBuilder", name := "<init>", desc := "(Ljava/lang/String;)V" } : Jvm.MethodName) jdk_67_method_3_code (2 : Nat) (Option.none : Option Jvm.ClassFile.FieldType)).before args0 about1 = true := code_word (m := ⟨11, 1⟩) (meth := k11m1) (c := k11c1) (by decide +kernel) rfl rfl rfl (by decide +kernel)
set_option maxRecDepth 65536 in
theorem w_c4 : (Jvm.Cond.code ({ cls := "java/lang/AbstractStringBuilder", name := "<init>", desc := "(Ljava/lang/String;)V" } : Jvm.MethodName) jdk_68_method_3_code (5 : Nat) (Option.none : Option Jvm.ClassFile.FieldType)).before args0 about1 = true := code_word (m := ⟨10, 1⟩) (meth := k10m1) (c := k10c1) (by decide +kernel) rfl rfl rfl (by decide +kernel)
set_option maxRecDepth 65536 in
theorem w_c5 : (Jvm.Cond.code ({ cls := "java/lang/Object", name := "<init>", desc := "()V" } : Jvm.MethodName) object_method_1_code (1 : Nat) (Option.none : Option Jvm.ClassFile.FieldType)).before args0 about1 = true := code_word (m := ⟨0, 0⟩) (meth := k0m0) (c := k0c0) (by decide +kernel) rfl rfl rfl (by decide +kernel)
set_option maxRecDepth 65536 in
theorem w_c6 : (Jvm.Cond.code ({ cls := "java/lang/String", name := "length", desc := "()I" } : Jvm.MethodName) jdk_42_method_54_code (1 : Nat) (Option.some Jvm.ClassFile.FieldType.int)).before args0 about1 = true := code_word (m := ⟨13, 2⟩) (meth := k13m2) (c := k13c2) (by decide +kernel) rfl rfl rfl (by decide +kernel)
set_option maxRecDepth 65536 in
theorem w_c7 : (Jvm.Cond.code ({ cls := "java/lang/String", name := "coder", desc := "()B" } : Jvm.MethodName) jdk_42_method_152_code (1 : Nat) (Option.some Jvm.ClassFile.FieldType.byte)).before args0 about1 = true := code_word (m := ⟨13, 6⟩) (meth := k13m6) (c := k13c6) (by decide +kernel) rfl rfl rfl (by decide +kernel)
set_option maxRecDepth 65536 in
theorem w_c8 : (Jvm.Cond.code ({ cls := "java/lang/StringBuilder", name := "append", desc := "(Ljava/lang/String;)Ljava/lang/AbstractStringBuilder;" } : Jvm.MethodName) jdk_67_method_80_code (2 : Nat) (Option.some (Jvm.ClassFile.FieldType.object "java/lang/AbstractStringBuilder"))).before args0 about1 = true := code_word (m := ⟨11, 4⟩) (meth := k11m4) (c := k11c4) (by decide +kernel) rfl rfl rfl (by decide +kernel)
set_option maxRecDepth 65536 in
theorem w_c9 : (Jvm.Cond.code ({ cls := "java/lang/StringBuilder", name := "append", desc := "(Ljava/lang/String;)Ljava/lang/StringBuilder;" } : Jvm.MethodName) jdk_67_method_7_code (2 : Nat) (Option.some (Jvm.ClassFile.FieldType.object "java/lang/StringBuilder"))).before args0 about1 = true := code_word (m := ⟨11, 2⟩) (meth := k11m2) (c := k11c2) (by decide +kernel) rfl rfl rfl (by decide +kernel)
set_option maxRecDepth 65536 in
theorem w_c10 : (Jvm.Cond.code ({ cls := "java/lang/AbstractStringBuilder", name := "append", desc := "(Ljava/lang/String;)Ljava/lang/AbstractStringBuilder;" } : Jvm.MethodName) jdk_68_method_22_code (3 : Nat) (Option.some (Jvm.ClassFile.FieldType.object "java/lang/AbstractStringBuilder"))).before args0 about1 = true := code_word (m := ⟨10, 5⟩) (meth := k10m5) (c := k10c5) (by decide +kernel) rfl rfl rfl (by decide +kernel)
set_option maxRecDepth 65536 in
theorem w_c11 : (Jvm.Cond.code ({ cls := "java/lang/AbstractStringBuilder", name := "ensureCapacityInternal", desc := "(I)V" } : Jvm.MethodName) jdk_68_method_9_code (3 : Nat) (Option.none : Option Jvm.ClassFile.FieldType)).before args0 about1 = true := code_word (m := ⟨10, 3⟩) (meth := k10m3) (c := k10c3) (by decide +kernel) rfl rfl rfl (by decide +kernel)
set_option maxRecDepth 65536 in
theorem w_c12 : (Jvm.Cond.code ({ cls := "java/lang/AbstractStringBuilder", name := "putStringAt", desc := "(ILjava/lang/String;)V" } : Jvm.MethodName) jdk_68_method_73_code (3 : Nat) (Option.none : Option Jvm.ClassFile.FieldType)).before args0 about1 = true := code_word (m := ⟨10, 9⟩) (meth := k10m9) (c := k10c9) (by decide +kernel) rfl rfl rfl (by decide +kernel)
set_option maxRecDepth 65536 in
theorem w_c13 : (Jvm.Cond.code ({ cls := "java/lang/AbstractStringBuilder", name := "inflateIfNeededFor", desc := "(Ljava/lang/String;)V" } : Jvm.MethodName) jdk_68_method_71_code (2 : Nat) (Option.none : Option Jvm.ClassFile.FieldType)).before args0 about1 = true := code_word (m := ⟨10, 8⟩) (meth := k10m8) (c := k10c8) (by decide +kernel) rfl rfl rfl (by decide +kernel)
set_option maxRecDepth 65536 in
theorem w_c14 : (Jvm.Cond.code ({ cls := "java/lang/String", name := "getBytes", desc := "([BIB)V" } : Jvm.MethodName) jdk_42_method_147_code (4 : Nat) (Option.none : Option Jvm.ClassFile.FieldType)).before args0 about1 = true := code_word (m := ⟨13, 4⟩) (meth := k13m4) (c := k13c4) (by decide +kernel) rfl rfl rfl (by decide +kernel)
set_option maxRecDepth 65536 in
theorem w_c15 : (Jvm.Cond.code ({ cls := "java/lang/AbstractStringBuilder", name := "newCapacity", desc := "(I)I" } : Jvm.MethodName) jdk_68_method_10_code (6 : Nat) (Option.some Jvm.ClassFile.FieldType.int)).before args0 about1 = true := code_word (m := ⟨10, 4⟩) (meth := k10m4) (c := k10c4) (by decide +kernel) rfl rfl rfl (by decide +kernel)
set_option maxRecDepth 65536 in
theorem w_c16 : (Jvm.Cond.code ({ cls := "jdk/internal/util/ArraysSupport", name := "newLength", desc := "(III)I" } : Jvm.MethodName) jdk_48_method_27_code (4 : Nat) (Option.some Jvm.ClassFile.FieldType.int)).before args0 about1 = true := code_word (m := ⟨15, 1⟩) (meth := k15m1) (c := k15c1) (by decide +kernel) rfl rfl rfl (by decide +kernel)
set_option maxRecDepth 65536 in
theorem w_c17 : (Jvm.Cond.code ({ cls := "java/lang/Math", name := "max", desc := "(II)I" } : Jvm.MethodName) jdk_29_method_65_code (2 : Nat) (Option.some Jvm.ClassFile.FieldType.int)).before args0 about1 = true := code_word (m := ⟨16, 1⟩) (meth := k16m1) (c := k16c1) (by decide +kernel) rfl rfl rfl (by decide +kernel)
set_option maxRecDepth 65536 in
theorem w_c18 : (Jvm.Cond.code ({ cls := "java/util/Arrays", name := "copyOf", desc := "([BI)[B" } : Jvm.MethodName) jdk_65_method_121_code (3 : Nat) (Option.some (Jvm.ClassFile.FieldType.array Jvm.ClassFile.FieldType.byte))).before args0 about1 = true := code_word (m := ⟨17, 1⟩) (meth := k17m1) (c := k17c1) (by decide +kernel) rfl rfl rfl (by decide +kernel)
set_option maxRecDepth 65536 in
theorem w_c19 : (Jvm.Cond.code ({ cls := "java/lang/Math", name := "min", desc := "(II)I" } : Jvm.MethodName) jdk_29_method_69_code (2 : Nat) (Option.some Jvm.ClassFile.FieldType.int)).before args0 about1 = true := code_word (m := ⟨16, 2⟩) (meth := k16m2) (c := k16c2) (by decide +kernel) rfl rfl rfl (by decide +kernel)
set_option maxRecDepth 65536 in
theorem w_c20 : (Jvm.Cond.code ({ cls := "java/lang/StringBuilder", name := "toString", desc := "()Ljava/lang/String;" } : Jvm.MethodName) jdk_67_method_42_code (1 : Nat) (Option.some (Jvm.ClassFile.FieldType.object "java/lang/String"))).before args0 about1 = true := code_word (m := ⟨11, 3⟩) (meth := k11m3) (c := k11c3) (by decide +kernel) rfl rfl rfl (by decide +kernel)
set_option maxRecDepth 65536 in
theorem w_c21 : (Jvm.Cond.code ({ cls := "java/lang/String", name := "<init>", desc := "(Ljava/lang/StringBuilder;)V" } : Jvm.MethodName) jdk_42_method_53_code (2 : Nat) (Option.none : Option Jvm.ClassFile.FieldType)).before args0 about1 = true := code_word (m := ⟨13, 1⟩) (meth := k13m1) (c := k13c1) (by decide +kernel) rfl rfl rfl (by decide +kernel)
set_option maxRecDepth 65536 in
theorem w_c22 : (Jvm.Cond.code ({ cls := "java/lang/String", name := "<init>", desc := "(Ljava/lang/AbstractStringBuilder;Ljava/lang/Void;)V" } : Jvm.MethodName) jdk_42_method_150_code (5 : Nat) (Option.none : Option Jvm.ClassFile.FieldType)).before args0 about1 = true := code_word (m := ⟨13, 5⟩) (meth := k13m5) (c := k13c5) (by decide +kernel) rfl rfl rfl (by decide +kernel)
set_option maxRecDepth 65536 in
theorem w_c23 : (Jvm.Cond.code ({ cls := "java/lang/AbstractStringBuilder", name := "getValue", desc := "()[B" } : Jvm.MethodName) jdk_68_method_64_code (1 : Nat) (Option.some (Jvm.ClassFile.FieldType.array Jvm.ClassFile.FieldType.byte))).before args0 about1 = true := code_word (m := ⟨10, 6⟩) (meth := k10m6) (c := k10c6) (by decide +kernel) rfl rfl rfl (by decide +kernel)
set_option maxRecDepth 65536 in
theorem w_c24 : (Jvm.Cond.code ({ cls := "java/lang/StringBuilder", name := "length", desc := "()I" } : Jvm.MethodName) jdk_67_method_93_code (1 : Nat) (Option.some Jvm.ClassFile.FieldType.int)).before args0 about1 = true := code_word (m := ⟨11, 5⟩) (meth := k11m5) (c := k11c5) (by decide +kernel) rfl rfl rfl (by decide +kernel)
set_option maxRecDepth 65536 in
theorem w_c25 : (Jvm.Cond.code ({ cls := "java/lang/AbstractStringBuilder", name := "length", desc := "()I" } : Jvm.MethodName) jdk_68_method_6_code (1 : Nat) (Option.some Jvm.ClassFile.FieldType.int)).before args0 about1 = true := code_word (m := ⟨10, 2⟩) (meth := k10m2) (c := k10c2) (by decide +kernel) rfl rfl rfl (by decide +kernel)
set_option maxRecDepth 65536 in
theorem w_c26 : (Jvm.Cond.code ({ cls := "java/lang/AbstractStringBuilder", name := "isLatin1", desc := "()Z" } : Jvm.MethodName) jdk_68_method_68_code (1 : Nat) (Option.some Jvm.ClassFile.FieldType.boolean)).before args0 about1 = true := code_word (m := ⟨10, 7⟩) (meth := k10m7) (c := k10c7) (by decide +kernel) rfl rfl rfl (by decide +kernel)
set_option maxRecDepth 65536 in
theorem w_c27 : (Jvm.Cond.code ({ cls := "java/util/Arrays", name := "copyOfRange", desc := "([BII)[B" } : Jvm.MethodName) jdk_65_method_132_code (3 : Nat) (Option.some (Jvm.ClassFile.FieldType.array Jvm.ClassFile.FieldType.byte))).before args0 about1 = true := code_word (m := ⟨17, 3⟩) (meth := k17m3) (c := k17c3) (by decide +kernel) rfl rfl rfl (by decide +kernel)
set_option maxRecDepth 65536 in
theorem w_c28 : (Jvm.Cond.code ({ cls := "java/util/Arrays", name := "copyOfRangeByte", desc := "([BII)[B" } : Jvm.MethodName) jdk_65_method_133_code (5 : Nat) (Option.some (Jvm.ClassFile.FieldType.array Jvm.ClassFile.FieldType.byte))).before args0 about1 = true := code_word (m := ⟨17, 4⟩) (meth := k17m4) (c := k17c4) (by decide +kernel) rfl rfl rfl (by decide +kernel)
set_option maxRecDepth 65536 in
theorem w_c29 : (Jvm.Cond.code ({ cls := "java/util/Arrays", name := "checkLength", desc := "(II)V" } : Jvm.MethodName) jdk_65_method_131_code (2 : Nat) (Option.none : Option Jvm.ClassFile.FieldType)).before args0 about1 = true := code_word (m := ⟨17, 2⟩) (meth := k17m2) (c := k17c2) (by decide +kernel) rfl rfl rfl (by decide +kernel)
set_option maxRecDepth 65536 in
theorem w_c30 : (Jvm.Cond.code ({ cls := "java/lang/String", name := "equals", desc := "(Ljava/lang/Object;)Z" } : Jvm.MethodName) jdk_42_method_66_code (3 : Nat) (Option.some Jvm.ClassFile.FieldType.boolean)).before args0 about1 = true := code_word (m := ⟨13, 3⟩) (meth := k13m3) (c := k13c3) (by decide +kernel) rfl rfl rfl (by decide +kernel)
set_option maxRecDepth 65536 in
theorem w_c31 : (Jvm.Cond.code ({ cls := "java/lang/StringLatin1", name := "equals", desc := "([B[B)Z" } : Jvm.MethodName) jdk_43_method_13_code (3 : Nat) (Option.some Jvm.ClassFile.FieldType.boolean)).before args0 about1 = true := code_word (m := ⟨18, 1⟩) (meth := k18m1) (c := k18c1) (by decide +kernel) rfl rfl rfl (by decide +kernel)
def codes1 : List Jvm.Cond := [Jvm.Cond.code x code maxLocals ret, Jvm.Cond.code ({ cls := "com/example/stern_warden/sternwarden/model/AccessMode", name := "listNames", desc := "()Ljava/lang/String;" } : Jvm.MethodName) prog_2_method_7_code (3 : Nat) (Option.some (Jvm.ClassFile.FieldType.object "java/lang/String")), Jvm.Cond.code ({ cls := "com/example/stern_warden/sternwarden/model/AccessMode", name := "values", desc := "()[Lcom/example/stern_warden/sternwarden/model/AccessMode;" } : Jvm.MethodName) prog_2_method_1_code (0 : Nat) (Option.some (Jvm.ClassFile.FieldType.array (Jvm.ClassFile.FieldType.object "com/example/stern_warden/sternwarden/model/AccessMode"))), Jvm.Cond.code ({ cls := "java/lang/StringBuilder", name := "<init>", desc := "(Ljava/lang/String;)V" } : Jvm.MethodName) jdk_67_method_3_code (2 : Nat) (Option.none : Option Jvm.ClassFile.FieldType), Jvm.Cond.code ({ cls := "java/lang/AbstractStringBuilder", name := "<init>", desc := "(Ljava/lang/String;)V" } : Jvm.MethodName) jdk_68_method_3_code (5 : Nat) (Option.none : Option Jvm.ClassFile.FieldType), Jvm.Cond.code ({ cls := "java/lang/Object", name := "<init>", desc := "()V" } : Jvm.MethodName) object_method_1_code (1 : Nat) (Option.none : Option Jvm.ClassFile.FieldType), Jvm.Cond.code ({ cls := "java/lang/String", name := "length", desc := "()I" } : Jvm.MethodName) jdk_42_method_54_code (1 : Nat) (Option.some Jvm.ClassFile.FieldType.int), Jvm.Cond.code ({ cls := "java/lang/String", name := "coder", desc := "()B" } : Jvm.MethodName) jdk_42_method_152_code (1 : Nat) (Option.some Jvm.ClassFile.FieldType.byte), Jvm.Cond.code ({ cls := "java/lang/StringBuilder", name := "append", desc := "(Ljava/lang/String;)Ljava/lang/AbstractStringBuilder;" } : Jvm.MethodName) jdk_67_method_80_code (2 : Nat) (Option.some (Jvm.ClassFile.FieldType.object "java/lang/AbstractStringBuilder")), Jvm.Cond.code ({ cls := "java/lang/StringBuilder", name := "append", desc := "(Ljava/lang/String;)Ljava/lang/StringBuilder;" } : Jvm.MethodName) jdk_67_method_7_code (2 : Nat) (Option.some (Jvm.ClassFile.FieldType.object "java/lang/StringBuilder")), Jvm.Cond.code ({ cls := "java/lang/AbstractStringBuilder", name := "append", desc := "(Ljava/lang/String;)Ljava/lang/AbstractStringBuilder;" } : Jvm.MethodName) jdk_68_method_22_code (3 : Nat) (Option.some (Jvm.ClassFile.FieldType.object "java/lang/AbstractStringBuilder")), Jvm.Cond.code ({ cls := "java/lang/AbstractStringBuilder", name := "ensureCapacityInternal", desc := "(I)V" } : Jvm.MethodName) jdk_68_method_9_code (3 : Nat) (Option.none : Option Jvm.ClassFile.FieldType), Jvm.Cond.code ({ cls := "java/lang/AbstractStringBuilder", name := "putStringAt", desc := "(ILjava/lang/String;)V" } : Jvm.MethodName) jdk_68_method_73_code (3 : Nat) (Option.none : Option Jvm.ClassFile.FieldType), Jvm.Cond.code ({ cls := "java/lang/AbstractStringBuilder", name := "inflateIfNeededFor", desc := "(Ljava/lang/String;)V" } : Jvm.MethodName) jdk_68_method_71_code (2 : Nat) (Option.none : Option Jvm.ClassFile.FieldType), Jvm.Cond.code ({ cls := "java/lang/String", name := "getBytes", desc := "([BIB)V" } : Jvm.MethodName) jdk_42_method_147_code (4 : Nat) (Option.none : Option Jvm.ClassFile.FieldType), Jvm.Cond.code ({ cls := "java/lang/AbstractStringBuilder", name := "newCapacity", desc := "(I)I" } : Jvm.MethodName) jdk_68_method_10_code (6 : Nat) (Option.some Jvm.ClassFile.FieldType.int), Jvm.Cond.code ({ cls := "jdk/internal/util/ArraysSupport", name := "newLength", desc := "(III)I" } : Jvm.MethodName) jdk_48_method_27_code (4 : Nat) (Option.some Jvm.ClassFile.FieldType.int), Jvm.Cond.code ({ cls := "java/lang/Math", name := "max", desc := "(II)I" } : Jvm.MethodName) jdk_29_method_65_code (2 : Nat) (Option.some Jvm.ClassFile.FieldType.int), Jvm.Cond.code ({ cls := "java/util/Arrays", name := "copyOf", desc := "([BI)[B" } : Jvm.MethodName) jdk_65_method_121_code (3 : Nat) (Option.some (Jvm.ClassFile.FieldType.array Jvm.ClassFile.FieldType.byte)), Jvm.Cond.code ({ cls := "java/lang/Math", name := "min", desc := "(II)I" } : Jvm.MethodName) jdk_29_method_69_code (2 : Nat) (Option.some Jvm.ClassFile.FieldType.int), Jvm.Cond.code ({ cls := "java/lang/StringBuilder", name := "toString", desc := "()Ljava/lang/String;" } : Jvm.MethodName) jdk_67_method_42_code (1 : Nat) (Option.some (Jvm.ClassFile.FieldType.object "java/lang/String")), Jvm.Cond.code ({ cls := "java/lang/String", name := "<init>", desc := "(Ljava/lang/StringBuilder;)V" } : Jvm.MethodName) jdk_42_method_53_code (2 : Nat) (Option.none : Option Jvm.ClassFile.FieldType), Jvm.Cond.code ({ cls := "java/lang/String", name := "<init>", desc := "(Ljava/lang/AbstractStringBuilder;Ljava/lang/Void;)V" } : Jvm.MethodName) jdk_42_method_150_code (5 : Nat) (Option.none : Option Jvm.ClassFile.FieldType), Jvm.Cond.code ({ cls := "java/lang/AbstractStringBuilder", name := "getValue", desc := "()[B" } : Jvm.MethodName) jdk_68_method_64_code (1 : Nat) (Option.some (Jvm.ClassFile.FieldType.array Jvm.ClassFile.FieldType.byte)), Jvm.Cond.code ({ cls := "java/lang/StringBuilder", name := "length", desc := "()I" } : Jvm.MethodName) jdk_67_method_93_code (1 : Nat) (Option.some Jvm.ClassFile.FieldType.int), Jvm.Cond.code ({ cls := "java/lang/AbstractStringBuilder", name := "length", desc := "()I" } : Jvm.MethodName) jdk_68_method_6_code (1 : Nat) (Option.some Jvm.ClassFile.FieldType.int), Jvm.Cond.code ({ cls := "java/lang/AbstractStringBuilder", name := "isLatin1", desc := "()Z" } : Jvm.MethodName) jdk_68_method_68_code (1 : Nat) (Option.some Jvm.ClassFile.FieldType.boolean), Jvm.Cond.code ({ cls := "java/util/Arrays", name := "copyOfRange", desc := "([BII)[B" } : Jvm.MethodName) jdk_65_method_132_code (3 : Nat) (Option.some (Jvm.ClassFile.FieldType.array Jvm.ClassFile.FieldType.byte)), Jvm.Cond.code ({ cls := "java/util/Arrays", name := "copyOfRangeByte", desc := "([BII)[B" } : Jvm.MethodName) jdk_65_method_133_code (5 : Nat) (Option.some (Jvm.ClassFile.FieldType.array Jvm.ClassFile.FieldType.byte)), Jvm.Cond.code ({ cls := "java/util/Arrays", name := "checkLength", desc := "(II)V" } : Jvm.MethodName) jdk_65_method_131_code (2 : Nat) (Option.none : Option Jvm.ClassFile.FieldType), Jvm.Cond.code ({ cls := "java/lang/String", name := "equals", desc := "(Ljava/lang/Object;)Z" } : Jvm.MethodName) jdk_42_method_66_code (3 : Nat) (Option.some Jvm.ClassFile.FieldType.boolean), Jvm.Cond.code ({ cls := "java/lang/StringLatin1", name := "equals", desc := "([B[B)Z" } : Jvm.MethodName) jdk_43_method_13_code (3 : Nat) (Option.some Jvm.ClassFile.FieldType.boolean)]
set_option maxRecDepth 65536 in
theorem codes_eq : words1.filter isCode = codes1 := rfl
theorem w_codes : ∀ c ∈ words1.filter isCode, c.before args0 about1 = true := by
  rw [codes_eq]
  intro c hc
  simp only [codes1, List.mem_cons, List.not_mem_nil, or_false] at hc
  rcases hc with rfl | rfl | rfl | rfl | rfl | rfl | rfl | rfl | rfl | rfl | rfl | rfl | rfl | rfl | rfl | rfl | rfl | rfl | rfl | rfl | rfl | rfl | rfl | rfl | rfl | rfl | rfl | rfl | rfl | rfl | rfl | rfl
  · exact w_c0
  · exact w_c1
  · exact w_c2
  · exact w_c3
  · exact w_c4
  · exact w_c5
  · exact w_c6
  · exact w_c7
  · exact w_c8
  · exact w_c9
  · exact w_c10
  · exact w_c11
  · exact w_c12
  · exact w_c13
  · exact w_c14
  · exact w_c15
  · exact w_c16
  · exact w_c17
  · exact w_c18
  · exact w_c19
  · exact w_c20
  · exact w_c21
  · exact w_c22
  · exact w_c23
  · exact w_c24
  · exact w_c25
  · exact w_c26
  · exact w_c27
  · exact w_c28
  · exact w_c29
  · exact w_c30
  · exact w_c31
set_option maxRecDepth 65536 in
theorem w_t1 : (words1.take 24).all (fun c => isCode c || c.before args0 about1) = true := by decide +kernel
set_option maxRecDepth 65536 in
theorem w_t2 : ((words1.drop 24).take 24).all (fun c => isCode c || c.before args0 about1) = true := by decide +kernel
set_option maxRecDepth 65536 in
theorem w_t3 : (((words1.drop 24).drop 24).take 24).all (fun c => isCode c || c.before args0 about1) = true := by decide +kernel
set_option maxRecDepth 65536 in
theorem w_t4 : ((((words1.drop 24).drop 24).drop 24).take 24).all (fun c => isCode c || c.before args0 about1) = true := by decide +kernel
set_option maxRecDepth 65536 in
theorem w_t5 : (((((words1.drop 24).drop 24).drop 24).drop 24).take 24).all (fun c => isCode c || c.before args0 about1) = true := by decide +kernel
set_option maxRecDepth 65536 in
theorem w_t6 : ((((((words1.drop 24).drop 24).drop 24).drop 24).drop 24).take 24).all (fun c => isCode c || c.before args0 about1) = true := by decide +kernel
set_option maxRecDepth 65536 in
theorem w_t7 : (((((((words1.drop 24).drop 24).drop 24).drop 24).drop 24).drop 24).take 24).all (fun c => isCode c || c.before args0 about1) = true := by decide +kernel
set_option maxRecDepth 65536 in
theorem w_t8 : (((((((words1.drop 24).drop 24).drop 24).drop 24).drop 24).drop 24).drop 24).all (fun c => isCode c || c.before args0 about1) = true := by decide +kernel
theorem w_tables : (allAtoms (Jvm.Cond.code x code maxLocals ret :: tables_1)).before args0 about1 = true := by
  rw [allAtoms_all]
  show words1.all (fun c => c.before args0 about1) = true
  refine all_split ?_ w_codes
  rw [← List.take_append_drop 24 words1, List.all_append, w_t1, ← List.take_append_drop 24 (words1.drop 24), List.all_append, w_t2, ← List.take_append_drop 24 ((words1.drop 24).drop 24), List.all_append, w_t3, ← List.take_append_drop 24 (((words1.drop 24).drop 24).drop 24), List.all_append, w_t4, ← List.take_append_drop 24 ((((words1.drop 24).drop 24).drop 24).drop 24), List.all_append, w_t5, ← List.take_append_drop 24 (((((words1.drop 24).drop 24).drop 24).drop 24).drop 24), List.all_append, w_t6, ← List.take_append_drop 24 ((((((words1.drop 24).drop 24).drop 24).drop 24).drop 24).drop 24), List.all_append, w_t7, w_t8]
  rfl
set_option maxRecDepth 65536 in
theorem w_rest : rest_1_c.before args0 about1 = true := by decide +kernel
set_option maxRecDepth 65536 in
theorem w_case : (Jvm.Cond.and given_1 narrow_1).before args0 about1 = true := by decide +kernel
set_option maxRecDepth 65536 in
theorem w_consts : constsHeld consts_1 about1 := Jvm.Lit.constsHeldB_iff.mp (by decide +kernel)
theorem w_applies : (headSpec (Jvm.Cond.code x code maxLocals ret :: tables_1) room_1).applies x e0.platform about1 = true :=
  (Spec.applies_iff w_frames).mpr ⟨w_running, w_runnable, w_alone, w_named, w_hears, w_ripe, w_room, w_tables⟩
theorem atStart : AtStart classFile x code maxLocals ret World_1 tables_1 room_1 Calls_1 rest_1 Pre_1 launch0 p0 e0 about1 theMethod args0 below0 :=
  ⟨lists_1, trivial, launch0.admits_env _ _ _, launch0.least_env, fairChoices_fair.cas, fairChoices_fair.clock, w_frames, w_args, w_heap, w_applies, ⟨w_consts, trivial⟩, w_rest, w_case⟩
end start1
theorem witness_1 : WitnessClaimed_1 := ⟨start1.p0, start1.e0, start1.about1, start1.theMethod, start1.args0, start1.below0, start1.atStart⟩
end Jvm.Pilot.@@N@@
