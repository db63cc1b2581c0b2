import JvmDerived
import JvmDerived.Pilot.@@N@@Statement
import JvmDerived.Pilot.@@N@@Code
set_option linter.unusedVariables false
set_option linter.unusedSimpArgs false
@@BLOCK:NumsL.lean.txt@@
namespace Jvm.RoadKit
open Sem ClassFile Op Lib Jvm.Stand Jvm.Free Jvm.LawKit
section New
variable {p : Program} {l : Launch} {e : Env} {R : Room} {s : State} {m : MethodId} {args : Array Value} {below : List Frame} {meth : Method} {c : Code} {T : State} {locs : List Loc} {cells slots : Nat}
theorem retI (X : Stand p l e R s m args below meth c T locs cells slots) (hx : p.tables.exec = Jvm.exec) {pc : Nat} {Ls : Array Slot} {z : Int32} {rest : List Value} (hret : meth.sig.returnType = some .int) (hd : decode c.code pc = .ok (.ireturn, 1)) {fs : List Frame}
    (hl : ∀ (f : JFrame) (acts : List Action), f.method = m → f.locked = none → f.entered = [] → (doReturn e (T.setTop f) acts (some (.int z))).1 = T.setFrames fs) : Steps p.tables e below (T.setTop (mkF m pc Ls (.int z :: rest))) (T.setFrames fs) := by
  have hm' : T.vm.method? m = some meth := X.method'
  have hn : narrow .int (.int z) = .int z := rfl
  show Steps p.tables e below (T.setTop { method := m, pc := pc, locals := Ls, stack := _ :: rest, locked := none }) _
  jvm_step X.here [X.here.top, hx, hd, hm', hret, hn]
  first | (intro acts; rw [hl _ acts rfl rfl rfl]) | rw [hl _ _ rfl rfl rfl]
  exact Steps.refl _
end New
end Jvm.RoadKit
namespace Jvm.Pilot.@@N@@
open Jvm Jvm.ClassFile Sem Op Lib Jvm.Free Jvm.Stand Jvm.LawKit Jvm.RoadKit Bundle Jvm.Pilot.@@N@@.Jvm.D
theorem own_eqI {args : Array Value} {s : State} {a : Term} {k : Int32} (h : (Cond.eq a (.int k)).value args s none s [] = some true) : a.eval args s none [] s = some (.int k) := by
  obtain ⟨x, y, hx, hy, k1, k2⟩ := cmp_v (Or.inl h)
  obtain rfl : Value.int k = y := Option.some.inj ((Term.int_eval k).symm.trans hy)
  obtain ⟨z, rfl⟩ : ∃ z, x = .int z := k2
  have hz : z = k := gotT (Cond.eq_ints hx hy) h
  rw [hz] at hx; exact hx
theorem own_eqR {args : Array Value} {s : State} {a b : Term} {y : Addr} (hb : b.eval args s none [] s = some (.ref y)) (h : (Cond.eq a b).value args s none s [] = some true) : a.eval args s none [] s = some (.ref y) := by
  obtain ⟨x, y', hx, hy, k1, k2⟩ := cmp_v (Or.inl h)
  obtain rfl : Value.ref y = y' := Option.some.inj (hb.symm.trans hy)
  have hr : x.isRef = true := k2.2
  have hz : x = .ref y := gotT (eq_R hx hy hr rfl) h
  rw [hz] at hx; exact hx
theorem own_z {Z : State} {n0 : Nat} {h : Heap} (O : Old Z n0 h) : n0 ≤ h.size := O.1 ▸ O.2.1
theorem own_len {args : Array Value} {s : State} {t : Term} {x : Addr} {cl : Cell} {ty : FieldType} {n : Int32} (ev : t.eval args s none [] s = some (.ref x)) (A : Arr s s.heap x cl ty) (h : (Term.length t).eval args s none [] s = some (.int n)) : cl.slots.size < 2 ^ 31 ∧ cl.slots.size.toInt32 = n := by
  have ha : s.arrayAt? x = some cl := IntBox.arrayAt_of A.1 A.2.1 A.2.2
  simpa [Term.eval, ev, ha] using h
theorem own_elem {args : Array Value} {s : State} {t : Term} {x : Addr} {cl : Cell} {ty : FieldType} {j : Int32} {v : Value} {i : Nat} (ev : t.eval args s none [] s = some (.ref x)) (A : Arr s s.heap x cl ty) (h : (Term.elem t (.int j)).eval args s none [] s = some v) (hi : j.toNatClampNeg = i) : cl.slots[i]? = some v := by
  have q := (elem_in h ev (Term.int_eval j) A.1).2
  rw [hi] at q; exact q
def own_ws : List Jvm.Cond := tables_1 ++ jdkStatics_1
theorem gw (i : Nat) {d : Jvm.Cond} (h : own_ws[i]? = some d) : d ∈ own_ws := List.mem_of_getElem? h
theorem own_wS {Z : State} {a0 : Array Value} (hw : ∀ d ∈ own_ws, d.before a0 Z = true) : ∀ a ∈ Bundle.stringAtoms, a.before a0 Z = true := fun a ha => by
  simp only [Bundle.stringAtoms, List.mem_cons, List.not_mem_nil, or_false] at ha
  rcases ha with rfl | rfl | rfl | rfl | rfl | rfl | rfl
  · exact hw _ (gw 9 rfl)
  · exact hw _ (gw 8 rfl)
  · exact hw _ (gw 22 rfl)
  · exact hw _ (gw 23 rfl)
  · exact hw _ (gw 24 rfl)
  · exact hw _ (gw 25 rfl)
  · exact hw _ (gw 26 rfl)
def own_EL : List (String × Nat) := consts_1
theorem own_EW {Z : State} {a0 : Array Value} (hw : ∀ d ∈ own_ws, d.before a0 Z = true) : EW Z a0 own_EL := (EW.cons (hw _ (gw 21 rfl)) (by decide +kernel) EW.nil)
theorem own_compact {Z : State} {a0 : Array Value} (hw : ∀ d ∈ own_ws, d.before a0 Z = true) : Jvm.Lit.compactW.before a0 Z = true := hw _ (gw 85 rfl)
theorem own_held {tb : Tables} {e : Env} {args : Array Value} {s : State} (h : Calls_1 tb e args s) : ∀ p ∈ own_EL, Jvm.Lit.constHeld s p.1 p.2 := fun p hp => h.1 p hp
theorem own_safeNull {Z : State} {EL : List (String × Nat)} {vm : Vm} {h : Heap} {x : Addr} (hal : Z.vm.Alike vm) (E : Exa Z h x "java/lang/String") (F : Fld Z h x "java/lang/String" "value" "[B" .null) : Safe Z EL vm h x := fun B => by
  obtain ⟨cell, k, e1, e2, e3, -, -⟩ := E
  obtain ⟨cell', cf, kf, i, f, f1, f2, f3, f4, f5, f6, f7⟩ := F
  cases e1.symm.trans f1
  obtain ⟨p, -, u, a, -, q, -, F, rfl | rfl⟩ := B
  · cases (show h[q.sa]? = some q.sC from F.ha).symm.trans e1
    obtain ⟨cS, ⟨⟨s1, s2, s3, ⟨cv, kv, iv, s4, s4'⟩, s5, s6, s7, s8, s9, s10⟩, hfS, hcS⟩, -⟩ := F
    obtain ⟨kv', z4⟩ := ff_back (U := Wst Z vm h) hal s4
    cases f2.symm.trans z4
    cases f7.symm.trans s8
  · cases (show h[q.sd]? = some q.SA from F.hd).symm.trans e1
    obtain ⟨cS, -, -, g, -⟩ := F
    have g' : vm.findClass "[B" = some q.SA.cls := g
    rw [hal.findClass] at g'
    exact ids_ne e2 g' (by decide) rfl
theorem own_notCast {Z : State} {a0 : Array Value} {C S K : String} {n : Nat} (w : (Cond.superclass C S).before a0 Z = true) (w2 : (Cond.noSuperclass S).before a0 Z = true) (wi : (Cond.instantiable K n).before a0 Z = true) (h1 : C ≠ K) (h2 : S ≠ K) : ∃ c t, Z.vm.findClass C = some c ∧ Z.vm.findClass K = some t ∧ Z.vm.assignable c t = false := by
  obtain ⟨t, k, g1, g2, g3, g4, -, -⟩ := Cond.instantiable_spec wi
  obtain ⟨o, ko, a1, a2, a3, -, -⟩ := Cond.noSuperclass_spec w2
  have ne1 := ids_ne a1 g1 h2
  have nsO : NS Z S K := ⟨o, t, a1, g1, fun fuel => by
    cases fuel with
    | zero => rfl
    | succ f => simp [Vm.isSubclassAux, ne1, a2, a3]⟩
  obtain ⟨c, t', b1, b2, b3⟩ := NS.step w nsO h1
  cases g1.symm.trans b2
  obtain ⟨p, k1, kp, d1, d2, d3, d4, d5, -, d7⟩ := Cond.superclass_spec b1 w
  have ne2 := ids_ne b1 g1 h1
  have g5 : k.isInterface = false := by
    cases hq : k.isInterface with
    | false => rfl
    | true => rw [hq] at g4; cases g4
  refine ⟨c, t, b1, g1, ?_⟩
  show Z.vm.assignableAux (255 + 1) c t = false
  simp [Vm.assignableAux, ne2, d2, g2, d5, g3, g5, Vm.isSubclass, b3]
theorem own_l3 {y x : Int32} (h : y = x &&& 32767) : y % 3 = 0 ∨ y % 3 = 1 ∨ y % 3 = 2 := by
  subst h
  have h := Jvm.Kit.i32_mask x 32767 (k := 15) (by decide) (by decide +kernel)
  have hn : (3 : Int32).toInt = 3 := by decide +kernel
  have h2 : ((x &&& 32767) % 3).toInt = (x &&& 32767).toInt % 3 := by rw [Jvm.Kit.i32_rem_nonneg (by omega), hn]
  have e0 : (0 : Int32).toInt = 0 := by decide +kernel
  have e1 : (1 : Int32).toInt = 1 := by decide +kernel
  have e2 : (2 : Int32).toInt = 2 := by decide +kernel
  simp only [← Int32.toInt_inj, e0, e1, e2]
  omega
theorem own_nar255 {y x : Int32} (h : y = x &&& 255) : nar .char y = y := by subst h; exact i2c_mask x
theorem own_i2c255 {y x : Int32} (h : y = x &&& 255) : y.toUInt32.toUInt16.toUInt32.toInt32 = y := by subst h; exact i2c_mask x
theorem own_lt255 {y x : Int32} (h : y = x &&& 255) : ¬ ((255 : Int32) < y) := by
  subst h
  have h := Jvm.Kit.i32_mask x 255 (k := 8) (by decide) (by decide +kernel)
  have e : (255 : Int32).toInt = 255 := by decide +kernel
  rw [Int32.lt_iff_toInt_lt, e]; omega
theorem own_i2b2 {y x : Int32} (h : y = x.toInt8.toInt32) : y.toInt8.toInt32 = y := by
  subst h; rw [Int8.toInt8_toInt32]
theorem own_b255 {b y x : Int32} (hb : b = y.toInt8.toInt32) (h : y = x &&& 255) : b &&& 255 = y := by
  subst hb
  have h1 := Jvm.Kit.i32_mask (y.toInt8.toInt32) 255 (k := 8) (by decide) (by decide +kernel)
  have h2 := Jvm.Kit.i32_mask x 255 (k := 8) (by decide) (by decide +kernel)
  rw [← h] at h2
  have h3 : y.toInt8.toInt32.toInt = y.toInt.bmod 256 := by rw [Int8.toInt_toInt32, Int32.toInt_toInt8]
  rw [← Int32.toInt_inj, h1, h3, Int.bmod_def]
  split <;> omega
theorem own_beq {b c y z u v : Int32} (h1 : b = y.toInt8.toInt32) (h2 : c = z.toInt8.toInt32) (h : y = z) : b = c := by rw [h1, h2, h]
theorem own_bne {b c y z u v : Int32} (h1 : b = y.toInt8.toInt32) (h2 : c = z.toInt8.toInt32) (m1 : y = u &&& 255) (m2 : z = v &&& 255) (h : ¬ y = z) : ¬ b = c := fun q => h (by rw [← own_b255 h1 m1, ← own_b255 h2 m2, q])
theorem own_ltk {y x k : Int32} (h : y = x &&& 255) (hk : 255 < k.toInt) : y < k := by
  subst h
  have h := Jvm.Kit.i32_mask x 255 (k := 8) (by decide) (by decide +kernel)
  rw [Int32.lt_iff_toInt_lt]; omega
theorem d1_0 : decode method_3_code 0 = .ok (.iload_n 0, 1) := by decide +kernel
theorem d1_1 : decode method_3_code 1 = .ok (.sipush 255, 3) := by decide +kernel
theorem d1_4 : decode method_3_code 4 = .ok (.iand, 1) := by decide +kernel
theorem d1_5 : decode method_3_code 5 = .ok (.i2c, 1) := by decide +kernel
theorem d1_6 : decode method_3_code 6 = .ok (.istore_n 1, 1) := by decide +kernel
theorem d1_7 : decode method_3_code 7 = .ok (.iload_n 0, 1) := by decide +kernel
theorem d1_8 : decode method_3_code 8 = .ok (.bipush 8, 2) := by decide +kernel
theorem d1_10 : decode method_3_code 10 = .ok (.iushr, 1) := by decide +kernel
theorem d1_11 : decode method_3_code 11 = .ok (.sipush 255, 3) := by decide +kernel
theorem d1_14 : decode method_3_code 14 = .ok (.iand, 1) := by decide +kernel
theorem d1_15 : decode method_3_code 15 = .ok (.i2c, 1) := by decide +kernel
theorem d1_16 : decode method_3_code 16 = .ok (.istore_n 2, 1) := by decide +kernel
theorem d1_17 : decode method_3_code 17 = .ok (.iload_n 0, 1) := by decide +kernel
theorem d1_18 : decode method_3_code 18 = .ok (.invokestatic 7, 3) := by decide +kernel
theorem d2_0 : decode method_2_code 0 = .ok (.iload_n 0, 1) := by decide +kernel
theorem d2_1 : decode method_2_code 1 = .ok (.bipush 16, 2) := by decide +kernel
theorem d2_3 : decode method_2_code 3 = .ok (.iushr, 1) := by decide +kernel
theorem d2_4 : decode method_2_code 4 = .ok (.sipush 32767, 3) := by decide +kernel
theorem d2_7 : decode method_2_code 7 = .ok (.iand, 1) := by decide +kernel
theorem d2_8 : decode method_2_code 8 = .ok (.iconst 3, 1) := by decide +kernel
theorem d2_9 : decode method_2_code 9 = .ok (.irem, 1) := by decide +kernel
theorem d2_10 : decode method_2_code 10 = .ok (.ireturn, 1) := by decide +kernel
abbrev M_0 : MethodName := ⟨"com/example/vestry/vestry/NumeralEqualsPinLaw", "len", "(I)I"⟩
theorem pn_0 : plainName "com/example/vestry/vestry/NumeralEqualsPinLaw" = true := by first | (simp [plainName, overriddenIn]; done) | decide +kernel
theorem pd_0 : parseMethodDescriptor "(I)I" = some ⟨[.int], some .int⟩ := by decide +kernel
theorem d1_21 : decode method_3_code 21 = .ok (.istore_n 3, 1) := by decide +kernel
theorem d1_22 : decode method_3_code 22 = .ok (.iload_n 3, 1) := by decide +kernel
theorem d1_23 : decode method_3_code 23 = .ok (.ifCond .ne 14, 3) := by decide +kernel
theorem d1_26 : decode method_3_code 26 = .ok (.new 13, 3) := by decide +kernel
abbrev C_0 : String := "java/lang/String"
theorem d1_29 : decode method_3_code 29 = .ok (.dup, 1) := by decide +kernel
theorem d1_30 : decode method_3_code 30 = .ok (.iconst 0, 1) := by decide +kernel
theorem d1_31 : decode method_3_code 31 = .ok (.newarray .char, 2) := by decide +kernel
theorem d1_33 : decode method_3_code 33 = .ok (.invokespecial 15, 3) := by decide +kernel
theorem d3_0 : decode jdk_42_method_3_code 0 = .ok (.aload_n 0, 1) := by decide +kernel
theorem d3_1 : decode jdk_42_method_3_code 1 = .ok (.aload_n 1, 1) := by decide +kernel
theorem d3_2 : decode jdk_42_method_3_code 2 = .ok (.iconst 0, 1) := by decide +kernel
theorem d3_3 : decode jdk_42_method_3_code 3 = .ok (.aload_n 1, 1) := by decide +kernel
theorem d3_4 : decode jdk_42_method_3_code 4 = .ok (.arraylength, 1) := by decide +kernel
theorem d3_5 : decode jdk_42_method_3_code 5 = .ok (.aconst_null, 1) := by decide +kernel
theorem d3_6 : decode jdk_42_method_3_code 6 = .ok (.invokespecial 27, 3) := by decide +kernel
theorem d4_0 : decode jdk_42_method_149_code 0 = .ok (.aload_n 0, 1) := by decide +kernel
theorem d4_1 : decode jdk_42_method_149_code 1 = .ok (.invokespecial 1, 3) := by decide +kernel
theorem d4_4 : decode jdk_42_method_149_code 4 = .ok (.iload_n 3, 1) := by decide +kernel
theorem d4_5 : decode jdk_42_method_149_code 5 = .ok (.ifCond .ne 22, 3) := by decide +kernel
theorem d4_8 : decode jdk_42_method_149_code 8 = .ok (.aload_n 0, 1) := by decide +kernel
theorem d4_9 : decode jdk_42_method_149_code 9 = .ok (.ldc 7, 2) := by decide +kernel
theorem d4_11 : decode jdk_42_method_149_code 11 = .ok (.getfield 9, 3) := by decide +kernel
theorem d4_14 : decode jdk_42_method_149_code 14 = .ok (.putfield 9, 3) := by decide +kernel
theorem d4_17 : decode jdk_42_method_149_code 17 = .ok (.aload_n 0, 1) := by decide +kernel
theorem d4_18 : decode jdk_42_method_149_code 18 = .ok (.ldc 7, 2) := by decide +kernel
theorem d4_20 : decode jdk_42_method_149_code 20 = .ok (.getfield 15, 3) := by decide +kernel
theorem d4_23 : decode jdk_42_method_149_code 23 = .ok (.putfield 15, 3) := by decide +kernel
theorem d4_26 : decode jdk_42_method_149_code 26 = .ok (.return_, 1) := by decide +kernel
abbrev M_1 : MethodName := ⟨"java/lang/String", "<init>", "([CIILjava/lang/Void;)V"⟩
theorem pn_1 : plainName "java/lang/String" = true := by first | (simp [plainName, overriddenIn]; done) | decide +kernel
theorem pd_1 : parseMethodDescriptor "([CIILjava/lang/Void;)V" = some ⟨[(.array .char), .int, .int, (.object "java/lang/Void")], none⟩ := by decide +kernel
theorem d3_9 : decode jdk_42_method_3_code 9 = .ok (.return_, 1) := by decide +kernel
abbrev M_2 : MethodName := ⟨"java/lang/String", "<init>", "([C)V"⟩
theorem pd_2 : parseMethodDescriptor "([C)V" = some ⟨[(.array .char)], none⟩ := by decide +kernel
theorem d1_36 : decode method_3_code 36 = .ok (.areturn, 1) := by decide +kernel
theorem d1_37 : decode method_3_code 37 = .ok (.iload_n 3, 1) := by decide +kernel
theorem d1_38 : decode method_3_code 38 = .ok (.iconst 1, 1) := by decide +kernel
theorem d1_39 : decode method_3_code 39 = .ok (.if_icmp .ne 8, 3) := by decide +kernel
theorem d1_42 : decode method_3_code 42 = .ok (.iload_n 1, 1) := by decide +kernel
theorem d1_43 : decode method_3_code 43 = .ok (.invokestatic 18, 3) := by decide +kernel
theorem d9_0 : decode jdk_42_method_139_code 0 = .ok (.getstatic 38, 3) := by decide +kernel
theorem d9_3 : decode jdk_42_method_139_code 3 = .ok (.ifCond .eq 23, 3) := by decide +kernel
theorem d9_6 : decode jdk_42_method_139_code 6 = .ok (.iload_n 0, 1) := by decide +kernel
theorem d9_7 : decode jdk_42_method_139_code 7 = .ok (.invokestatic 1015, 3) := by decide +kernel
theorem d10_0 : decode jdk_43_method_3_code 0 = .ok (.iload_n 0, 1) := by decide +kernel
theorem d10_1 : decode jdk_43_method_3_code 1 = .ok (.sipush 255, 3) := by decide +kernel
theorem d10_4 : decode jdk_43_method_3_code 4 = .ok (.if_icmp .gt 7, 3) := by decide +kernel
theorem d10_7 : decode jdk_43_method_3_code 7 = .ok (.iconst 1, 1) := by decide +kernel
theorem d10_8 : decode jdk_43_method_3_code 8 = .ok (.goto 4, 3) := by decide +kernel
theorem d10_12 : decode jdk_43_method_3_code 12 = .ok (.ireturn, 1) := by decide +kernel
abbrev M_3 : MethodName := ⟨"java/lang/StringLatin1", "canEncode", "(C)Z"⟩
theorem pn_2 : plainName "java/lang/StringLatin1" = true := by first | (simp [plainName, overriddenIn]; done) | decide +kernel
theorem pd_3 : parseMethodDescriptor "(C)Z" = some ⟨[.char], some .boolean⟩ := by decide +kernel
theorem d9_10 : decode jdk_42_method_139_code 10 = .ok (.ifCond .eq 16, 3) := by decide +kernel
theorem d9_13 : decode jdk_42_method_139_code 13 = .ok (.new 10, 3) := by decide +kernel
theorem d9_16 : decode jdk_42_method_139_code 16 = .ok (.dup, 1) := by decide +kernel
theorem d9_17 : decode jdk_42_method_139_code 17 = .ok (.iload_n 0, 1) := by decide +kernel
theorem d9_18 : decode jdk_42_method_139_code 18 = .ok (.invokestatic 1018, 3) := by decide +kernel
theorem d11_0 : decode jdk_43_method_46_code 0 = .ok (.iconst 1, 1) := by decide +kernel
theorem d11_1 : decode jdk_43_method_46_code 1 = .ok (.newarray .byte, 2) := by decide +kernel
theorem d11_3 : decode jdk_43_method_46_code 3 = .ok (.dup, 1) := by decide +kernel
theorem d11_4 : decode jdk_43_method_46_code 4 = .ok (.iconst 0, 1) := by decide +kernel
theorem d11_5 : decode jdk_43_method_46_code 5 = .ok (.iload_n 0, 1) := by decide +kernel
theorem d11_6 : decode jdk_43_method_46_code 6 = .ok (.i2b, 1) := by decide +kernel
theorem d11_7 : decode jdk_43_method_46_code 7 = .ok (.bastore, 1) := by decide +kernel
theorem d11_8 : decode jdk_43_method_46_code 8 = .ok (.areturn, 1) := by decide +kernel
abbrev M_4 : MethodName := ⟨"java/lang/StringLatin1", "toBytes", "(C)[B"⟩
theorem pd_4 : parseMethodDescriptor "(C)[B" = some ⟨[.char], some (.array .byte)⟩ := by decide +kernel
theorem d9_21 : decode jdk_42_method_139_code 21 = .ok (.iconst 0, 1) := by decide +kernel
theorem d9_22 : decode jdk_42_method_139_code 22 = .ok (.invokespecial 209, 3) := by decide +kernel
theorem d12_0 : decode jdk_42_method_151_code 0 = .ok (.aload_n 0, 1) := by decide +kernel
theorem d12_1 : decode jdk_42_method_151_code 1 = .ok (.invokespecial 1, 3) := by decide +kernel
theorem d12_4 : decode jdk_42_method_151_code 4 = .ok (.aload_n 0, 1) := by decide +kernel
theorem d12_5 : decode jdk_42_method_151_code 5 = .ok (.aload_n 1, 1) := by decide +kernel
theorem d12_6 : decode jdk_42_method_151_code 6 = .ok (.putfield 9, 3) := by decide +kernel
theorem d12_9 : decode jdk_42_method_151_code 9 = .ok (.aload_n 0, 1) := by decide +kernel
theorem d12_10 : decode jdk_42_method_151_code 10 = .ok (.iload_n 2, 1) := by decide +kernel
theorem d12_11 : decode jdk_42_method_151_code 11 = .ok (.putfield 15, 3) := by decide +kernel
theorem d12_14 : decode jdk_42_method_151_code 14 = .ok (.return_, 1) := by decide +kernel
abbrev M_5 : MethodName := ⟨"java/lang/String", "<init>", "([BB)V"⟩
theorem pd_5 : parseMethodDescriptor "([BB)V" = some ⟨[(.array .byte), .byte], none⟩ := by decide +kernel
theorem d9_25 : decode jdk_42_method_139_code 25 = .ok (.areturn, 1) := by decide +kernel
abbrev M_6 : MethodName := ⟨"java/lang/String", "valueOf", "(C)Ljava/lang/String;"⟩
theorem pd_6 : parseMethodDescriptor "(C)Ljava/lang/String;" = some ⟨[.char], some (.object "java/lang/String")⟩ := by decide +kernel
theorem d1_46 : decode method_3_code 46 = .ok (.areturn, 1) := by decide +kernel
theorem d1_47 : decode method_3_code 47 = .ok (.iconst 2, 1) := by decide +kernel
theorem d1_48 : decode method_3_code 48 = .ok (.newarray .char, 2) := by decide +kernel
theorem d1_50 : decode method_3_code 50 = .ok (.astore 4, 2) := by decide +kernel
theorem d1_52 : decode method_3_code 52 = .ok (.aload 4, 2) := by decide +kernel
theorem d1_54 : decode method_3_code 54 = .ok (.iconst 0, 1) := by decide +kernel
theorem d1_55 : decode method_3_code 55 = .ok (.iload_n 1, 1) := by decide +kernel
theorem d1_56 : decode method_3_code 56 = .ok (.castore, 1) := by decide +kernel
theorem d1_57 : decode method_3_code 57 = .ok (.aload 4, 2) := by decide +kernel
theorem d1_59 : decode method_3_code 59 = .ok (.iconst 1, 1) := by decide +kernel
theorem d1_60 : decode method_3_code 60 = .ok (.iload_n 2, 1) := by decide +kernel
theorem d1_61 : decode method_3_code 61 = .ok (.castore, 1) := by decide +kernel
theorem d1_62 : decode method_3_code 62 = .ok (.new 13, 3) := by decide +kernel
theorem d1_65 : decode method_3_code 65 = .ok (.dup, 1) := by decide +kernel
theorem d1_66 : decode method_3_code 66 = .ok (.aload 4, 2) := by decide +kernel
theorem d1_68 : decode method_3_code 68 = .ok (.invokespecial 15, 3) := by decide +kernel
theorem d4_27 : decode jdk_42_method_149_code 27 = .ok (.getstatic 38, 3) := by decide +kernel
theorem d4_30 : decode jdk_42_method_149_code 30 = .ok (.ifCond .eq 28, 3) := by decide +kernel
theorem d4_33 : decode jdk_42_method_149_code 33 = .ok (.aload_n 1, 1) := by decide +kernel
theorem d4_34 : decode jdk_42_method_149_code 34 = .ok (.iload_n 2, 1) := by decide +kernel
theorem d4_35 : decode jdk_42_method_149_code 35 = .ok (.iload_n 3, 1) := by decide +kernel
theorem d4_36 : decode jdk_42_method_149_code 36 = .ok (.invokestatic 177, 3) := by decide +kernel
theorem d13_0 : decode jdk_52_method_16_code 0 = .ok (.iload_n 2, 1) := by decide +kernel
theorem d13_1 : decode jdk_52_method_16_code 1 = .ok (.newarray .byte, 2) := by decide +kernel
theorem d13_3 : decode jdk_52_method_16_code 3 = .ok (.astore_n 3, 1) := by decide +kernel
theorem d13_4 : decode jdk_52_method_16_code 4 = .ok (.aload_n 0, 1) := by decide +kernel
theorem d13_5 : decode jdk_52_method_16_code 5 = .ok (.iload_n 1, 1) := by decide +kernel
theorem d13_6 : decode jdk_52_method_16_code 6 = .ok (.aload_n 3, 1) := by decide +kernel
theorem d13_7 : decode jdk_52_method_16_code 7 = .ok (.iconst 0, 1) := by decide +kernel
theorem d13_8 : decode jdk_52_method_16_code 8 = .ok (.iload_n 2, 1) := by decide +kernel
theorem d13_9 : decode jdk_52_method_16_code 9 = .ok (.invokestatic 115, 3) := by decide +kernel
theorem d14_0 : decode jdk_52_method_21_code 0 = .ok (.iconst 0, 1) := by decide +kernel
theorem d14_1 : decode jdk_52_method_21_code 1 = .ok (.istore 5, 2) := by decide +kernel
theorem d14_3 : decode jdk_52_method_21_code 3 = .ok (.iload 5, 2) := by decide +kernel
theorem d14_5 : decode jdk_52_method_21_code 5 = .ok (.iload 4, 2) := by decide +kernel
theorem d14_7 : decode jdk_52_method_21_code 7 = .ok (.if_icmp .ge 37, 3) := by decide +kernel
theorem d14_10 : decode jdk_52_method_21_code 10 = .ok (.aload_n 0, 1) := by decide +kernel
theorem d14_11 : decode jdk_52_method_21_code 11 = .ok (.iload_n 1, 1) := by decide +kernel
theorem d14_12 : decode jdk_52_method_21_code 12 = .ok (.caload, 1) := by decide +kernel
theorem d14_13 : decode jdk_52_method_21_code 13 = .ok (.istore 6, 2) := by decide +kernel
theorem d14_15 : decode jdk_52_method_21_code 15 = .ok (.iload 6, 2) := by decide +kernel
theorem d14_17 : decode jdk_52_method_21_code 17 = .ok (.sipush 255, 3) := by decide +kernel
theorem d14_20 : decode jdk_52_method_21_code 20 = .ok (.if_icmp .le 6, 3) := by decide +kernel
theorem d14_26 : decode jdk_52_method_21_code 26 = .ok (.aload_n 2, 1) := by decide +kernel
theorem d14_27 : decode jdk_52_method_21_code 27 = .ok (.iload_n 3, 1) := by decide +kernel
theorem d14_28 : decode jdk_52_method_21_code 28 = .ok (.iload 6, 2) := by decide +kernel
theorem d14_30 : decode jdk_52_method_21_code 30 = .ok (.i2b, 1) := by decide +kernel
theorem d14_31 : decode jdk_52_method_21_code 31 = .ok (.bastore, 1) := by decide +kernel
theorem d14_32 : decode jdk_52_method_21_code 32 = .ok (.iinc 1 1, 3) := by decide +kernel
theorem d14_35 : decode jdk_52_method_21_code 35 = .ok (.iinc 3 1, 3) := by decide +kernel
theorem d14_38 : decode jdk_52_method_21_code 38 = .ok (.iinc 5 1, 3) := by decide +kernel
theorem d14_41 : decode jdk_52_method_21_code 41 = .ok (.goto (-38), 3) := by decide +kernel
theorem d14_44 : decode jdk_52_method_21_code 44 = .ok (.iload 4, 2) := by decide +kernel
theorem d14_46 : decode jdk_52_method_21_code 46 = .ok (.ireturn, 1) := by decide +kernel
abbrev M_7 : MethodName := ⟨"java/lang/StringUTF16", "compress", "([CI[BII)I"⟩
theorem pn_3 : plainName "java/lang/StringUTF16" = true := by first | (simp [plainName, overriddenIn]; done) | decide +kernel
theorem pd_7 : parseMethodDescriptor "([CI[BII)I" = some ⟨[(.array .char), .int, (.array .byte), .int, .int], some .int⟩ := by decide +kernel
theorem d13_12 : decode jdk_52_method_16_code 12 = .ok (.istore 4, 2) := by decide +kernel
theorem d13_14 : decode jdk_52_method_16_code 14 = .ok (.iload 4, 2) := by decide +kernel
theorem d13_16 : decode jdk_52_method_16_code 16 = .ok (.iload_n 2, 1) := by decide +kernel
theorem d13_17 : decode jdk_52_method_16_code 17 = .ok (.if_icmp .eq 40, 3) := by decide +kernel
theorem d13_57 : decode jdk_52_method_16_code 57 = .ok (.aload_n 3, 1) := by decide +kernel
theorem d13_58 : decode jdk_52_method_16_code 58 = .ok (.areturn, 1) := by decide +kernel
abbrev M_8 : MethodName := ⟨"java/lang/StringUTF16", "compress", "([CII)[B"⟩
theorem pd_8 : parseMethodDescriptor "([CII)[B" = some ⟨[(.array .char), .int, .int], some (.array .byte)⟩ := by decide +kernel
theorem d4_39 : decode jdk_42_method_149_code 39 = .ok (.astore 5, 2) := by decide +kernel
theorem d4_41 : decode jdk_42_method_149_code 41 = .ok (.aload_n 0, 1) := by decide +kernel
theorem d4_42 : decode jdk_42_method_149_code 42 = .ok (.aload 5, 2) := by decide +kernel
theorem d4_44 : decode jdk_42_method_149_code 44 = .ok (.iload_n 3, 1) := by decide +kernel
theorem d4_45 : decode jdk_42_method_149_code 45 = .ok (.invokestatic 47, 3) := by decide +kernel
theorem d15_0 : decode jdk_52_method_15_code 0 = .ok (.iload_n 1, 1) := by decide +kernel
theorem d15_1 : decode jdk_52_method_15_code 1 = .ok (.aload_n 0, 1) := by decide +kernel
theorem d15_2 : decode jdk_52_method_15_code 2 = .ok (.arraylength, 1) := by decide +kernel
theorem d15_3 : decode jdk_52_method_15_code 3 = .ok (.isub, 1) := by decide +kernel
theorem d15_4 : decode jdk_52_method_15_code 4 = .ok (.bipush 31, 2) := by decide +kernel
theorem d15_6 : decode jdk_52_method_15_code 6 = .ok (.iushr, 1) := by decide +kernel
theorem d15_7 : decode jdk_52_method_15_code 7 = .ok (.i2b, 1) := by decide +kernel
theorem d15_8 : decode jdk_52_method_15_code 8 = .ok (.ireturn, 1) := by decide +kernel
abbrev M_9 : MethodName := ⟨"java/lang/StringUTF16", "coderFromArrayLen", "([BI)B"⟩
theorem pd_9 : parseMethodDescriptor "([BI)B" = some ⟨[(.array .byte), .int], some .byte⟩ := by decide +kernel
theorem d4_48 : decode jdk_42_method_149_code 48 = .ok (.putfield 15, 3) := by decide +kernel
theorem d4_51 : decode jdk_42_method_149_code 51 = .ok (.aload_n 0, 1) := by decide +kernel
theorem d4_52 : decode jdk_42_method_149_code 52 = .ok (.aload 5, 2) := by decide +kernel
theorem d4_54 : decode jdk_42_method_149_code 54 = .ok (.putfield 9, 3) := by decide +kernel
theorem d4_57 : decode jdk_42_method_149_code 57 = .ok (.return_, 1) := by decide +kernel
theorem d1_71 : decode method_3_code 71 = .ok (.areturn, 1) := by decide +kernel
abbrev M_10 : MethodName := ⟨"com/example/vestry/vestry/NumeralEqualsPinLaw", "draw", "(I)Ljava/lang/String;"⟩
theorem pd_10 : parseMethodDescriptor "(I)Ljava/lang/String;" = some ⟨[.int], some (.object "java/lang/String")⟩ := by decide +kernel
abbrev C_1 : String := "com/example/vestry/vestry/JsonText$Numeral"
abbrev C_2 : String := "Ljava/lang/String;"
theorem d6_0 : decode prog_67_method_1_code 0 = .ok (.aload_n 0, 1) := by decide +kernel
theorem d6_1 : decode prog_67_method_1_code 1 = .ok (.invokespecial 1, 3) := by decide +kernel
theorem d6_4 : decode prog_67_method_1_code 4 = .ok (.aload_n 0, 1) := by decide +kernel
theorem d6_5 : decode prog_67_method_1_code 5 = .ok (.aload_n 1, 1) := by decide +kernel
theorem d6_6 : decode prog_67_method_1_code 6 = .ok (.putfield 7, 3) := by decide +kernel
theorem d6_9 : decode prog_67_method_1_code 9 = .ok (.return_, 1) := by decide +kernel
abbrev M_11 : MethodName := ⟨"com/example/vestry/vestry/JsonText$Numeral", "<init>", "(Ljava/lang/String;)V"⟩
theorem pn_4 : plainName "com/example/vestry/vestry/JsonText$Numeral" = true := by first | (simp [plainName, overriddenIn]; done) | decide +kernel
theorem pd_11 : parseMethodDescriptor "(Ljava/lang/String;)V" = some ⟨[(.object "java/lang/String")], none⟩ := by decide +kernel
theorem d16_0 : decode method_4_code 0 = .ok (.iload_n 0, 1) := by decide +kernel
theorem d16_1 : decode method_4_code 1 = .ok (.invokestatic 7, 3) := by decide +kernel
theorem d16_4 : decode method_4_code 4 = .ok (.istore_n 2, 1) := by decide +kernel
theorem d16_5 : decode method_4_code 5 = .ok (.iload_n 1, 1) := by decide +kernel
theorem d16_6 : decode method_4_code 6 = .ok (.invokestatic 7, 3) := by decide +kernel
theorem d16_9 : decode method_4_code 9 = .ok (.istore_n 3, 1) := by decide +kernel
theorem d16_10 : decode method_4_code 10 = .ok (.iload_n 2, 1) := by decide +kernel
theorem d16_11 : decode method_4_code 11 = .ok (.iload_n 3, 1) := by decide +kernel
theorem d16_12 : decode method_4_code 12 = .ok (.if_icmp .eq 5, 3) := by decide +kernel
theorem d16_17 : decode method_4_code 17 = .ok (.iload_n 2, 1) := by decide +kernel
theorem d16_18 : decode method_4_code 18 = .ok (.iconst 1, 1) := by decide +kernel
theorem d16_19 : decode method_4_code 19 = .ok (.if_icmp .lt 18, 3) := by decide +kernel
theorem d16_37 : decode method_4_code 37 = .ok (.iload_n 2, 1) := by decide +kernel
theorem d16_38 : decode method_4_code 38 = .ok (.iconst 2, 1) := by decide +kernel
theorem d16_39 : decode method_4_code 39 = .ok (.if_icmp .lt 24, 3) := by decide +kernel
theorem d16_63 : decode method_4_code 63 = .ok (.iconst 1, 1) := by decide +kernel
theorem d16_64 : decode method_4_code 64 = .ok (.ireturn, 1) := by decide +kernel
theorem d16_15 : decode method_4_code 15 = .ok (.iconst 0, 1) := by decide +kernel
theorem d16_16 : decode method_4_code 16 = .ok (.ireturn, 1) := by decide +kernel
theorem d16_22 : decode method_4_code 22 = .ok (.iload_n 0, 1) := by decide +kernel
theorem d16_23 : decode method_4_code 23 = .ok (.sipush 255, 3) := by decide +kernel
theorem d16_26 : decode method_4_code 26 = .ok (.iand, 1) := by decide +kernel
theorem d16_27 : decode method_4_code 27 = .ok (.iload_n 1, 1) := by decide +kernel
theorem d16_28 : decode method_4_code 28 = .ok (.sipush 255, 3) := by decide +kernel
theorem d16_31 : decode method_4_code 31 = .ok (.iand, 1) := by decide +kernel
theorem d16_32 : decode method_4_code 32 = .ok (.if_icmp .eq 5, 3) := by decide +kernel
theorem d16_35 : decode method_4_code 35 = .ok (.iconst 0, 1) := by decide +kernel
theorem d16_36 : decode method_4_code 36 = .ok (.ireturn, 1) := by decide +kernel
theorem d16_42 : decode method_4_code 42 = .ok (.iload_n 0, 1) := by decide +kernel
theorem d16_43 : decode method_4_code 43 = .ok (.bipush 8, 2) := by decide +kernel
theorem d16_45 : decode method_4_code 45 = .ok (.iushr, 1) := by decide +kernel
theorem d16_46 : decode method_4_code 46 = .ok (.sipush 255, 3) := by decide +kernel
theorem d16_49 : decode method_4_code 49 = .ok (.iand, 1) := by decide +kernel
theorem d16_50 : decode method_4_code 50 = .ok (.iload_n 1, 1) := by decide +kernel
theorem d16_51 : decode method_4_code 51 = .ok (.bipush 8, 2) := by decide +kernel
theorem d16_53 : decode method_4_code 53 = .ok (.iushr, 1) := by decide +kernel
theorem d16_54 : decode method_4_code 54 = .ok (.sipush 255, 3) := by decide +kernel
theorem d16_57 : decode method_4_code 57 = .ok (.iand, 1) := by decide +kernel
theorem d16_58 : decode method_4_code 58 = .ok (.if_icmp .eq 5, 3) := by decide +kernel
theorem d16_61 : decode method_4_code 61 = .ok (.iconst 0, 1) := by decide +kernel
theorem d16_62 : decode method_4_code 62 = .ok (.ireturn, 1) := by decide +kernel
abbrev M_12 : MethodName := ⟨"com/example/vestry/vestry/NumeralEqualsPinLaw", "sameText", "(II)Z"⟩
theorem pd_12 : parseMethodDescriptor "(II)Z" = some ⟨[.int, .int], some .boolean⟩ := by decide +kernel
theorem d7_0 : decode prog_67_method_3_code 0 = .ok (.aload_n 1, 1) := by decide +kernel
theorem d7_1 : decode prog_67_method_3_code 1 = .ok (.instanceof 8, 3) := by decide +kernel
theorem d7_4 : decode prog_67_method_3_code 4 = .ok (.ifCond .eq 24, 3) := by decide +kernel
theorem d7_7 : decode prog_67_method_3_code 7 = .ok (.aload_n 1, 1) := by decide +kernel
theorem d7_8 : decode prog_67_method_3_code 8 = .ok (.checkcast 8, 3) := by decide +kernel
theorem d7_11 : decode prog_67_method_3_code 11 = .ok (.getfield 7, 3) := by decide +kernel
theorem d7_14 : decode prog_67_method_3_code 14 = .ok (.aload_n 0, 1) := by decide +kernel
theorem d7_15 : decode prog_67_method_3_code 15 = .ok (.getfield 7, 3) := by decide +kernel
theorem d7_18 : decode prog_67_method_3_code 18 = .ok (.invokevirtual 13, 3) := by decide +kernel
theorem d8_0 : decode jdk_42_method_66_code 0 = .ok (.aload_n 0, 1) := by decide +kernel
theorem d8_1 : decode jdk_42_method_66_code 1 = .ok (.aload_n 1, 1) := by decide +kernel
theorem d8_2 : decode jdk_42_method_66_code 2 = .ok (.if_acmp .ne 5, 3) := by decide +kernel
theorem d8_7 : decode jdk_42_method_66_code 7 = .ok (.aload_n 1, 1) := by decide +kernel
theorem d8_8 : decode jdk_42_method_66_code 8 = .ok (.instanceof 10, 3) := by decide +kernel
theorem d8_11 : decode jdk_42_method_66_code 11 = .ok (.ifCond .eq 43, 3) := by decide +kernel
theorem d8_14 : decode jdk_42_method_66_code 14 = .ok (.aload_n 1, 1) := by decide +kernel
theorem d8_15 : decode jdk_42_method_66_code 15 = .ok (.checkcast 10, 3) := by decide +kernel
theorem d8_18 : decode jdk_42_method_66_code 18 = .ok (.astore_n 2, 1) := by decide +kernel
theorem d8_19 : decode jdk_42_method_66_code 19 = .ok (.getstatic 38, 3) := by decide +kernel
theorem d8_22 : decode jdk_42_method_66_code 22 = .ok (.ifCond .eq 14, 3) := by decide +kernel
theorem d8_25 : decode jdk_42_method_66_code 25 = .ok (.aload_n 0, 1) := by decide +kernel
theorem d8_26 : decode jdk_42_method_66_code 26 = .ok (.getfield 15, 3) := by decide +kernel
theorem d8_29 : decode jdk_42_method_66_code 29 = .ok (.aload_n 2, 1) := by decide +kernel
theorem d8_30 : decode jdk_42_method_66_code 30 = .ok (.getfield 15, 3) := by decide +kernel
theorem d8_33 : decode jdk_42_method_66_code 33 = .ok (.if_icmp .ne 21, 3) := by decide +kernel
theorem d8_36 : decode jdk_42_method_66_code 36 = .ok (.aload_n 0, 1) := by decide +kernel
theorem d8_37 : decode jdk_42_method_66_code 37 = .ok (.getfield 9, 3) := by decide +kernel
theorem d8_40 : decode jdk_42_method_66_code 40 = .ok (.aload_n 2, 1) := by decide +kernel
theorem d8_41 : decode jdk_42_method_66_code 41 = .ok (.getfield 9, 3) := by decide +kernel
theorem d8_44 : decode jdk_42_method_66_code 44 = .ok (.invokestatic 541, 3) := by decide +kernel
theorem d17_0 : decode jdk_43_method_13_code 0 = .ok (.aload_n 0, 1) := by decide +kernel
theorem d17_1 : decode jdk_43_method_13_code 1 = .ok (.arraylength, 1) := by decide +kernel
theorem d17_2 : decode jdk_43_method_13_code 2 = .ok (.aload_n 1, 1) := by decide +kernel
theorem d17_3 : decode jdk_43_method_13_code 3 = .ok (.arraylength, 1) := by decide +kernel
theorem d17_4 : decode jdk_43_method_13_code 4 = .ok (.if_icmp .ne 30, 3) := by decide +kernel
theorem d17_7 : decode jdk_43_method_13_code 7 = .ok (.iconst 0, 1) := by decide +kernel
theorem d17_8 : decode jdk_43_method_13_code 8 = .ok (.istore_n 2, 1) := by decide +kernel
theorem d17_9 : decode jdk_43_method_13_code 9 = .ok (.iload_n 2, 1) := by decide +kernel
theorem d17_10 : decode jdk_43_method_13_code 10 = .ok (.aload_n 0, 1) := by decide +kernel
theorem d17_11 : decode jdk_43_method_13_code 11 = .ok (.arraylength, 1) := by decide +kernel
theorem d17_12 : decode jdk_43_method_13_code 12 = .ok (.if_icmp .ge 20, 3) := by decide +kernel
theorem d17_32 : decode jdk_43_method_13_code 32 = .ok (.iconst 1, 1) := by decide +kernel
theorem d17_33 : decode jdk_43_method_13_code 33 = .ok (.ireturn, 1) := by decide +kernel
abbrev M_13 : MethodName := ⟨"java/lang/StringLatin1", "equals", "([B[B)Z"⟩
theorem pd_13 : parseMethodDescriptor "([B[B)Z" = some ⟨[(.array .byte), (.array .byte)], some .boolean⟩ := by decide +kernel
theorem d8_47 : decode jdk_42_method_66_code 47 = .ok (.ifCond .eq 7, 3) := by decide +kernel
theorem d8_50 : decode jdk_42_method_66_code 50 = .ok (.iconst 1, 1) := by decide +kernel
theorem d8_51 : decode jdk_42_method_66_code 51 = .ok (.goto 4, 3) := by decide +kernel
theorem d8_55 : decode jdk_42_method_66_code 55 = .ok (.ireturn, 1) := by decide +kernel
abbrev M_14 : MethodName := ⟨"java/lang/String", "equals", "(Ljava/lang/Object;)Z"⟩
theorem pd_14 : parseMethodDescriptor "(Ljava/lang/Object;)Z" = some ⟨[(.object "java/lang/Object")], some .boolean⟩ := by decide +kernel
theorem d7_21 : decode prog_67_method_3_code 21 = .ok (.ifCond .eq 7, 3) := by decide +kernel
theorem d7_24 : decode prog_67_method_3_code 24 = .ok (.iconst 1, 1) := by decide +kernel
theorem d7_25 : decode prog_67_method_3_code 25 = .ok (.goto 4, 3) := by decide +kernel
theorem d7_29 : decode prog_67_method_3_code 29 = .ok (.ireturn, 1) := by decide +kernel
abbrev M_15 : MethodName := ⟨"com/example/vestry/vestry/JsonText$Numeral", "equals", "(Ljava/lang/Object;)Z"⟩
theorem d7_28 : decode prog_67_method_3_code 28 = .ok (.iconst 0, 1) := by decide +kernel
theorem d8_5 : decode jdk_42_method_66_code 5 = .ok (.iconst 1, 1) := by decide +kernel
theorem d8_6 : decode jdk_42_method_66_code 6 = .ok (.ireturn, 1) := by decide +kernel
theorem d17_34 : decode jdk_43_method_13_code 34 = .ok (.iconst 0, 1) := by decide +kernel
theorem d17_35 : decode jdk_43_method_13_code 35 = .ok (.ireturn, 1) := by decide +kernel
theorem d8_54 : decode jdk_42_method_66_code 54 = .ok (.iconst 0, 1) := by decide +kernel
theorem d17_15 : decode jdk_43_method_13_code 15 = .ok (.aload_n 0, 1) := by decide +kernel
theorem d17_16 : decode jdk_43_method_13_code 16 = .ok (.iload_n 2, 1) := by decide +kernel
theorem d17_17 : decode jdk_43_method_13_code 17 = .ok (.baload, 1) := by decide +kernel
theorem d17_18 : decode jdk_43_method_13_code 18 = .ok (.aload_n 1, 1) := by decide +kernel
theorem d17_19 : decode jdk_43_method_13_code 19 = .ok (.iload_n 2, 1) := by decide +kernel
theorem d17_20 : decode jdk_43_method_13_code 20 = .ok (.baload, 1) := by decide +kernel
theorem d17_21 : decode jdk_43_method_13_code 21 = .ok (.if_icmp .eq 5, 3) := by decide +kernel
theorem d17_26 : decode jdk_43_method_13_code 26 = .ok (.iinc 2 1, 3) := by decide +kernel
theorem d17_29 : decode jdk_43_method_13_code 29 = .ok (.goto (-20), 3) := by decide +kernel
theorem d17_24 : decode jdk_43_method_13_code 24 = .ok (.iconst 0, 1) := by decide +kernel
theorem d17_25 : decode jdk_43_method_13_code 25 = .ok (.ireturn, 1) := by decide +kernel
theorem ef_rm2_3 (m : MethodId) (x0 : Int32) : entryFrame m #[(.int x0)] 1 = mkF m 0 #[.val (.int x0)] [] := by first | (simp [entryFrame, mkF, argsToLocals, Value.category]; done) | rfl
def Q2_3 (Z : State) (p1 : Int32) (h0 : Heap) (n0 : Nat) (v : Option Value) (h : Heap) (L : List Loc) : Prop := (∃ (i2 : Int32) (i3 : Int32), (0 : Int32) = (i3 % (3 : Int32)) ∧ i3 = (i2 &&& (32767 : Int32)) ∧ i2 = ((p1.toUInt32 >>> ((16 : Int32) &&& 31).toUInt32).toInt32) ∧ v = some (.int (0 : Int32)) ∧ Fr n0 L ∧ h = h0) ∨ (∃ (i2 : Int32) (i3 : Int32), (1 : Int32) = (i3 % (3 : Int32)) ∧ i3 = (i2 &&& (32767 : Int32)) ∧ i2 = ((p1.toUInt32 >>> ((16 : Int32) &&& 31).toUInt32).toInt32) ∧ v = some (.int (1 : Int32)) ∧ Fr n0 L ∧ h = h0) ∨ (∃ (i2 : Int32) (i3 : Int32), (2 : Int32) = (i3 % (3 : Int32)) ∧ i3 = (i2 &&& (32767 : Int32)) ∧ i2 = ((p1.toUInt32 >>> ((16 : Int32) &&& 31).toUInt32).toInt32) ∧ v = some (.int (2 : Int32)) ∧ Fr n0 L ∧ h = h0)
set_option maxRecDepth 65536 in
set_option maxHeartbeats 40000000 in
theorem rm2_3 (l : Launch) (Z : State) (a0 : Array Value) (hw : ∀ d ∈ own_ws, d.before a0 Z = true) (ws : List Jvm.Cond) (p1 : Int32) (h0 : Heap) (n0 : Nat) (O0 : Old Z n0 h0) :
    MetFree l M_0 (head1 (Jvm.Cond.code M_0 method_2_code 1 (some .int) :: ws) ({ frames := 0, cells := 0, slots := 0, locals := 0 } : Room)) (fun a U => a = #[(.int p1)] ∧ Z.Warmed39 U.vm ∧ U.heap = h0) (fun _ _ _ _ _ => True) (fun _ U o U' => ∃ v L, o = .returned v ∧ Q2_3 Z p1 h0 n0 v U'.heap L ∧ FrameEnd U o U' L ({ frames := 0, cells := 0, slots := 0, locals := 0 } : Room).cells ({ frames := 0, cells := 0, slots := 0, locals := 0 } : Room).slots) := by
  refine MetFree.of_bodySF (plainFor_of_name pn_0) hisR ?_
  intro p e s m args below meth c s₁ Bd hml0 hP hK
  obtain ⟨rfl, hZ, hh⟩ := hP
  have hx := Bd.exec
  have hby := Bd.bytes
  have hml : c.maxLocals = 1 := hml0
  have hown : s.vm.findClass "com/example/vestry/vestry/NumeralEqualsPinLaw" = some m.cls := findClass_of_methodNamed Bd.named
  have hnm := (name_of_methodNamed Bd.named Bd.method).1
  have X0 : Stand p l e ({ frames := 0, cells := 0, slots := 0, locals := 0 } : Room) s m #[(.int p1)] below meth c s₁ [] 0 0 := Stand.of_body Bd
  have e0 : s₁.heap = h0 := by rw [← hh, Bd.state]; rfl
  have N0 := Fr.nil n0
  have pre0 : ∀ t, Steps p.tables e below (s₁.setTop (mkF m 0 #[.val (.int p1)] [])) t → Steps p.tables e below (s₁.setTop (entryFrame m #[(.int p1)] 1)) t := fun t k => castTop (ef_rm2_3 m p1) k
  obtain ⟨i2, hi2⟩ : ∃ z, z = ((p1.toUInt32 >>> ((16 : Int32) &&& 31).toUInt32).toInt32) := ⟨_, rfl⟩
  obtain ⟨i3, hi3⟩ : ∃ z, z = (i2 &&& (32767 : Int32)) := ⟨_, rfl⟩
  have pre5 : ∀ t, Steps p.tables e below (s₁.setTop (mkF m 9 #[.val (.int p1)] [(.int (3 : Int32)), (.int i3)])) t → Steps p.tables e below (s₁.setTop (entryFrame m #[(.int p1)] 1)) t := by
    intro t kt
    refine pre0 t ?_
    show Steps p.tables e below (s₁.setTop (mkF m 0 #[.val (.int p1)] [])) _
    refine XS.iloadN X0.here hx rfl (hb hby d2_0) rfl ?_
    refine XS.bipush X0.here hx rfl (hb hby d2_1) ?_
    refine XS.iushr X0.here hx rfl (hb hby d2_3) rfl ?_
    show Steps p.tables e below (s₁.setTop (mkF m 4 #[.val (.int p1)] [(.int ((p1.toUInt32 >>> ((16 : Int32) &&& 31).toUInt32).toInt32))])) _
    rw [← hi2]
    refine XS.sipush X0.here hx rfl (hb hby d2_4) ?_
    refine XS.iand X0.here hx rfl (hb hby d2_7) rfl ?_
    show Steps p.tables e below (s₁.setTop (mkF m 8 #[.val (.int p1)] [(.int (i2 &&& (32767 : Int32)))])) _
    rw [← hi3]
    refine XS.iconst X0.here hx rfl (hb hby d2_8) ?_
    show Steps p.tables e below (s₁.setTop (mkF m 9 #[.val (.int p1)] [(.int (3 : Int32)), (.int i3)])) _
    exact kt
  rcases (own_l3 hi3) with hq4 | hq4 | hq4
  · skip
    obtain ⟨fs, hr, hrun, hended, hW, hsame⟩ := X0.leave (v := some (.int (0 : Int32))) (fun h => by rw [Bd.returns] at h; cases h)
    refine ⟨_, _, pre5 _ ?_, hrun, hended, _, _, rfl, ?_, ⟨_, rfl⟩, hW, hsame.mono (by decide) (by decide)⟩
    · show Steps p.tables e below (s₁.setTop (mkF m 9 #[.val (.int p1)] [(.int (3 : Int32)), (.int i3)])) _
      refine Jvm.RoadKit.iremM (g := (mkF m 9 #[.val (.int p1)] [(.int (3 : Int32)), (.int i3)])) X0 hx rfl (hb hby d2_9) rfl (by decide +kernel : ¬ ((3 : Int32) = (0 : Int32))) ?_
      show Steps p.tables e below (s₁.setTop (mkF m 10 #[.val (.int p1)] [(.int (i3 % (3 : Int32)))])) _
      rw [hq4]
      show Steps p.tables e below (s₁.setTop (mkF m 10 #[.val (.int p1)] [(.int (0 : Int32))])) _
      exact retI X0 hx Bd.returns (hb hby d2_10) hr
    · show Q2_3 Z _ h0 n0 _ s₁.heap _
      rw [e0]
      exact Or.inl (⟨i2, i3, hq4.symm, hi3, hi2, rfl, N0, rfl⟩)
  · skip
    obtain ⟨fs, hr, hrun, hended, hW, hsame⟩ := X0.leave (v := some (.int (1 : Int32))) (fun h => by rw [Bd.returns] at h; cases h)
    refine ⟨_, _, pre5 _ ?_, hrun, hended, _, _, rfl, ?_, ⟨_, rfl⟩, hW, hsame.mono (by decide) (by decide)⟩
    · show Steps p.tables e below (s₁.setTop (mkF m 9 #[.val (.int p1)] [(.int (3 : Int32)), (.int i3)])) _
      refine Jvm.RoadKit.iremM (g := (mkF m 9 #[.val (.int p1)] [(.int (3 : Int32)), (.int i3)])) X0 hx rfl (hb hby d2_9) rfl (by decide +kernel : ¬ ((3 : Int32) = (0 : Int32))) ?_
      show Steps p.tables e below (s₁.setTop (mkF m 10 #[.val (.int p1)] [(.int (i3 % (3 : Int32)))])) _
      rw [hq4]
      show Steps p.tables e below (s₁.setTop (mkF m 10 #[.val (.int p1)] [(.int (1 : Int32))])) _
      exact retI X0 hx Bd.returns (hb hby d2_10) hr
    · show Q2_3 Z _ h0 n0 _ s₁.heap _
      rw [e0]
      exact Or.inr (Or.inl (⟨i2, i3, hq4.symm, hi3, hi2, rfl, N0, rfl⟩))
  · skip
    obtain ⟨fs, hr, hrun, hended, hW, hsame⟩ := X0.leave (v := some (.int (2 : Int32))) (fun h => by rw [Bd.returns] at h; cases h)
    refine ⟨_, _, pre5 _ ?_, hrun, hended, _, _, rfl, ?_, ⟨_, rfl⟩, hW, hsame.mono (by decide) (by decide)⟩
    · show Steps p.tables e below (s₁.setTop (mkF m 9 #[.val (.int p1)] [(.int (3 : Int32)), (.int i3)])) _
      refine Jvm.RoadKit.iremM (g := (mkF m 9 #[.val (.int p1)] [(.int (3 : Int32)), (.int i3)])) X0 hx rfl (hb hby d2_9) rfl (by decide +kernel : ¬ ((3 : Int32) = (0 : Int32))) ?_
      show Steps p.tables e below (s₁.setTop (mkF m 10 #[.val (.int p1)] [(.int (i3 % (3 : Int32)))])) _
      rw [hq4]
      show Steps p.tables e below (s₁.setTop (mkF m 10 #[.val (.int p1)] [(.int (2 : Int32))])) _
      exact retI X0 hx Bd.returns (hb hby d2_10) hr
    · show Q2_3 Z _ h0 n0 _ s₁.heap _
      rw [e0]
      exact Or.inr (Or.inr (⟨i2, i3, hq4.symm, hi3, hi2, rfl, N0, rfl⟩))
theorem ef_rm4_5 (m : MethodId) (x0 : Addr) (x1 : Addr) : entryFrame m #[(.ref x0), (.ref x1), (.int (0 : Int32)), (.int (0 : Int32)), .null] 6 = mkF m 0 #[.val (.ref x0), .val (.ref x1), .val (.int (0 : Int32)), .val (.int (0 : Int32)), .val .null, .unset] [] := by first | (simp [entryFrame, mkF, argsToLocals, Value.category]; done) | rfl
def Q4_5 (Z : State) (a1 : Addr) (a2 : Addr) (h0 : Heap) (n0 : Nat) (v : Option Value) (h : Heap) (L : List Loc) : Prop := (∃ (bv4 : Addr) (k4 : ClassId), v = none ∧ Fr n0 L ∧ bv4 < h.size ∧ Keep h0 h [a1] ∧ Exa Z h a1 C_0 ∧ Fld Z h a1 C_0 "coder" "B" (.int (0 : Int32)) ∧ Fld Z h a1 C_0 "value" "[B" (.ref bv4) ∧ Arv Z h bv4 k4 .byte (0 : Int32) [] (.int 0))
set_option maxRecDepth 65536 in
set_option maxHeartbeats 40000000 in
theorem rm4_5 (l : Launch) (Z : State) (a0 : Array Value) (hw : ∀ d ∈ own_ws, d.before a0 Z = true) (ws : List Jvm.Cond) (a1 : Addr) (a2 : Addr) (h0 : Heap) (n0 : Nat) (O0 : Old Z n0 h0) (E_6 : Exa Z h0 a1 C_0) (F7 : Fld Z h0 a1 C_0 "coder" "B" (.int (0 : Int32))) (F8 : Fld Z h0 a1 C_0 "value" "[B" .null) (g_a1 : n0 ≤ a1) (lt_a1 : a1 < h0.size) :
    MetFree l M_1 (head1 (Jvm.Cond.code M_1 jdk_42_method_149_code 6 none :: ws) ({ frames := 1, cells := 4, slots := 8, locals := 12 } : Room)) (fun a U => a = #[(.ref a1), (.ref a2), (.int (0 : Int32)), (.int (0 : Int32)), .null] ∧ Z.Warmed39 U.vm ∧ U.heap = h0 ∧ CHv Z own_EL U.vm h0) (fun _ _ _ _ _ => True) (fun _ U o U' => ∃ v L, o = .returned v ∧ Q4_5 Z a1 a2 h0 n0 v U'.heap L ∧ CHr Z own_EL U.vm U.heap U'.vm U'.heap ∧ ReturnedEndW U o U' L ({ frames := 1, cells := 4, slots := 8, locals := 12 } : Room).cells ({ frames := 1, cells := 4, slots := 8, locals := 12 } : Room).slots) := by
  refine MetFree.of_bodySF (plainFor_of_name pn_1) hisR ?_
  intro p e s m args below meth c s₁ Bd hml0 hP hK
  obtain ⟨rfl, hZ, hh, hCH⟩ := hP
  have hx := Bd.exec
  have hby := Bd.bytes
  have hml : c.maxLocals = 6 := hml0
  have hown : s.vm.findClass "java/lang/String" = some m.cls := findClass_of_methodNamed Bd.named
  have hnm := (name_of_methodNamed Bd.named Bd.method).1
  have X0 : Stand p l e ({ frames := 1, cells := 4, slots := 8, locals := 12 } : Room) s m #[(.ref a1), (.ref a2), (.int (0 : Int32)), (.int (0 : Int32)), .null] below meth c s₁ [] 0 0 := Stand.of_body Bd
  have e0 : s₁.heap = h0 := by rw [← hh, Bd.state]; rfl
  have N0 := Fr.nil n0
  have Y0 : h0.size ≤ h0.size := Nat.le_refl _
  have hS0 : s.Since s.vm h0.size := (State.WarmedH.refl s).since _
  have CR0 : CHr Z own_EL s.vm h0 s.vm h0 := CHr.refl hCH
  have pre0 : ∀ t, Steps p.tables e below (s₁.setTop (mkF m 0 #[.val (.ref a1), .val (.ref a2), .val (.int (0 : Int32)), .val (.int (0 : Int32)), .val .null, .unset] [])) t → Steps p.tables e below (s₁.setTop (entryFrame m #[(.ref a1), (.ref a2), (.int (0 : Int32)), (.int (0 : Int32)), .null] 6)) t := fun t k => castTop (ef_rm4_5 m a1 a2) k
  obtain ⟨T3, X3, e3, st3⟩ := initO X0 hx hZ hown (hw _ (gw 18 rfl)) (hw _ (gw 19 rfl)) (hw _ (gw 20 rfl)) e0 (g := (mkF m 1 #[.val (.ref a1), .val (.ref a2), .val (.int (0 : Int32)), .val (.int (0 : Int32)), .val .null, .unset] [(.ref a1)])) rfl (by rw [hml]; rfl) rfl (hb hby d4_1) (by decide) (W := 0) (by show 2 * 0 + _ ≤ _; exact Nat.le_of_eq rfl) (by decide)
  obtain ⟨b4, T4, h4, kk4, bv4, k4, X4, e4, E4, hS4, hk4, hZ4, hown4, A4, Fc4, Fv4, V4, lta4, ltb4, cg4, Lt4, ns4, st4⟩ := ldcCH (s := s) (vm0 := s.vm) (EL := own_EL) X3 hx hZ hown (hw _ (gw 21 rfl)) (own_wS hw) e3 hS0 Y0 (own_EW hw) (by decide) CR0.1 (vs := []) (z := (0 : Int32)) (by decide +kernel) (by decide +kernel) (by decide +kernel) (g := (mkF m 9 #[.val (.ref a1), .val (.ref a2), .val (.int (0 : Int32)), .val (.int (0 : Int32)), .val .null, .unset] [(.ref a1)])) rfl (hb hby d4_9) (n := 0) (by decide +kernel) (by decide) (by decide) (by decide)
  have O4 : Old Z n0 h4 := O0.ext E4
  have ch4 := cg4
  have CR4 := CR0.trans ch4
  obtain ⟨T5, X5, e5, st5⟩ := getF X4 hx hZ4 hown4 (host := "") (Or.inl (hw _ (gw 27 rfl))) Via.refl e4 Fv4 (g := (mkF m 11 #[.val (.ref a1), .val (.ref a2), .val (.int (0 : Int32)), .val (.int (0 : Int32)), .val .null, .unset] [(.ref b4), (.ref a1)])) rfl rfl (hb hby d4_11)
  have f10 : Exa Z h4 a1 C_0 := (Exa.ext E4 E_6)
  have f11 : Fld Z h4 a1 C_0 "value" "[B" .null := (Fld.ext E4 F8)
  have sf9 : Safe Z own_EL T4.vm h4 a1 := own_safeNull hZ4.alike f10 f11
  obtain ⟨T12, h12, X12, e12, W12, st12⟩ := putF X5 hx hZ4 hown4 (host := "") (Or.inl (hw _ (gw 27 rfl))) Via.refl e5 f11 f10 (Or.inr ⟨(hw _ (gw 23 rfl)), rfl, hnm⟩) (hw _ (gw 8 rfl)) (ty := (.array .byte)) (by decide) rfl rfl (g := (mkF m 14 #[.val (.ref a1), .val (.ref a2), .val (.int (0 : Int32)), .val (.int (0 : Int32)), .val .null, .unset] [(.ref bv4), (.ref a1)])) rfl rfl (hb hby d4_14)
  have O12 : Old Z n0 h12 := O4.wr W12 g_a1
  have ch12 := CHr.wr W12 sf9 CR4.1
  have CR12 := CR4.trans ch12
  have Fw12 : Fld Z h12 a1 C_0 "value" "[B" (.ref bv4) := Fld.same W12 f11
  have N12 := Fr.snoc X12 N0 g_a1
  obtain ⟨b13, T13, h13, kk13, bv13, k13, X13, e13, E13, hS13, hk13, hZ13, hown13, A13, Fc13, Fv13, V13, lta13, ltb13, cg13, Lt13, ns13, st13⟩ := ldcCH (s := s) (vm0 := T4.vm) (EL := own_EL) X12 hx hZ4 hown4 (hw _ (gw 21 rfl)) (own_wS hw) e12 hS4 (Nat.le_trans hk4 (Keep.of_wr W12).1) (own_EW hw) (by decide) CR12.1 (vs := []) (z := (0 : Int32)) (by decide +kernel) (by decide +kernel) (by decide +kernel) (g := (mkF m 18 #[.val (.ref a1), .val (.ref a2), .val (.int (0 : Int32)), .val (.int (0 : Int32)), .val .null, .unset] [(.ref a1)])) rfl (hb hby d4_18) (n := 0) (by decide +kernel) (by decide) (by decide) (by decide)
  have O13 : Old Z n0 h13 := O12.ext E13
  have ch13 := cg13
  have CR13 := CR12.trans ch13
  obtain ⟨T14, X14, e14, st14⟩ := getF X13 hx hZ13 hown13 (host := "") (Or.inl (hw _ (gw 28 rfl))) Via.refl e13 Fc13 (g := (mkF m 20 #[.val (.ref a1), .val (.ref a2), .val (.int (0 : Int32)), .val (.int (0 : Int32)), .val .null, .unset] [(.ref b13), (.ref a1)])) rfl rfl (hb hby d4_20)
  have sf15 : Safe Z own_EL T13.vm h13 a1 := (ch13.safe (Nat.lt_of_lt_of_le (Nat.lt_of_lt_of_le lt_a1 E4.1) (Keep.of_wr W12).1) (ch12.safe (Nat.lt_of_lt_of_le lt_a1 E4.1) sf9))
  have f16 : Fld Z h13 a1 C_0 "coder" "B" (.int (0 : Int32)) := (Fld.ext E13 (Fld.other W12 (Fld.ext E4 F7) (Or.inr (slot_ne (Or.inr (hw _ (gw 24 rfl))) (Or.inr (hw _ (gw 23 rfl))) (by decide) (t := .byte) (t' := (.array .byte)) (by decide) (by decide)))))
  have f17 : Exa Z h13 a1 C_0 := (Exa.ext E13 (Exa.wr W12 f10))
  obtain ⟨T18, h18, X18, e18, W18, st18⟩ := putFN X14 hx hZ13 hown13 (hw _ (gw 28 rfl)) Via.refl e14 f16 f17 (Or.inr ⟨(hw _ (gw 24 rfl)), rfl, hnm⟩) (hw _ (gw 8 rfl)) (ty := .byte) (v' := (.int (0 : Int32))) (by decide) (by exact congrArg Value.int (by decide +kernel : (nar .byte (0 : Int32)) = (0 : Int32))) ((by decide +kernel : (nar .byte (0 : Int32)) = (0 : Int32)) ▸ fits_nar_byte _) (g := (mkF m 23 #[.val (.ref a1), .val (.ref a2), .val (.int (0 : Int32)), .val (.int (0 : Int32)), .val .null, .unset] [(.int (0 : Int32)), (.ref a1)])) rfl rfl (hb hby d4_23)
  have O18 : Old Z n0 h18 := O13.wr W18 g_a1
  have ch18 := CHr.wr W18 sf15 CR13.1
  have CR18 := CR13.trans ch18
  have Fw18 : Fld Z h18 a1 C_0 "coder" "B" (.int (0 : Int32)) := Fld.same W18 f16
  have N18 := Fr.snoc X18 N12 g_a1
  obtain ⟨fs, hr, hrun, hended, hEnd⟩ := X18.leaveW (s := s) (vm₁ := T13.vm) hS13 (by rw [e18]; exact (Nat.le_trans hk13 (Keep.of_wr W18).1)) (v := none) (fun _ => rfl)
  have f19 : Exa Z h18 a1 C_0 := (Exa.wr W18 f17)
  have f20 : Fld Z h18 a1 C_0 "value" "[B" (.ref bv4) := (Fld.other W18 (Fld.ext E13 Fw12) (Or.inr (slot_ne (Or.inr (hw _ (gw 23 rfl))) (Or.inr (hw _ (gw 24 rfl))) (by decide) (t := (.array .byte)) (t' := .byte) (by decide) (by decide))))
  have f21 : Arv Z h18 bv4 k4 .byte (0 : Int32) [] (.int 0) := (((V4.other W12 (Ne.symm (ns4 a1 sf9).2)).ext E13).other W18 (Ne.symm (ns4 a1 sf9).2))
  have cfin : CHr Z own_EL s.vm s.heap (T18.setFrames fs).vm (T18.setFrames fs).heap := by
    show CHr Z own_EL s.vm s.heap T18.vm T18.heap
    rw [hh, e18]; exact CR18.trans (CHv.at (s := s) (vm0 := T13.vm) X18 hZ13 (own_EW hw) CR18.1)
  refine ⟨_, _, pre0 _ ?_, hrun, hended, _, _, rfl, ?_, cfin, hEnd.1, hEnd.2.1, hEnd.2.2.1, hEnd.2.2.2.mono (by decide) (by decide)⟩
  · show Steps p.tables e below (s₁.setTop (mkF m 0 #[.val (.ref a1), .val (.ref a2), .val (.int (0 : Int32)), .val (.int (0 : Int32)), .val .null, .unset] [])) _
    refine XS.aloadN X0.here hx rfl (hb hby d4_0) rfl rfl ?_
    refine st3 _ ?_
    refine XS.iloadN X3.here hx rfl (hb hby d4_4) rfl ?_
    refine XS.ifNo X3.here hx rfl (hb hby d4_5) rfl ((if0 _ _).trans (teq (by decide +kernel : (0 : Int32) = (0 : Int32))).2) ?_
    refine XS.aloadN X3.here hx rfl (hb hby d4_8) rfl rfl ?_
    refine st4 _ ?_
    refine st5 _ ?_
    refine st12 _ ?_
    refine XS.aloadN X12.here hx rfl (hb hby d4_17) rfl rfl ?_
    show Steps p.tables e below (T12.setTop (mkF m 18 #[.val (.ref a1), .val (.ref a2), .val (.int (0 : Int32)), .val (.int (0 : Int32)), .val .null, .unset] [(.ref a1)])) _
    refine st13 _ ?_
    refine st14 _ ?_
    refine st18 _ ?_
    show Steps p.tables e below (T18.setTop (mkF m 26 #[.val (.ref a1), .val (.ref a2), .val (.int (0 : Int32)), .val (.int (0 : Int32)), .val .null, .unset] [])) _
    exact X18.returnOut hx Bd.returns (hb hby d4_26) hr
  · show Q4_5 Z _ _ h0 n0 _ T18.heap _
    rw [e18]
    exact ⟨bv4, k4, rfl, N18, (Nat.lt_of_lt_of_le (Nat.lt_of_lt_of_le (Nat.lt_of_lt_of_le ltb4 (Keep.of_wr W12).1) E13.1) (Keep.of_wr W18).1), (((((Keep.refl h0 [a1]).ext E4).wr W12 (Or.inl (List.mem_of_getElem? (i := 0) rfl))).ext E13).wr W18 (Or.inl (List.mem_of_getElem? (i := 0) rfl))), f19, Fw18, f20, f21⟩
theorem ef_rm3_4 (m : MethodId) (x0 : Addr) (x1 : Addr) : entryFrame m #[(.ref x0), (.ref x1)] 2 = mkF m 0 #[.val (.ref x0), .val (.ref x1)] [] := by first | (simp [entryFrame, mkF, argsToLocals, Value.category]; done) | rfl
def Q3_4 (Z : State) (a1 : Addr) (a2 : Addr) (k3 : ClassId) (h0 : Heap) (n0 : Nat) (v : Option Value) (h : Heap) (L : List Loc) : Prop := (∃ (b10 : Addr) (k11 : ClassId), v = none ∧ Fr n0 L ∧ b10 < h.size ∧ Keep h0 h [a1] ∧ Exa Z h a1 C_0 ∧ Fld Z h a1 C_0 "coder" "B" (.int (0 : Int32)) ∧ Fld Z h a1 C_0 "value" "[B" (.ref b10) ∧ Arv Z h b10 k11 .byte (0 : Int32) [] (.int 0))
set_option maxRecDepth 65536 in
set_option maxHeartbeats 40000000 in
theorem rm3_4 (l : Launch) (Z : State) (a0 : Array Value) (hw : ∀ d ∈ own_ws, d.before a0 Z = true) (ws : List Jvm.Cond) (a1 : Addr) (a2 : Addr) (k3 : ClassId) (h0 : Heap) (n0 : Nat) (O0 : Old Z n0 h0) (V4 : Arv Z h0 a2 k3 .char (0 : Int32) [] (.int (0 : Int32))) (E_6 : Exa Z h0 a1 C_0) (F7 : Fld Z h0 a1 C_0 "coder" "B" (.int (0 : Int32))) (F8 : Fld Z h0 a1 C_0 "value" "[B" .null) (g_a1 : n0 ≤ a1) (lt_a1 : a1 < h0.size) :
    MetFree l M_2 (head1 (Jvm.Cond.code M_2 jdk_42_method_3_code 2 none :: ws) ({ frames := 2, cells := 4, slots := 8, locals := 29 } : Room)) (fun a U => a = #[(.ref a1), (.ref a2)] ∧ Z.Warmed39 U.vm ∧ U.heap = h0 ∧ CHv Z own_EL U.vm h0) (fun _ _ _ _ _ => True) (fun _ U o U' => ∃ v L, o = .returned v ∧ Q3_4 Z a1 a2 k3 h0 n0 v U'.heap L ∧ CHr Z own_EL U.vm U.heap U'.vm U'.heap ∧ ReturnedEndW U o U' L ({ frames := 2, cells := 4, slots := 8, locals := 29 } : Room).cells ({ frames := 2, cells := 4, slots := 8, locals := 29 } : Room).slots) := by
  refine MetFree.of_bodySF (plainFor_of_name pn_1) hisR ?_
  intro p e s m args below meth c s₁ Bd hml0 hP hK
  obtain ⟨rfl, hZ, hh, hCH⟩ := hP
  have hx := Bd.exec
  have hby := Bd.bytes
  have hml : c.maxLocals = 2 := hml0
  have hown : s.vm.findClass "java/lang/String" = some m.cls := findClass_of_methodNamed Bd.named
  have hnm := (name_of_methodNamed Bd.named Bd.method).1
  have X0 : Stand p l e ({ frames := 2, cells := 4, slots := 8, locals := 29 } : Room) s m #[(.ref a1), (.ref a2)] below meth c s₁ [] 0 0 := Stand.of_body Bd
  have e0 : s₁.heap = h0 := by rw [← hh, Bd.state]; rfl
  have N0 := Fr.nil n0
  have Y0 : h0.size ≤ h0.size := Nat.le_refl _
  have hS0 : s.Since s.vm h0.size := (State.WarmedH.refl s).since _
  have CR0 : CHr Z own_EL s.vm h0 s.vm h0 := CHr.refl hCH
  have pre0 : ∀ t, Steps p.tables e below (s₁.setTop (mkF m 0 #[.val (.ref a1), .val (.ref a2)] [])) t → Steps p.tables e below (s₁.setTop (entryFrame m #[(.ref a1), (.ref a2)] 2)) t := fun t k => castTop (ef_rm3_4 m a1 a2) k
  obtain ⟨cl5, Ar5, -, Sz5, Nn5, -, -⟩ := id V4
  obtain ⟨_, _, ⟨T9, L9, k9, n9⟩, -, X9, sn9, gr9, ⟨Lc9, hQ9, l9, y9, z9, cg9⟩, st9⟩ := X0.specialBackS hx (y := M_1) rfl hown (mvT hZ (hw _ (gw 14 rfl))) (mvT hZ (hw _ (gw 15 rfl))) (mvT hZ (hw _ (gw 17 rfl))) (by decide) (backOfSH (s := s) (vm0 := s.vm) (EL := own_EL) (W := 0) (rm4_5 l Z a0 hw [] a1 a2 h0 n0  O0 E_6 F7 F8 g_a1 lt_a1) hZ (hw _ (gw 17 rfl)) (hw _ (gw 9 rfl)) (by decide) (by decide) (own_EW hw) CR0.1) (g := (mkF m 6 #[.val (.ref a1), .val (.ref a2)] [.null, (.int (0 : Int32)), (.int (0 : Int32)), (.ref a2), (.ref a1)])) rfl (by rw [hml]; rfl) (Steps.refl _) (a := a1) (argsL := [(.ref a2), (.int (0 : Int32)), (.int (0 : Int32)), .null]) (rest := []) (lenOf pd_1 rfl) rfl (by show 2 * 0 + _ ≤ _; exact Nat.le_of_eq rfl) (hb hby d3_6) (fun _ _ => ⟨rfl, e0, (by decide : 0 + 4 ≤ _), (by decide : 0 + 8 ≤ _)⟩)
  dsimp only [Pt.U, Pt.locs, Pt.cells, Pt.slots] at X9 l9 y9 z9 st9 hQ9 sn9 gr9 cg9
  subst l9 y9 z9
  have gs9 : h0.size ≤ T9.heap.size := by have q := gr9; rw [e0] at q; exact q
  have hS9 : s.Since T9.vm T9.heap.size := hS0.trans sn9 (Nat.le_trans Y0 gs9)
  have hZ9 : Z.Warmed39 (s.setVm T9.vm).vm := State.Warmed39.trans (t := s) hZ sn9.1
  have hown9 : (s.setVm T9.vm).vm.findClass "java/lang/String" = some m.cls := by rw [show (s.setVm T9.vm).vm = T9.vm from rfl, sn9.1.alike.findClass]; exact hown
  obtain ⟨b10, k11, rfl, u13, u14, Ku15, u16, u17, u18, u19⟩ := hQ9
  have Ou15 : Old Z n0 T9.heap := O0.keep Ku15 (allS g_a1 all0)
  have chu15 := cg9
  have CRu15 := CR0.trans chu15
  have N9 := Fr.app N0 u13
  obtain ⟨fs, hr, hrun, hended, hEnd⟩ := X9.leaveW (s := s) (vm₁ := T9.vm) hS9 (Nat.le_refl _) (v := none) (fun _ => rfl)
  have cfin : CHr Z own_EL s.vm s.heap (T9.setFrames fs).vm (T9.setFrames fs).heap := by
    show CHr Z own_EL s.vm s.heap T9.vm T9.heap
    rw [hh]; exact CRu15.trans (CHv.at (s := s) (vm0 := T9.vm) X9 hZ9 (own_EW hw) CRu15.1)
  refine ⟨_, _, pre0 _ ?_, hrun, hended, _, _, rfl, ?_, cfin, hEnd.1, hEnd.2.1, hEnd.2.2.1, hEnd.2.2.2.mono (by decide) (by decide)⟩
  · show Steps p.tables e below (s₁.setTop (mkF m 0 #[.val (.ref a1), .val (.ref a2)] [])) _
    refine XS.aloadN X0.here hx rfl (hb hby d3_0) rfl rfl ?_
    refine XS.aloadN X0.here hx rfl (hb hby d3_1) rfl rfl ?_
    refine XS.iconst X0.here hx rfl (hb hby d3_2) ?_
    refine XS.aloadN X0.here hx rfl (hb hby d3_3) rfl rfl ?_
    refine X0.arraylength hx (by rw [e0]; exact Ar5.1) (State.isArrayOf_alike hZ.alike Ar5.2.1) (g := (mkF m 4 #[.val (.ref a1), .val (.ref a2)] [(.ref a2), (.int (0 : Int32)), (.ref a2), (.ref a1)])) rfl rfl (hb hby d3_4) _ ?_
    rw [len_of Sz5 Nn5]
    refine XS.aconstNull X0.here hx rfl (hb hby d3_5) ?_
    refine st9.trans ?_
    show Steps p.tables e below (T9.setTop (mkF m 9 #[.val (.ref a1), .val (.ref a2)] [])) _
    exact X9.returnOut hx Bd.returns (hb hby d3_9) hr
  · show Q3_4 Z _ _ _ h0 n0 _ T9.heap _
    exact ⟨b10, k11, rfl, N9, u14, ((Keep.refl h0 [a1]).trans Ku15 (allS (Or.inl (List.mem_of_getElem? (i := 0) rfl)) all0)), u16, u17, u18, u19⟩
theorem ef_rm10_7 (m : MethodId) (x0 : Int32) : entryFrame m #[(.int x0)] 1 = mkF m 0 #[.val (.int x0)] [] := by first | (simp [entryFrame, mkF, argsToLocals, Value.category]; done) | rfl
def Q10_7 (Z : State) (p1 : Int32) (h0 : Heap) (n0 : Nat) (v : Option Value) (h : Heap) (L : List Loc) : Prop := (v = some (.int (1 : Int32)) ∧ Fr n0 L ∧ h = h0)
set_option maxRecDepth 65536 in
set_option maxHeartbeats 40000000 in
theorem rm10_7 (l : Launch) (Z : State) (a0 : Array Value) (hw : ∀ d ∈ own_ws, d.before a0 Z = true) (ws : List Jvm.Cond) (p1 : Int32) (h0 : Heap) (n0 : Nat) (O0 : Old Z n0 h0) (hk2 : ¬ ((255 : Int32) < p1)) :
    MetFree l M_3 (head1 (Jvm.Cond.code M_3 jdk_43_method_3_code 1 (some .boolean) :: ws) ({ frames := 0, cells := 0, slots := 0, locals := 0 } : Room)) (fun a U => a = #[(.int p1)] ∧ Z.Warmed39 U.vm ∧ U.heap = h0) (fun _ _ _ _ _ => True) (fun _ U o U' => ∃ v L, o = .returned v ∧ Q10_7 Z p1 h0 n0 v U'.heap L ∧ FrameEnd U o U' L ({ frames := 0, cells := 0, slots := 0, locals := 0 } : Room).cells ({ frames := 0, cells := 0, slots := 0, locals := 0 } : Room).slots) := by
  refine MetFree.of_bodySF (plainFor_of_name pn_2) hisR ?_
  intro p e s m args below meth c s₁ Bd hml0 hP hK
  obtain ⟨rfl, hZ, hh⟩ := hP
  have hx := Bd.exec
  have hby := Bd.bytes
  have hml : c.maxLocals = 1 := hml0
  have hown : s.vm.findClass "java/lang/StringLatin1" = some m.cls := findClass_of_methodNamed Bd.named
  have hnm := (name_of_methodNamed Bd.named Bd.method).1
  have X0 : Stand p l e ({ frames := 0, cells := 0, slots := 0, locals := 0 } : Room) s m #[(.int p1)] below meth c s₁ [] 0 0 := Stand.of_body Bd
  have e0 : s₁.heap = h0 := by rw [← hh, Bd.state]; rfl
  have N0 := Fr.nil n0
  have pre0 : ∀ t, Steps p.tables e below (s₁.setTop (mkF m 0 #[.val (.int p1)] [])) t → Steps p.tables e below (s₁.setTop (entryFrame m #[(.int p1)] 1)) t := fun t k => castTop (ef_rm10_7 m p1) k
  obtain ⟨fs, hr, hrun, hended, hW, hsame⟩ := X0.leave (v := some (.int (1 : Int32))) (fun h => by rw [Bd.returns] at h; cases h)
  refine ⟨_, _, pre0 _ ?_, hrun, hended, _, _, rfl, ?_, ⟨_, rfl⟩, hW, hsame.mono (by decide) (by decide)⟩
  · show Steps p.tables e below (s₁.setTop (mkF m 0 #[.val (.int p1)] [])) _
    refine XS.iloadN X0.here hx rfl (hb hby d10_0) rfl ?_
    refine XS.sipush X0.here hx rfl (hb hby d10_1) ?_
    refine XS.icmpNo X0.here hx rfl (hb hby d10_4) rfl (flt hk2).2.2.1 ?_
    refine XS.iconst X0.here hx rfl (hb hby d10_7) ?_
    refine XS.goto X0.here hx rfl (pc0 := 8) (pc' := 12) rfl (hb hby d10_8) (by decide) (by decide) ?_
    show Steps p.tables e below (s₁.setTop (mkF m 12 #[.val (.int p1)] [(.int (1 : Int32))])) _
    exact retN X0 hx (t := .boolean) Bd.returns (by simp) (hb hby d10_12) hr
  · show Q10_7 Z _ h0 n0 _ s₁.heap _
    rw [e0]
    exact ⟨rfl, N0, rfl⟩
theorem ef_rm11_8 (m : MethodId) (x0 : Int32) : entryFrame m #[(.int x0)] 1 = mkF m 0 #[.val (.int x0)] [] := by first | (simp [entryFrame, mkF, argsToLocals, Value.category]; done) | rfl
def Q11_8 (Z : State) (p1 : Int32) (h0 : Heap) (n0 : Nat) (v : Option Value) (h : Heap) (L : List Loc) : Prop := (∃ (i3 : Int32) (b2 : Addr) (k2 : ClassId), i3 = (p1.toInt8.toInt32) ∧ v = some (.ref b2) ∧ Fr n0 L ∧ h0.size ≤ b2 ∧ b2 < h.size ∧ Keep h0 h [] ∧ Exa Z h b2 "[B" ∧ Arv Z h b2 k2 .byte (1 : Int32) [(.int i3)] (.int (0 : Int32)))
set_option maxRecDepth 65536 in
set_option maxHeartbeats 40000000 in
theorem rm11_8 (l : Launch) (Z : State) (a0 : Array Value) (hw : ∀ d ∈ own_ws, d.before a0 Z = true) (ws : List Jvm.Cond) (p1 : Int32) (h0 : Heap) (n0 : Nat) (O0 : Old Z n0 h0) :
    MetFree l M_4 (head1 (Jvm.Cond.code M_4 jdk_43_method_46_code 1 (some (.array .byte)) :: ws) ({ frames := 0, cells := 1, slots := 1, locals := 0 } : Room)) (fun a U => a = #[(.int p1)] ∧ Z.Warmed39 U.vm ∧ U.heap = h0) (fun _ _ _ _ _ => True) (fun _ U o U' => ∃ v L, o = .returned v ∧ Q11_8 Z p1 h0 n0 v U'.heap L ∧ FrameEnd U o U' L ({ frames := 0, cells := 1, slots := 1, locals := 0 } : Room).cells ({ frames := 0, cells := 1, slots := 1, locals := 0 } : Room).slots) := by
  refine MetFree.of_bodySF (plainFor_of_name pn_2) hisR ?_
  intro p e s m args below meth c s₁ Bd hml0 hP hK
  obtain ⟨rfl, hZ, hh⟩ := hP
  have hx := Bd.exec
  have hby := Bd.bytes
  have hml : c.maxLocals = 1 := hml0
  have hown : s.vm.findClass "java/lang/StringLatin1" = some m.cls := findClass_of_methodNamed Bd.named
  have hnm := (name_of_methodNamed Bd.named Bd.method).1
  have X0 : Stand p l e ({ frames := 0, cells := 1, slots := 1, locals := 0 } : Room) s m #[(.int p1)] below meth c s₁ [] 0 0 := Stand.of_body Bd
  have e0 : s₁.heap = h0 := by rw [← hh, Bd.state]; rfl
  have N0 := Fr.nil n0
  have pre0 : ∀ t, Steps p.tables e below (s₁.setTop (mkF m 0 #[.val (.int p1)] [])) t → Steps p.tables e below (s₁.setTop (entryFrame m #[(.int p1)] 1)) t := fun t k => castTop (ef_rm11_8 m p1) k
  obtain ⟨T2, h2, k2, X2, e2, E2, A2, Ex2, st2⟩ := newPE X0 hx hZ (hw _ (gw 22 rfl)) e0 (g := (mkF m 1 #[.val (.int p1)] [(.int (1 : Int32))])) rfl (hb hby d11_1) rfl (by decide +kernel) (cap := 1) (by decide +kernel) (by decide) (by decide) (by decide) (ad := "[B") (by decide +kernel)
  obtain ⟨b2, g2⟩ : ∃ z, z = h0.size := ⟨_, rfl⟩
  rw [← g2] at A2 Ex2 st2
  have O2 : Old Z n0 h2 := O0.ext E2
  have bd_b2 : h0.size ≤ b2 := Nat.le_of_eq g2.symm
  have g_b2 : n0 ≤ b2 := Nat.le_trans (own_z O0) bd_b2
  have sz_b2 : h0.size ≤ b2 := Nat.le_trans (Nat.le_refl _) bd_b2
  have lt_b2 : b2 < h2.size := A2.lt
  have V2 : Arv Z h2 b2 k2 .byte (1 : Int32) [] (.int (0 : Int32)) := Arv.new A2 (by decide +kernel)
  obtain ⟨i3, hi3⟩ : ∃ z, z = (p1.toInt8.toInt32) := ⟨_, rfl⟩
  have Vp4 : Arv Z h2 b2 k2 .byte (1 : Int32) [(.int (0 : Int32))] (.int (0 : Int32)) := V2.pad (pad_rep [] (.int (0 : Int32)) 1)
  obtain ⟨cl5, Ar5, qk5, Sz5, Nn5, Hh5, Gg5⟩ := id Vp4
  have hin5 : ¬ ((0 : Int32) < 0 ∨ cl5.slots.size ≤ ((0 : Int32)).toNatClampNeg) := inb_of Sz5 ⟨by decide +kernel, by decide +kernel⟩
  obtain ⟨T6, h6, X6, e6, W6, st6⟩ := stB X2 hx hZ e2 Ar5 (j := (0 : Int32)) hin5 (g := (mkF m 7 #[.val (.int p1)] [(.int i3), (.int (0 : Int32)), (.ref b2), (.ref b2)])) rfl rfl (hb hby d11_7)
  rw [show nar .byte i3 = i3 from (own_i2b2 hi3 : (i3.toInt8.toInt32) = i3)] at W6
  have O6 : Old Z n0 h6 := O2.wr W6 g_b2
  have V6 : Arv Z h6 b2 k2 .byte (1 : Int32) [(.int i3)] (.int (0 : Int32)) := Arv.set Ar5 qk5 Sz5 Nn5 Hh5 Gg5 ((own_i2b2 hi3 : (i3.toInt8.toInt32) = i3) ▸ fits_nar_byte _) W6 0 rfl (Nat.le_of_ble_eq_true rfl)
  have N6 := Fr.snoc X6 N0 g_b2
  obtain ⟨fs, hr, hrun, hended, hW, hsame⟩ := X6.leave (v := some (.ref b2)) (fun h => by rw [Bd.returns] at h; cases h)
  have f7 : Exa Z h6 b2 "[B" := (Exa.wr W6 Ex2)
  refine ⟨_, _, pre0 _ ?_, hrun, hended, _, _, rfl, ?_, ⟨_, rfl⟩, hW, hsame.mono (by decide) (by decide)⟩
  · show Steps p.tables e below (s₁.setTop (mkF m 0 #[.val (.int p1)] [])) _
    refine XS.iconst X0.here hx rfl (hb hby d11_0) ?_
    refine st2 _ ?_
    refine XS.dup X2.here hx rfl (hb hby d11_3) rfl rfl ?_
    refine XS.iconst X2.here hx rfl (hb hby d11_4) ?_
    refine XS.iloadN X2.here hx rfl (hb hby d11_5) rfl ?_
    refine XS.i2b X2.here hx rfl (hb hby d11_6) rfl ?_
    show Steps p.tables e below (T2.setTop (mkF m 7 #[.val (.int p1)] [(.int (p1.toInt8.toInt32)), (.int (0 : Int32)), (.ref b2), (.ref b2)])) _
    rw [← hi3]
    refine st6 _ ?_
    show Steps p.tables e below (T6.setTop (mkF m 8 #[.val (.int p1)] [(.ref b2)])) _
    jvm_step X6.here [X6.here.top, hx, (hb hby d11_8), X6.method', Bd.returns, Value.isRef, FieldType.isReference]
    first | (intro acts; rw [hr _ acts rfl rfl rfl]) | rw [hr _ _ rfl rfl rfl]
    exact Steps.refl _
  · show Q11_8 Z _ h0 n0 _ T6.heap _
    rw [e6]
    exact ⟨i3, b2, k2, hi3, rfl, N6, sz_b2, (Nat.lt_of_lt_of_le lt_b2 (Keep.of_wr W6).1), (((Keep.refl h0 []).ext E2).wr W6 (Or.inr sz_b2)), f7, V6⟩
theorem ef_rm12_9 (m : MethodId) (x0 : Addr) (x1 : Addr) : entryFrame m #[(.ref x0), (.ref x1), (.int (0 : Int32))] 3 = mkF m 0 #[.val (.ref x0), .val (.ref x1), .val (.int (0 : Int32))] [] := by first | (simp [entryFrame, mkF, argsToLocals, Value.category]; done) | rfl
def Q12_9 (Z : State) (a1 : Addr) (a2 : Addr) (h0 : Heap) (n0 : Nat) (v : Option Value) (h : Heap) (L : List Loc) : Prop := (v = none ∧ Fr n0 L ∧ Keep h0 h [a1] ∧ Exa Z h a1 C_0 ∧ Fld Z h a1 C_0 "coder" "B" (.int (0 : Int32)) ∧ Fld Z h a1 C_0 "value" "[B" (.ref a2))
set_option maxRecDepth 65536 in
set_option maxHeartbeats 40000000 in
theorem rm12_9 (l : Launch) (Z : State) (a0 : Array Value) (hw : ∀ d ∈ own_ws, d.before a0 Z = true) (ws : List Jvm.Cond) (a1 : Addr) (a2 : Addr) (h0 : Heap) (n0 : Nat) (O0 : Old Z n0 h0) (E_4 : Exa Z h0 a1 C_0) (F5 : Fld Z h0 a1 C_0 "coder" "B" (.int (0 : Int32))) (F6 : Fld Z h0 a1 C_0 "value" "[B" .null) (g_a1 : n0 ≤ a1) :
    MetFree l M_5 (head1 (Jvm.Cond.code M_5 jdk_42_method_151_code 3 none :: ws) ({ frames := 1, cells := 0, slots := 0, locals := 12 } : Room)) (fun a U => a = #[(.ref a1), (.ref a2), (.int (0 : Int32))] ∧ Z.Warmed39 U.vm ∧ U.heap = h0) (fun _ _ _ _ _ => True) (fun _ U o U' => ∃ v L, o = .returned v ∧ Q12_9 Z a1 a2 h0 n0 v U'.heap L ∧ FrameEnd U o U' L ({ frames := 1, cells := 0, slots := 0, locals := 12 } : Room).cells ({ frames := 1, cells := 0, slots := 0, locals := 12 } : Room).slots) := by
  refine MetFree.of_bodySF (plainFor_of_name pn_1) hisR ?_
  intro p e s m args below meth c s₁ Bd hml0 hP hK
  obtain ⟨rfl, hZ, hh⟩ := hP
  have hx := Bd.exec
  have hby := Bd.bytes
  have hml : c.maxLocals = 3 := hml0
  have hown : s.vm.findClass "java/lang/String" = some m.cls := findClass_of_methodNamed Bd.named
  have hnm := (name_of_methodNamed Bd.named Bd.method).1
  have X0 : Stand p l e ({ frames := 1, cells := 0, slots := 0, locals := 12 } : Room) s m #[(.ref a1), (.ref a2), (.int (0 : Int32))] below meth c s₁ [] 0 0 := Stand.of_body Bd
  have e0 : s₁.heap = h0 := by rw [← hh, Bd.state]; rfl
  have N0 := Fr.nil n0
  have pre0 : ∀ t, Steps p.tables e below (s₁.setTop (mkF m 0 #[.val (.ref a1), .val (.ref a2), .val (.int (0 : Int32))] [])) t → Steps p.tables e below (s₁.setTop (entryFrame m #[(.ref a1), (.ref a2), (.int (0 : Int32))] 3)) t := fun t k => castTop (ef_rm12_9 m a1 a2) k
  obtain ⟨T3, X3, e3, st3⟩ := initO X0 hx hZ hown (hw _ (gw 18 rfl)) (hw _ (gw 19 rfl)) (hw _ (gw 20 rfl)) e0 (g := (mkF m 1 #[.val (.ref a1), .val (.ref a2), .val (.int (0 : Int32))] [(.ref a1)])) rfl (by rw [hml]; rfl) rfl (hb hby d12_1) (by decide) (W := 0) (by show 2 * 0 + _ ≤ _; exact Nat.le_of_eq rfl) (by decide)
  obtain ⟨T7, h7, X7, e7, W7, st7⟩ := putF X3 hx hZ hown (host := "") (Or.inl (hw _ (gw 27 rfl))) Via.refl e3 F6 E_4 (Or.inr ⟨(hw _ (gw 23 rfl)), rfl, hnm⟩) (hw _ (gw 8 rfl)) (ty := (.array .byte)) (by decide) rfl rfl (g := (mkF m 6 #[.val (.ref a1), .val (.ref a2), .val (.int (0 : Int32))] [(.ref a2), (.ref a1)])) rfl rfl (hb hby d12_6)
  have O7 : Old Z n0 h7 := O0.wr W7 g_a1
  have Fw7 : Fld Z h7 a1 C_0 "value" "[B" (.ref a2) := Fld.same W7 F6
  have N7 := Fr.snoc X7 N0 g_a1
  have f8 : Fld Z h7 a1 C_0 "coder" "B" (.int (0 : Int32)) := (Fld.other W7 F5 (Or.inr (slot_ne (Or.inr (hw _ (gw 24 rfl))) (Or.inr (hw _ (gw 23 rfl))) (by decide) (t := .byte) (t' := (.array .byte)) (by decide) (by decide))))
  have f9 : Exa Z h7 a1 C_0 := (Exa.wr W7 E_4)
  obtain ⟨T10, h10, X10, e10, W10, st10⟩ := putFN X7 hx hZ hown (hw _ (gw 28 rfl)) Via.refl e7 f8 f9 (Or.inr ⟨(hw _ (gw 24 rfl)), rfl, hnm⟩) (hw _ (gw 8 rfl)) (ty := .byte) (v' := (.int (0 : Int32))) (by decide) (by exact congrArg Value.int (by decide +kernel : (nar .byte (0 : Int32)) = (0 : Int32))) ((by decide +kernel : (nar .byte (0 : Int32)) = (0 : Int32)) ▸ fits_nar_byte _) (g := (mkF m 11 #[.val (.ref a1), .val (.ref a2), .val (.int (0 : Int32))] [(.int (0 : Int32)), (.ref a1)])) rfl rfl (hb hby d12_11)
  have O10 : Old Z n0 h10 := O7.wr W10 g_a1
  have Fw10 : Fld Z h10 a1 C_0 "coder" "B" (.int (0 : Int32)) := Fld.same W10 f8
  have N10 := Fr.snoc X10 N7 g_a1
  obtain ⟨fs, hr, hrun, hended, hW, hsame⟩ := X10.leave (v := none) (fun _ => rfl)
  have f11 : Exa Z h10 a1 C_0 := (Exa.wr W10 f9)
  have f12 : Fld Z h10 a1 C_0 "value" "[B" (.ref a2) := (Fld.other W10 Fw7 (Or.inr (slot_ne (Or.inr (hw _ (gw 23 rfl))) (Or.inr (hw _ (gw 24 rfl))) (by decide) (t := (.array .byte)) (t' := .byte) (by decide) (by decide))))
  refine ⟨_, _, pre0 _ ?_, hrun, hended, _, _, rfl, ?_, ⟨_, rfl⟩, hW, hsame.mono (by decide) (by decide)⟩
  · show Steps p.tables e below (s₁.setTop (mkF m 0 #[.val (.ref a1), .val (.ref a2), .val (.int (0 : Int32))] [])) _
    refine XS.aloadN X0.here hx rfl (hb hby d12_0) rfl rfl ?_
    refine st3 _ ?_
    refine XS.aloadN X3.here hx rfl (hb hby d12_4) rfl rfl ?_
    refine XS.aloadN X3.here hx rfl (hb hby d12_5) rfl rfl ?_
    refine st7 _ ?_
    refine XS.aloadN X7.here hx rfl (hb hby d12_9) rfl rfl ?_
    refine XS.iloadN X7.here hx rfl (hb hby d12_10) rfl ?_
    refine st10 _ ?_
    show Steps p.tables e below (T10.setTop (mkF m 14 #[.val (.ref a1), .val (.ref a2), .val (.int (0 : Int32))] [])) _
    exact X10.returnOut hx Bd.returns (hb hby d12_14) hr
  · show Q12_9 Z _ _ h0 n0 _ T10.heap _
    rw [e10]
    exact ⟨rfl, N10, (((Keep.refl h0 [a1]).wr W7 (Or.inl (List.mem_of_getElem? (i := 0) rfl))).wr W10 (Or.inl (List.mem_of_getElem? (i := 0) rfl))), f11, Fw10, f12⟩
theorem ef_rm9_6 (m : MethodId) (x0 : Int32) : entryFrame m #[(.int x0)] 1 = mkF m 0 #[.val (.int x0)] [] := by first | (simp [entryFrame, mkF, argsToLocals, Value.category]; done) | rfl
def Q9_6 (Z : State) (p1 : Int32) (p2 : Int32) (h0 : Heap) (n0 : Nat) (v : Option Value) (h : Heap) (L : List Loc) : Prop := (∃ (i13 : Int32) (b11 : Addr) (b14 : Addr) (k15 : ClassId), i13 = (p1.toInt8.toInt32) ∧ v = some (.ref b11) ∧ Fr n0 L ∧ h0.size ≤ b11 ∧ b11 < h.size ∧ h0.size ≤ b14 ∧ b14 < h.size ∧ b11 ≠ b14 ∧ Keep h0 h [] ∧ Exa Z h b11 C_0 ∧ Fld Z h b11 C_0 "coder" "B" (.int (0 : Int32)) ∧ Fld Z h b11 C_0 "value" "[B" (.ref b14) ∧ Exa Z h b14 "[B" ∧ Arv Z h b14 k15 .byte (1 : Int32) [(.int i13)] (.int (0 : Int32)))
set_option maxRecDepth 65536 in
set_option maxHeartbeats 40000000 in
theorem rm9_6 (l : Launch) (Z : State) (a0 : Array Value) (hw : ∀ d ∈ own_ws, d.before a0 Z = true) (ws : List Jvm.Cond) (p1 : Int32) (p2 : Int32) (h0 : Heap) (n0 : Nat) (O0 : Old Z n0 h0) (S_3 : Sta Z Z.heap C_0 "COMPACT_STRINGS" "Z" (.int p2)) (hk5 : ¬ (p2 = (0 : Int32))) (hk6 : ¬ ((255 : Int32) < p1)) :
    MetFree l M_6 (head1 (Jvm.Cond.code M_6 jdk_42_method_139_code 1 (some (.object "java/lang/String")) :: ws) ({ frames := 2, cells := 2, slots := 5, locals := 27 } : Room)) (fun a U => a = #[(.int p1)] ∧ Z.Warmed39 U.vm ∧ U.heap = h0) (fun _ _ _ _ _ => True) (fun _ U o U' => ∃ v L, o = .returned v ∧ Q9_6 Z p1 p2 h0 n0 v U'.heap L ∧ FrameEnd U o U' L ({ frames := 2, cells := 2, slots := 5, locals := 27 } : Room).cells ({ frames := 2, cells := 2, slots := 5, locals := 27 } : Room).slots) := by
  refine MetFree.of_bodySF (plainFor_of_name pn_1) hisR ?_
  intro p e s m args below meth c s₁ Bd hml0 hP hK
  obtain ⟨rfl, hZ, hh⟩ := hP
  have hx := Bd.exec
  have hby := Bd.bytes
  have hml : c.maxLocals = 1 := hml0
  have hown : s.vm.findClass "java/lang/String" = some m.cls := findClass_of_methodNamed Bd.named
  have hnm := (name_of_methodNamed Bd.named Bd.method).1
  have X0 : Stand p l e ({ frames := 2, cells := 2, slots := 5, locals := 27 } : Room) s m #[(.int p1)] below meth c s₁ [] 0 0 := Stand.of_body Bd
  have e0 : s₁.heap = h0 := by rw [← hh, Bd.state]; rfl
  have N0 := Fr.nil n0
  have pre0 : ∀ t, Steps p.tables e below (s₁.setTop (mkF m 0 #[.val (.int p1)] [])) t → Steps p.tables e below (s₁.setTop (entryFrame m #[(.int p1)] 1)) t := fun t k => castTop (ef_rm9_6 m p1) k
  obtain ⟨T4, X4, e4, st4⟩ := getS2 X0 hx hZ hown (host := "") (Or.inl (hw _ (gw 55 rfl))) Via.refl e0 (Sta.ext O0.2 S_3) (g := (mkF m 0 #[.val (.int p1)] [])) rfl (hb hby d9_0)
  obtain ⟨_, _, ⟨T7, L7, k7, n7⟩, -, X7, ⟨Lc7, hQ7, l7, y7, z7⟩, st7⟩ := Jvm.LawKit.callS X4 hx (y := M_3) hown (mvT hZ (hw _ (gw 56 rfl))) (mvT hZ (hw _ (gw 57 rfl))) (mvT hZ (hw _ (gw 58 rfl))) (mvT hZ (hw _ (gw 59 rfl))) (by decide) (backOf (W := 0) (rm10_7 l Z a0 hw [] p1 h0 n0  O0 hk6) hZ (hw _ (gw 59 rfl)) (hw _ (gw 58 rfl)) (by decide) (by decide)) (g := (mkF m 7 #[.val (.int p1)] [(.int p1)])) rfl (by rw [hml]; rfl) (argsL := [(.int p1)]) (rest := []) (lenOf pd_3 rfl) rfl (by show 2 * 0 + _ ≤ _; exact Nat.le_of_eq rfl) (hb hby d9_7) (fun _ _ => ⟨rfl, e4, (by decide : 0 + 0 ≤ _), (by decide : 0 + 0 ≤ _)⟩)
  dsimp only [Pt.U, Pt.locs, Pt.cells, Pt.slots] at X7 l7 y7 z7 st7 hQ7
  subst l7 y7 z7
  obtain ⟨rfl, u9, u10⟩ := hQ7
  have N7 := Fr.app N0 u9
  obtain ⟨T11, h11, X11, e11, E11, A11, D11, -, st11⟩ := newO X7 hx hZ hown (hw _ (gw 60 rfl)) (hw _ (gw 8 rfl)) (hw _ (gw 9 rfl)) u10 (g := (mkF m 13 #[.val (.int p1)] [])) rfl (hb hby d9_13) (by decide) (by decide)
  obtain ⟨b11, g11⟩ : ∃ z, z = h0.size := ⟨_, rfl⟩
  rw [← g11] at A11 D11 st11
  have O11 : Old Z n0 h11 := O0.ext E11
  have bd_b11 : h0.size ≤ b11 := Nat.le_of_eq g11.symm
  have g_b11 : n0 ≤ b11 := Nat.le_trans (own_z O0) bd_b11
  have sz_b11 : h0.size ≤ b11 := Nat.le_trans (Nat.le_refl _) bd_b11
  have lt_b11 : b11 < h11.size := A11.lt
  have D11_23 : Fld Z h11 b11 C_0 "value" "[B" .null := D11 (Or.inr (hw _ (gw 23 rfl))) (ty := (.array .byte)) (by decide)
  have D11_24 : Fld Z h11 b11 C_0 "coder" "B" (.int (0 : Int32)) := D11 (Or.inr (hw _ (gw 24 rfl))) (ty := .byte) (by decide)
  obtain ⟨_, _, ⟨T12, L12, k12, n12⟩, -, X12, ⟨Lc12, hQ12, l12, y12, z12⟩, st12⟩ := Jvm.LawKit.callS X11 hx (y := M_4) hown (mvT hZ (hw _ (gw 61 rfl))) (mvT hZ (hw _ (gw 62 rfl))) (mvT hZ (hw _ (gw 58 rfl))) (mvT hZ (hw _ (gw 63 rfl))) (by decide) (backOf (W := 2) (rm11_8 l Z a0 hw [] p1 h11 n0  O11) hZ (hw _ (gw 63 rfl)) (hw _ (gw 58 rfl)) (by decide) (by decide)) (g := (mkF m 18 #[.val (.int p1)] [(.int p1), (.ref b11), (.ref b11)])) rfl (by rw [hml]; rfl) (argsL := [(.int p1)]) (rest := [(.ref b11), (.ref b11)]) (lenOf pd_4 rfl) rfl (by show 2 * 0 + _ ≤ _; exact Nat.le_of_eq rfl) (hb hby d9_18) (fun _ _ => ⟨rfl, e11, (by decide : 1 + 1 ≤ _), (by decide : 4 + 1 ≤ _)⟩)
  dsimp only [Pt.U, Pt.locs, Pt.cells, Pt.slots] at X12 l12 y12 z12 st12 hQ12
  subst l12 y12 z12
  obtain ⟨i13, b14, k15, u16, rfl, u18, u19, u20, Ku21, u22, u23⟩ := hQ12
  have Ou21 : Old Z n0 T12.heap := O11.keep Ku21 all0
  have g_b14 : n0 ≤ b14 := Nat.le_trans (own_z O11) u19
  have sz_b14 : h0.size ≤ b14 := Nat.le_trans E11.1 u19
  have N12 := Fr.app N7 u18
  have f24 : Exa Z T12.heap b11 C_0 := (A11.keep Ku21)
  have f25 : Fld Z T12.heap b11 C_0 "coder" "B" (.int (0 : Int32)) := (D11_24.keep Ku21 nin0)
  have f26 : Fld Z T12.heap b11 C_0 "value" "[B" .null := (D11_23.keep Ku21 nin0)
  obtain ⟨_, _, ⟨T27, L27, k27, n27⟩, -, X27, ⟨Lc27, hQ27, l27, y27, z27⟩, st27⟩ := X12.specialBack hx (y := M_5) rfl hown (mvT hZ (hw _ (gw 64 rfl))) (mvT hZ (hw _ (gw 65 rfl))) (mvT hZ (hw _ (gw 66 rfl))) (by decide) (backOf (W := 1) (rm12_9 l Z a0 hw [] b11 b14 T12.heap n0  Ou21 f24 f25 f26 g_b11) hZ (hw _ (gw 66 rfl)) (hw _ (gw 9 rfl)) (by decide) (by decide)) (g := (mkF m 22 #[.val (.int p1)] [(.int (0 : Int32)), (.ref b14), (.ref b11), (.ref b11)])) rfl (by rw [hml]; rfl) (Steps.refl _) (a := b11) (argsL := [(.ref b14), (.int (0 : Int32))]) (rest := [(.ref b11)]) (lenOf pd_5 rfl) rfl (by show 2 * 0 + _ ≤ _; exact Nat.le_of_eq rfl) (hb hby d9_22) (fun _ _ => ⟨rfl, rfl, (by decide : 2 + 0 ≤ _), (by decide : 5 + 0 ≤ _)⟩)
  dsimp only [Pt.U, Pt.locs, Pt.cells, Pt.slots] at X27 l27 y27 z27 st27 hQ27
  subst l27 y27 z27
  obtain ⟨rfl, u29, Ku30, u31, u32, u33⟩ := hQ27
  have Ou30 : Old Z n0 T27.heap := Ou21.keep Ku30 (allS g_b11 all0)
  have N27 := Fr.app N12 u29
  obtain ⟨fs, hr, hrun, hended, hW, hsame⟩ := X27.leave (v := some (.ref b11)) (fun h => by rw [Bd.returns] at h; cases h)
  have f34 : Exa Z T27.heap b14 "[B" := (u22.keep Ku30)
  have f35 : Arv Z T27.heap b14 k15 .byte (1 : Int32) [(.int i13)] (.int (0 : Int32)) := (u23.keep Ku30 (ninS (Ne.symm (Nat.ne_of_lt (Nat.lt_of_lt_of_le lt_b11 u19))) nin0))
  refine ⟨_, _, pre0 _ ?_, hrun, hended, _, _, rfl, ?_, ⟨_, rfl⟩, hW, hsame.mono (by decide) (by decide)⟩
  · show Steps p.tables e below (s₁.setTop (mkF m 0 #[.val (.int p1)] [])) _
    refine st4 _ ?_
    refine XS.ifNo X4.here hx rfl (hb hby d9_3) rfl ((if0 _ _).trans (feq hk5).1) ?_
    refine XS.iloadN X4.here hx rfl (hb hby d9_6) rfl ?_
    refine st7 _ ?_
    refine XS.ifNo X7.here hx rfl (hb hby d9_10) rfl ((if0 _ _).trans (feq (by decide +kernel : ¬ ((1 : Int32) = (0 : Int32)))).1) ?_
    refine st11 _ ?_
    refine XS.dup X11.here hx rfl (hb hby d9_16) rfl rfl ?_
    refine XS.iloadN X11.here hx rfl (hb hby d9_17) rfl ?_
    refine st12 _ ?_
    show Steps p.tables e below (T12.setTop (mkF m 21 #[.val (.int p1)] [(.ref b14), (.ref b11), (.ref b11)])) _
    refine XS.iconst X12.here hx rfl (hb hby d9_21) ?_
    refine st27.trans ?_
    show Steps p.tables e below (T27.setTop (mkF m 25 #[.val (.int p1)] [(.ref b11)])) _
    jvm_step X27.here [X27.here.top, hx, (hb hby d9_25), X27.method', Bd.returns, Value.isRef, FieldType.isReference]
    first | (intro acts; rw [hr _ acts rfl rfl rfl]) | rw [hr _ _ rfl rfl rfl]
    exact Steps.refl _
  · show Q9_6 Z _ _ h0 n0 _ T27.heap _
    exact ⟨i13, b11, b14, k15, u16, rfl, N27, sz_b11, (Nat.lt_of_lt_of_le (Nat.lt_of_lt_of_le lt_b11 Ku21.1) Ku30.1), sz_b14, (Nat.lt_of_lt_of_le u20 Ku30.1), (Nat.ne_of_lt (Nat.lt_of_lt_of_le lt_b11 u19)), ((((Keep.refl h0 []).ext E11).trans Ku21 all0).trans Ku30 (allS (Or.inr sz_b11) all0)), u31, u32, u33, f34, f35⟩
theorem ef_rm14_13 (m : MethodId) (x0 : Addr) (x2 : Addr) : entryFrame m #[(.ref x0), (.int (0 : Int32)), (.ref x2), (.int (0 : Int32)), (.int (2 : Int32))] 7 = mkF m 0 #[.val (.ref x0), .val (.int (0 : Int32)), .val (.ref x2), .val (.int (0 : Int32)), .val (.int (2 : Int32)), .unset, .unset] [] := by first | (simp [entryFrame, mkF, argsToLocals, Value.category]; done) | rfl
def Q14_13 (Z : State) (a1 : Addr) (a2 : Addr) (p3 : Int32) (p4 : Int32) (k5 : ClassId) (k10 : ClassId) (h0 : Heap) (n0 : Nat) (v : Option Value) (h : Heap) (L : List Loc) : Prop := (∃ (i20 : Int32) (i9 : Int32), i9 = (p3.toInt8.toInt32) ∧ i20 = (p4.toInt8.toInt32) ∧ v = some (.int (2 : Int32)) ∧ Fr n0 L ∧ Keep h0 h [a2] ∧ Exa Z h a2 "[B" ∧ Arv Z h a2 k10 .byte (2 : Int32) [(.int i9), (.int i20)] (.int (0 : Int32)))
set_option maxRecDepth 65536 in
set_option maxHeartbeats 40000000 in
theorem rm14_13 (l : Launch) (Z : State) (a0 : Array Value) (hw : ∀ d ∈ own_ws, d.before a0 Z = true) (ws : List Jvm.Cond) (a1 : Addr) (a2 : Addr) (p3 : Int32) (p4 : Int32) (k5 : ClassId) (k10 : ClassId) (h0 : Heap) (n0 : Nat) (O0 : Old Z n0 h0) (V6 : Arv Z h0 a1 k5 .char (2 : Int32) [(.int p3), (.int p4)] (.int (0 : Int32))) (hk8 : ¬ ((255 : Int32) < p3)) (V11 : Arv Z h0 a2 k10 .byte (2 : Int32) [] (.int (0 : Int32))) (g_a2 : n0 ≤ a2) (E_15 : Exa Z h0 a2 "[B") (hne16 : a1 ≠ a2) (hk19 : ¬ ((255 : Int32) < p4)) :
    MetFree l M_7 (head1 (Jvm.Cond.code M_7 jdk_52_method_21_code 7 (some .int) :: ws) ({ frames := 0, cells := 0, slots := 0, locals := 0 } : Room)) (fun a U => a = #[(.ref a1), (.int (0 : Int32)), (.ref a2), (.int (0 : Int32)), (.int (2 : Int32))] ∧ Z.Warmed39 U.vm ∧ U.heap = h0) (fun _ _ _ _ _ => True) (fun _ U o U' => ∃ v L, o = .returned v ∧ Q14_13 Z a1 a2 p3 p4 k5 k10 h0 n0 v U'.heap L ∧ FrameEnd U o U' L ({ frames := 0, cells := 0, slots := 0, locals := 0 } : Room).cells ({ frames := 0, cells := 0, slots := 0, locals := 0 } : Room).slots) := by
  refine MetFree.of_bodySF (plainFor_of_name pn_3) hisR ?_
  intro p e s m args below meth c s₁ Bd hml0 hP hK
  obtain ⟨rfl, hZ, hh⟩ := hP
  have hx := Bd.exec
  have hby := Bd.bytes
  have hml : c.maxLocals = 7 := hml0
  have hown : s.vm.findClass "java/lang/StringUTF16" = some m.cls := findClass_of_methodNamed Bd.named
  have hnm := (name_of_methodNamed Bd.named Bd.method).1
  have X0 : Stand p l e ({ frames := 0, cells := 0, slots := 0, locals := 0 } : Room) s m #[(.ref a1), (.int (0 : Int32)), (.ref a2), (.int (0 : Int32)), (.int (2 : Int32))] below meth c s₁ [] 0 0 := Stand.of_body Bd
  have e0 : s₁.heap = h0 := by rw [← hh, Bd.state]; rfl
  have N0 := Fr.nil n0
  have pre0 : ∀ t, Steps p.tables e below (s₁.setTop (mkF m 0 #[.val (.ref a1), .val (.int (0 : Int32)), .val (.ref a2), .val (.int (0 : Int32)), .val (.int (2 : Int32)), .unset, .unset] [])) t → Steps p.tables e below (s₁.setTop (entryFrame m #[(.ref a1), (.int (0 : Int32)), (.ref a2), (.int (0 : Int32)), (.int (2 : Int32))] 7)) t := fun t k => castTop (ef_rm14_13 m a1 a2) k
  obtain ⟨cl7, Ar7, -, Sz7, -, Hh7, -⟩ := id V6
  have hin7 : ¬ ((0 : Int32) < 0 ∨ cl7.slots.size ≤ ((0 : Int32)).toNatClampNeg) := inb_of Sz7 ⟨by decide +kernel, by decide +kernel⟩
  have hat7 : cl7.slots[((0 : Int32)).toNatClampNeg]? = some (.int p3) := Has.at Hh7 hin7 rfl
  obtain ⟨i9, hi9⟩ : ∃ z, z = (p3.toInt8.toInt32) := ⟨_, rfl⟩
  have Vp12 : Arv Z h0 a2 k10 .byte (2 : Int32) [(.int (0 : Int32))] (.int (0 : Int32)) := V11.pad (pad_rep [] (.int (0 : Int32)) 1)
  obtain ⟨cl13, Ar13, qk13, Sz13, Nn13, Hh13, Gg13⟩ := id Vp12
  have hin13 : ¬ ((0 : Int32) < 0 ∨ cl13.slots.size ≤ ((0 : Int32)).toNatClampNeg) := inb_of Sz13 ⟨by decide +kernel, by decide +kernel⟩
  obtain ⟨T14, h14, X14, e14, W14, st14⟩ := stB X0 hx hZ e0 Ar13 (j := (0 : Int32)) hin13 (g := (mkF m 31 #[.val (.ref a1), .val (.int (0 : Int32)), .val (.ref a2), .val (.int (0 : Int32)), .val (.int (2 : Int32)), .val (.int (0 : Int32)), .val (.int p3)] [(.int i9), (.int (0 : Int32)), (.ref a2)])) rfl rfl (hb hby d14_31)
  rw [show nar .byte i9 = i9 from (own_i2b2 hi9 : (i9.toInt8.toInt32) = i9)] at W14
  have O14 : Old Z n0 h14 := O0.wr W14 g_a2
  have V14 : Arv Z h14 a2 k10 .byte (2 : Int32) [(.int i9)] (.int (0 : Int32)) := Arv.set Ar13 qk13 Sz13 Nn13 Hh13 Gg13 ((own_i2b2 hi9 : (i9.toInt8.toInt32) = i9) ▸ fits_nar_byte _) W14 0 rfl (Nat.le_of_ble_eq_true rfl)
  have N14 := Fr.snoc X14 N0 g_a2
  have f17 : Arv Z h14 a1 k5 .char (2 : Int32) [(.int p3), (.int p4)] (.int (0 : Int32)) := (V6.other W14 hne16)
  obtain ⟨cl18, Ar18, -, Sz18, -, Hh18, -⟩ := id f17
  have hin18 : ¬ ((1 : Int32) < 0 ∨ cl18.slots.size ≤ ((1 : Int32)).toNatClampNeg) := inb_of Sz18 ⟨by decide +kernel, by decide +kernel⟩
  have hat18 : cl18.slots[((1 : Int32)).toNatClampNeg]? = some (.int p4) := Has.at Hh18 hin18 rfl
  obtain ⟨i20, hi20⟩ : ∃ z, z = (p4.toInt8.toInt32) := ⟨_, rfl⟩
  have Vp21 : Arv Z h14 a2 k10 .byte (2 : Int32) [(.int i9), (.int (0 : Int32))] (.int (0 : Int32)) := V14.pad (pad_rep [(.int i9)] (.int (0 : Int32)) 1)
  obtain ⟨cl22, Ar22, qk22, Sz22, Nn22, Hh22, Gg22⟩ := id Vp21
  have hin22 : ¬ ((1 : Int32) < 0 ∨ cl22.slots.size ≤ ((1 : Int32)).toNatClampNeg) := inb_of Sz22 ⟨by decide +kernel, by decide +kernel⟩
  obtain ⟨T23, h23, X23, e23, W23, st23⟩ := stB X14 hx hZ e14 Ar22 (j := (1 : Int32)) hin22 (g := (mkF m 31 #[.val (.ref a1), .val (.int (1 : Int32)), .val (.ref a2), .val (.int (1 : Int32)), .val (.int (2 : Int32)), .val (.int (1 : Int32)), .val (.int p4)] [(.int i20), (.int (1 : Int32)), (.ref a2)])) rfl rfl (hb hby d14_31)
  rw [show nar .byte i20 = i20 from (own_i2b2 hi20 : (i20.toInt8.toInt32) = i20)] at W23
  have O23 : Old Z n0 h23 := O14.wr W23 g_a2
  have V23 : Arv Z h23 a2 k10 .byte (2 : Int32) [(.int i9), (.int i20)] (.int (0 : Int32)) := Arv.set Ar22 qk22 Sz22 Nn22 Hh22 Gg22 ((own_i2b2 hi20 : (i20.toInt8.toInt32) = i20) ▸ fits_nar_byte _) W23 1 rfl (Nat.le_of_ble_eq_true rfl)
  have N23 := Fr.snoc X23 N14 g_a2
  obtain ⟨fs, hr, hrun, hended, hW, hsame⟩ := X23.leave (v := some (.int (2 : Int32))) (fun h => by rw [Bd.returns] at h; cases h)
  have f24 : Exa Z h23 a2 "[B" := (Exa.wr W23 (Exa.wr W14 E_15))
  refine ⟨_, _, pre0 _ ?_, hrun, hended, _, _, rfl, ?_, ⟨_, rfl⟩, hW, hsame.mono (by decide) (by decide)⟩
  · show Steps p.tables e below (s₁.setTop (mkF m 0 #[.val (.ref a1), .val (.int (0 : Int32)), .val (.ref a2), .val (.int (0 : Int32)), .val (.int (2 : Int32)), .unset, .unset] [])) _
    refine XS.iconst X0.here hx rfl (hb hby d14_0) ?_
    refine XS.istore X0.here hx rfl (hb hby d14_1) rfl (l' := #[.val (.ref a1), .val (.int (0 : Int32)), .val (.ref a2), .val (.int (0 : Int32)), .val (.int (2 : Int32)), .val (.int (0 : Int32)), .unset]) rfl ?_
    refine XS.iload X0.here hx rfl (hb hby d14_3) rfl ?_
    refine XS.iload X0.here hx rfl (hb hby d14_5) rfl ?_
    refine XS.icmpNo X0.here hx rfl (hb hby d14_7) rfl (tlt (by decide +kernel : (0 : Int32) < (2 : Int32))).2.1 ?_
    refine XS.aloadN X0.here hx rfl (hb hby d14_10) rfl rfl ?_
    refine XS.iloadN X0.here hx rfl (hb hby d14_11) rfl ?_
    refine X0.caload hx (j := (0 : Int32)) (v := (.int p3)) (by rw [e0]; exact Ar7.1) (State.isArrayOf_alike hZ.alike Ar7.2.1) Ar7.2.2 hin7 hat7 (g := (mkF m 12 #[.val (.ref a1), .val (.int (0 : Int32)), .val (.ref a2), .val (.int (0 : Int32)), .val (.int (2 : Int32)), .val (.int (0 : Int32)), .unset] [(.int (0 : Int32)), (.ref a1)])) rfl rfl (hb hby d14_12) _ ?_
    refine XS.istore X0.here hx rfl (hb hby d14_13) rfl (l' := #[.val (.ref a1), .val (.int (0 : Int32)), .val (.ref a2), .val (.int (0 : Int32)), .val (.int (2 : Int32)), .val (.int (0 : Int32)), .val (.int p3)]) rfl ?_
    show Steps p.tables e below (s₁.setTop (mkF m 15 #[.val (.ref a1), .val (.int (0 : Int32)), .val (.ref a2), .val (.int (0 : Int32)), .val (.int (2 : Int32)), .val (.int (0 : Int32)), .val (.int p3)] [])) _
    refine XS.iload X0.here hx rfl (hb hby d14_15) rfl ?_
    refine XS.sipush X0.here hx rfl (hb hby d14_17) ?_
    refine XS.icmpYes X0.here hx rfl (pc0 := 20) (pc' := 26) rfl (hb hby d14_20) rfl (flt hk8).2.2.2 (by decide) (by decide) ?_
    refine XS.aloadN X0.here hx rfl (hb hby d14_26) rfl rfl ?_
    refine XS.iloadN X0.here hx rfl (hb hby d14_27) rfl ?_
    refine XS.iload X0.here hx rfl (hb hby d14_28) rfl ?_
    refine XS.i2b X0.here hx rfl (hb hby d14_30) rfl ?_
    show Steps p.tables e below (s₁.setTop (mkF m 31 #[.val (.ref a1), .val (.int (0 : Int32)), .val (.ref a2), .val (.int (0 : Int32)), .val (.int (2 : Int32)), .val (.int (0 : Int32)), .val (.int p3)] [(.int (p3.toInt8.toInt32)), (.int (0 : Int32)), (.ref a2)])) _
    rw [← hi9]
    refine st14 _ ?_
    refine XS.iinc X14.here hx rfl (hb hby d14_32) rfl (l' := #[.val (.ref a1), .val (.int ((0 : Int32) + (1 : Int32))), .val (.ref a2), .val (.int (0 : Int32)), .val (.int (2 : Int32)), .val (.int (0 : Int32)), .val (.int p3)]) rfl ?_
    show Steps p.tables e below (T14.setTop (mkF m 35 #[.val (.ref a1), .val (.int ((0 : Int32) + (1 : Int32))), .val (.ref a2), .val (.int (0 : Int32)), .val (.int (2 : Int32)), .val (.int (0 : Int32)), .val (.int p3)] [])) _
    rw [(by decide +kernel : ((0 : Int32) + (1 : Int32)) = (1 : Int32))]
    refine XS.iinc X14.here hx rfl (hb hby d14_35) rfl (l' := #[.val (.ref a1), .val (.int (1 : Int32)), .val (.ref a2), .val (.int ((0 : Int32) + (1 : Int32))), .val (.int (2 : Int32)), .val (.int (0 : Int32)), .val (.int p3)]) rfl ?_
    show Steps p.tables e below (T14.setTop (mkF m 38 #[.val (.ref a1), .val (.int (1 : Int32)), .val (.ref a2), .val (.int ((0 : Int32) + (1 : Int32))), .val (.int (2 : Int32)), .val (.int (0 : Int32)), .val (.int p3)] [])) _
    rw [(by decide +kernel : ((0 : Int32) + (1 : Int32)) = (1 : Int32))]
    refine XS.iinc X14.here hx rfl (hb hby d14_38) rfl (l' := #[.val (.ref a1), .val (.int (1 : Int32)), .val (.ref a2), .val (.int (1 : Int32)), .val (.int (2 : Int32)), .val (.int ((0 : Int32) + (1 : Int32))), .val (.int p3)]) rfl ?_
    show Steps p.tables e below (T14.setTop (mkF m 41 #[.val (.ref a1), .val (.int (1 : Int32)), .val (.ref a2), .val (.int (1 : Int32)), .val (.int (2 : Int32)), .val (.int ((0 : Int32) + (1 : Int32))), .val (.int p3)] [])) _
    rw [(by decide +kernel : ((0 : Int32) + (1 : Int32)) = (1 : Int32))]
    refine XS.goto X14.here hx rfl (pc0 := 41) (pc' := 3) rfl (hb hby d14_41) (by decide) (by decide) ?_
    refine XS.iload X14.here hx rfl (hb hby d14_3) rfl ?_
    refine XS.iload X14.here hx rfl (hb hby d14_5) rfl ?_
    refine XS.icmpNo X14.here hx rfl (hb hby d14_7) rfl (tlt (by decide +kernel : (1 : Int32) < (2 : Int32))).2.1 ?_
    refine XS.aloadN X14.here hx rfl (hb hby d14_10) rfl rfl ?_
    refine XS.iloadN X14.here hx rfl (hb hby d14_11) rfl ?_
    refine X14.caload hx (j := (1 : Int32)) (v := (.int p4)) (by rw [e14]; exact Ar18.1) (State.isArrayOf_alike hZ.alike Ar18.2.1) Ar18.2.2 hin18 hat18 (g := (mkF m 12 #[.val (.ref a1), .val (.int (1 : Int32)), .val (.ref a2), .val (.int (1 : Int32)), .val (.int (2 : Int32)), .val (.int (1 : Int32)), .val (.int p3)] [(.int (1 : Int32)), (.ref a1)])) rfl rfl (hb hby d14_12) _ ?_
    refine XS.istore X14.here hx rfl (hb hby d14_13) rfl (l' := #[.val (.ref a1), .val (.int (1 : Int32)), .val (.ref a2), .val (.int (1 : Int32)), .val (.int (2 : Int32)), .val (.int (1 : Int32)), .val (.int p4)]) rfl ?_
    show Steps p.tables e below (T14.setTop (mkF m 15 #[.val (.ref a1), .val (.int (1 : Int32)), .val (.ref a2), .val (.int (1 : Int32)), .val (.int (2 : Int32)), .val (.int (1 : Int32)), .val (.int p4)] [])) _
    refine XS.iload X14.here hx rfl (hb hby d14_15) rfl ?_
    refine XS.sipush X14.here hx rfl (hb hby d14_17) ?_
    refine XS.icmpYes X14.here hx rfl (pc0 := 20) (pc' := 26) rfl (hb hby d14_20) rfl (flt hk19).2.2.2 (by decide) (by decide) ?_
    refine XS.aloadN X14.here hx rfl (hb hby d14_26) rfl rfl ?_
    refine XS.iloadN X14.here hx rfl (hb hby d14_27) rfl ?_
    refine XS.iload X14.here hx rfl (hb hby d14_28) rfl ?_
    refine XS.i2b X14.here hx rfl (hb hby d14_30) rfl ?_
    show Steps p.tables e below (T14.setTop (mkF m 31 #[.val (.ref a1), .val (.int (1 : Int32)), .val (.ref a2), .val (.int (1 : Int32)), .val (.int (2 : Int32)), .val (.int (1 : Int32)), .val (.int p4)] [(.int (p4.toInt8.toInt32)), (.int (1 : Int32)), (.ref a2)])) _
    rw [← hi20]
    refine st23 _ ?_
    refine XS.iinc X23.here hx rfl (hb hby d14_32) rfl (l' := #[.val (.ref a1), .val (.int ((1 : Int32) + (1 : Int32))), .val (.ref a2), .val (.int (1 : Int32)), .val (.int (2 : Int32)), .val (.int (1 : Int32)), .val (.int p4)]) rfl ?_
    show Steps p.tables e below (T23.setTop (mkF m 35 #[.val (.ref a1), .val (.int ((1 : Int32) + (1 : Int32))), .val (.ref a2), .val (.int (1 : Int32)), .val (.int (2 : Int32)), .val (.int (1 : Int32)), .val (.int p4)] [])) _
    rw [(by decide +kernel : ((1 : Int32) + (1 : Int32)) = (2 : Int32))]
    refine XS.iinc X23.here hx rfl (hb hby d14_35) rfl (l' := #[.val (.ref a1), .val (.int (2 : Int32)), .val (.ref a2), .val (.int ((1 : Int32) + (1 : Int32))), .val (.int (2 : Int32)), .val (.int (1 : Int32)), .val (.int p4)]) rfl ?_
    show Steps p.tables e below (T23.setTop (mkF m 38 #[.val (.ref a1), .val (.int (2 : Int32)), .val (.ref a2), .val (.int ((1 : Int32) + (1 : Int32))), .val (.int (2 : Int32)), .val (.int (1 : Int32)), .val (.int p4)] [])) _
    rw [(by decide +kernel : ((1 : Int32) + (1 : Int32)) = (2 : Int32))]
    refine XS.iinc X23.here hx rfl (hb hby d14_38) rfl (l' := #[.val (.ref a1), .val (.int (2 : Int32)), .val (.ref a2), .val (.int (2 : Int32)), .val (.int (2 : Int32)), .val (.int ((1 : Int32) + (1 : Int32))), .val (.int p4)]) rfl ?_
    show Steps p.tables e below (T23.setTop (mkF m 41 #[.val (.ref a1), .val (.int (2 : Int32)), .val (.ref a2), .val (.int (2 : Int32)), .val (.int (2 : Int32)), .val (.int ((1 : Int32) + (1 : Int32))), .val (.int p4)] [])) _
    rw [(by decide +kernel : ((1 : Int32) + (1 : Int32)) = (2 : Int32))]
    refine XS.goto X23.here hx rfl (pc0 := 41) (pc' := 3) rfl (hb hby d14_41) (by decide) (by decide) ?_
    refine XS.iload X23.here hx rfl (hb hby d14_3) rfl ?_
    refine XS.iload X23.here hx rfl (hb hby d14_5) rfl ?_
    refine XS.icmpYes X23.here hx rfl (pc0 := 7) (pc' := 44) rfl (hb hby d14_7) rfl (flt (by decide +kernel : ¬ ((2 : Int32) < (2 : Int32)))).2.1 (by decide) (by decide) ?_
    refine XS.iload X23.here hx rfl (hb hby d14_44) rfl ?_
    show Steps p.tables e below (T23.setTop (mkF m 46 #[.val (.ref a1), .val (.int (2 : Int32)), .val (.ref a2), .val (.int (2 : Int32)), .val (.int (2 : Int32)), .val (.int (2 : Int32)), .val (.int p4)] [(.int (2 : Int32))])) _
    exact retI X23 hx Bd.returns (hb hby d14_46) hr
  · show Q14_13 Z _ _ _ _ _ _ h0 n0 _ T23.heap _
    rw [e23]
    exact ⟨i20, i9, hi9, hi20, rfl, N23, (((Keep.refl h0 [a2]).wr W14 (Or.inl (List.mem_of_getElem? (i := 0) rfl))).wr W23 (Or.inl (List.mem_of_getElem? (i := 0) rfl))), f24, V23⟩
theorem ef_rm13_12 (m : MethodId) (x0 : Addr) : entryFrame m #[(.ref x0), (.int (0 : Int32)), (.int (2 : Int32))] 6 = mkF m 0 #[.val (.ref x0), .val (.int (0 : Int32)), .val (.int (2 : Int32)), .unset, .unset, .unset] [] := by first | (simp [entryFrame, mkF, argsToLocals, Value.category]; done) | rfl
def Q13_12 (Z : State) (a1 : Addr) (p3 : Int32) (p4 : Int32) (k5 : ClassId) (h0 : Heap) (n0 : Nat) (v : Option Value) (h : Heap) (L : List Loc) : Prop := (∃ (i11 : Int32) (i12 : Int32) (b2 : Addr) (k2 : ClassId), i12 = (p3.toInt8.toInt32) ∧ i11 = (p4.toInt8.toInt32) ∧ v = some (.ref b2) ∧ Fr n0 L ∧ h0.size ≤ b2 ∧ b2 < h.size ∧ Keep h0 h [] ∧ Exa Z h b2 "[B" ∧ Arv Z h b2 k2 .byte (2 : Int32) [(.int i12), (.int i11)] (.int (0 : Int32)))
set_option maxRecDepth 65536 in
set_option maxHeartbeats 40000000 in
theorem rm13_12 (l : Launch) (Z : State) (a0 : Array Value) (hw : ∀ d ∈ own_ws, d.before a0 Z = true) (ws : List Jvm.Cond) (a1 : Addr) (p3 : Int32) (p4 : Int32) (k5 : ClassId) (h0 : Heap) (n0 : Nat) (O0 : Old Z n0 h0) (V6 : Arv Z h0 a1 k5 .char (2 : Int32) [(.int p3), (.int p4)] (.int (0 : Int32))) (hk7 : ¬ ((255 : Int32) < p3)) (lt_a1 : a1 < h0.size) (hk8 : ¬ ((255 : Int32) < p4)) :
    MetFree l M_8 (head1 (Jvm.Cond.code M_8 jdk_52_method_16_code 6 (some (.array .byte)) :: ws) ({ frames := 1, cells := 1, slots := 2, locals := 18 } : Room)) (fun a U => a = #[(.ref a1), (.int (0 : Int32)), (.int (2 : Int32))] ∧ Z.Warmed39 U.vm ∧ U.heap = h0) (fun _ _ _ _ _ => True) (fun _ U o U' => ∃ v L, o = .returned v ∧ Q13_12 Z a1 p3 p4 k5 h0 n0 v U'.heap L ∧ FrameEnd U o U' L ({ frames := 1, cells := 1, slots := 2, locals := 18 } : Room).cells ({ frames := 1, cells := 1, slots := 2, locals := 18 } : Room).slots) := by
  refine MetFree.of_bodySF (plainFor_of_name pn_3) hisR ?_
  intro p e s m args below meth c s₁ Bd hml0 hP hK
  obtain ⟨rfl, hZ, hh⟩ := hP
  have hx := Bd.exec
  have hby := Bd.bytes
  have hml : c.maxLocals = 6 := hml0
  have hown : s.vm.findClass "java/lang/StringUTF16" = some m.cls := findClass_of_methodNamed Bd.named
  have hnm := (name_of_methodNamed Bd.named Bd.method).1
  have X0 : Stand p l e ({ frames := 1, cells := 1, slots := 2, locals := 18 } : Room) s m #[(.ref a1), (.int (0 : Int32)), (.int (2 : Int32))] below meth c s₁ [] 0 0 := Stand.of_body Bd
  have e0 : s₁.heap = h0 := by rw [← hh, Bd.state]; rfl
  have N0 := Fr.nil n0
  have pre0 : ∀ t, Steps p.tables e below (s₁.setTop (mkF m 0 #[.val (.ref a1), .val (.int (0 : Int32)), .val (.int (2 : Int32)), .unset, .unset, .unset] [])) t → Steps p.tables e below (s₁.setTop (entryFrame m #[(.ref a1), (.int (0 : Int32)), (.int (2 : Int32))] 6)) t := fun t k => castTop (ef_rm13_12 m a1) k
  obtain ⟨T2, h2, k2, X2, e2, E2, A2, Ex2, st2⟩ := newPE X0 hx hZ (hw _ (gw 22 rfl)) e0 (g := (mkF m 1 #[.val (.ref a1), .val (.int (0 : Int32)), .val (.int (2 : Int32)), .unset, .unset, .unset] [(.int (2 : Int32))])) rfl (hb hby d13_1) rfl (by decide +kernel) (cap := 2) (by decide +kernel) (by decide) (by decide) (by decide) (ad := "[B") (by decide +kernel)
  obtain ⟨b2, g2⟩ : ∃ z, z = h0.size := ⟨_, rfl⟩
  rw [← g2] at A2 Ex2 st2
  have O2 : Old Z n0 h2 := O0.ext E2
  have bd_b2 : h0.size ≤ b2 := Nat.le_of_eq g2.symm
  have g_b2 : n0 ≤ b2 := Nat.le_trans (own_z O0) bd_b2
  have sz_b2 : h0.size ≤ b2 := Nat.le_trans (Nat.le_refl _) bd_b2
  have lt_b2 : b2 < h2.size := A2.lt
  have V2 : Arv Z h2 b2 k2 .byte (2 : Int32) [] (.int (0 : Int32)) := Arv.new A2 (by decide +kernel)
  have f9 : Arv Z h2 a1 k5 .char (2 : Int32) [(.int p3), (.int p4)] (.int (0 : Int32)) := (V6.ext E2)
  obtain ⟨_, _, ⟨T10, L10, k10, n10⟩, -, X10, ⟨Lc10, hQ10, l10, y10, z10⟩, st10⟩ := Jvm.LawKit.callS X2 hx (y := M_7) hown (mvT hZ (hw _ (gw 71 rfl))) (mvT hZ (hw _ (gw 72 rfl))) (mvT hZ (hw _ (gw 69 rfl))) (mvT hZ (hw _ (gw 73 rfl))) (by decide) (backOf (W := 0) (rm14_13 l Z a0 hw [] a1 b2 p3 p4 k5 k2 h2 n0  O2 f9 hk7 V2 g_b2 Ex2 (Nat.ne_of_lt (Nat.lt_of_lt_of_le lt_a1 bd_b2)) hk8) hZ (hw _ (gw 73 rfl)) (hw _ (gw 69 rfl)) (by decide) (by decide)) (g := (mkF m 9 #[.val (.ref a1), .val (.int (0 : Int32)), .val (.int (2 : Int32)), .val (.ref b2), .unset, .unset] [(.int (2 : Int32)), (.int (0 : Int32)), (.ref b2), (.int (0 : Int32)), (.ref a1)])) rfl (by rw [hml]; rfl) (argsL := [(.ref a1), (.int (0 : Int32)), (.ref b2), (.int (0 : Int32)), (.int (2 : Int32))]) (rest := []) (lenOf pd_7 rfl) rfl (by show 2 * 0 + _ ≤ _; exact Nat.le_of_eq rfl) (hb hby d13_9) (fun _ _ => ⟨rfl, e2, (by decide : 1 + 0 ≤ _), (by decide : 2 + 0 ≤ _)⟩)
  dsimp only [Pt.U, Pt.locs, Pt.cells, Pt.slots] at X10 l10 y10 z10 st10 hQ10
  subst l10 y10 z10
  obtain ⟨i11, i12, u13, u14, rfl, u16, Ku17, u18, u19⟩ := hQ10
  have Ou17 : Old Z n0 T10.heap := O2.keep Ku17 (allS g_b2 all0)
  have N10 := Fr.app N0 u16
  obtain ⟨fs, hr, hrun, hended, hW, hsame⟩ := X10.leave (v := some (.ref b2)) (fun h => by rw [Bd.returns] at h; cases h)
  refine ⟨_, _, pre0 _ ?_, hrun, hended, _, _, rfl, ?_, ⟨_, rfl⟩, hW, hsame.mono (by decide) (by decide)⟩
  · show Steps p.tables e below (s₁.setTop (mkF m 0 #[.val (.ref a1), .val (.int (0 : Int32)), .val (.int (2 : Int32)), .unset, .unset, .unset] [])) _
    refine XS.iloadN X0.here hx rfl (hb hby d13_0) rfl ?_
    refine st2 _ ?_
    refine XS.astoreN X2.here hx rfl (hb hby d13_3) rfl rfl (l' := #[.val (.ref a1), .val (.int (0 : Int32)), .val (.int (2 : Int32)), .val (.ref b2), .unset, .unset]) rfl ?_
    refine XS.aloadN X2.here hx rfl (hb hby d13_4) rfl rfl ?_
    refine XS.iloadN X2.here hx rfl (hb hby d13_5) rfl ?_
    refine XS.aloadN X2.here hx rfl (hb hby d13_6) rfl rfl ?_
    refine XS.iconst X2.here hx rfl (hb hby d13_7) ?_
    refine XS.iloadN X2.here hx rfl (hb hby d13_8) rfl ?_
    refine st10 _ ?_
    show Steps p.tables e below (T10.setTop (mkF m 12 #[.val (.ref a1), .val (.int (0 : Int32)), .val (.int (2 : Int32)), .val (.ref b2), .unset, .unset] [(.int (2 : Int32))])) _
    refine XS.istore X10.here hx rfl (hb hby d13_12) rfl (l' := #[.val (.ref a1), .val (.int (0 : Int32)), .val (.int (2 : Int32)), .val (.ref b2), .val (.int (2 : Int32)), .unset]) rfl ?_
    refine XS.iload X10.here hx rfl (hb hby d13_14) rfl ?_
    refine XS.iloadN X10.here hx rfl (hb hby d13_16) rfl ?_
    refine XS.icmpYes X10.here hx rfl (pc0 := 17) (pc' := 57) rfl (hb hby d13_17) rfl (teq (by decide +kernel : (2 : Int32) = (2 : Int32))).1 (by decide) (by decide) ?_
    refine XS.aloadN X10.here hx rfl (hb hby d13_57) rfl rfl ?_
    show Steps p.tables e below (T10.setTop (mkF m 58 #[.val (.ref a1), .val (.int (0 : Int32)), .val (.int (2 : Int32)), .val (.ref b2), .val (.int (2 : Int32)), .unset] [(.ref b2)])) _
    jvm_step X10.here [X10.here.top, hx, (hb hby d13_58), X10.method', Bd.returns, Value.isRef, FieldType.isReference]
    first | (intro acts; rw [hr _ acts rfl rfl rfl]) | rw [hr _ _ rfl rfl rfl]
    exact Steps.refl _
  · show Q13_12 Z _ _ _ _ h0 n0 _ T10.heap _
    exact ⟨i11, i12, b2, k2, u13, u14, rfl, N10, sz_b2, (Nat.lt_of_lt_of_le lt_b2 Ku17.1), (((Keep.refl h0 []).ext E2).trans Ku17 (allS (Or.inr sz_b2) all0)), u18, u19⟩
theorem ef_rm15_14 (m : MethodId) (x0 : Addr) : entryFrame m #[(.ref x0), (.int (2 : Int32))] 2 = mkF m 0 #[.val (.ref x0), .val (.int (2 : Int32))] [] := by first | (simp [entryFrame, mkF, argsToLocals, Value.category]; done) | rfl
def Q15_14 (Z : State) (a1 : Addr) (p2 : Int32) (p3 : Int32) (k4 : ClassId) (h0 : Heap) (n0 : Nat) (v : Option Value) (h : Heap) (L : List Loc) : Prop := (v = some (.int (0 : Int32)) ∧ Fr n0 L ∧ h = h0)
set_option maxRecDepth 65536 in
set_option maxHeartbeats 40000000 in
theorem rm15_14 (l : Launch) (Z : State) (a0 : Array Value) (hw : ∀ d ∈ own_ws, d.before a0 Z = true) (ws : List Jvm.Cond) (a1 : Addr) (p2 : Int32) (p3 : Int32) (k4 : ClassId) (h0 : Heap) (n0 : Nat) (O0 : Old Z n0 h0) (V5 : Arv Z h0 a1 k4 .byte (2 : Int32) [(.int p2), (.int p3)] (.int (0 : Int32))) :
    MetFree l M_9 (head1 (Jvm.Cond.code M_9 jdk_52_method_15_code 2 (some .byte) :: ws) ({ frames := 0, cells := 0, slots := 0, locals := 0 } : Room)) (fun a U => a = #[(.ref a1), (.int (2 : Int32))] ∧ Z.Warmed39 U.vm ∧ U.heap = h0) (fun _ _ _ _ _ => True) (fun _ U o U' => ∃ v L, o = .returned v ∧ Q15_14 Z a1 p2 p3 k4 h0 n0 v U'.heap L ∧ FrameEnd U o U' L ({ frames := 0, cells := 0, slots := 0, locals := 0 } : Room).cells ({ frames := 0, cells := 0, slots := 0, locals := 0 } : Room).slots) := by
  refine MetFree.of_bodySF (plainFor_of_name pn_3) hisR ?_
  intro p e s m args below meth c s₁ Bd hml0 hP hK
  obtain ⟨rfl, hZ, hh⟩ := hP
  have hx := Bd.exec
  have hby := Bd.bytes
  have hml : c.maxLocals = 2 := hml0
  have hown : s.vm.findClass "java/lang/StringUTF16" = some m.cls := findClass_of_methodNamed Bd.named
  have hnm := (name_of_methodNamed Bd.named Bd.method).1
  have X0 : Stand p l e ({ frames := 0, cells := 0, slots := 0, locals := 0 } : Room) s m #[(.ref a1), (.int (2 : Int32))] below meth c s₁ [] 0 0 := Stand.of_body Bd
  have e0 : s₁.heap = h0 := by rw [← hh, Bd.state]; rfl
  have N0 := Fr.nil n0
  have pre0 : ∀ t, Steps p.tables e below (s₁.setTop (mkF m 0 #[.val (.ref a1), .val (.int (2 : Int32))] [])) t → Steps p.tables e below (s₁.setTop (entryFrame m #[(.ref a1), (.int (2 : Int32))] 2)) t := fun t k => castTop (ef_rm15_14 m a1) k
  obtain ⟨cl6, Ar6, -, Sz6, Nn6, -, -⟩ := id V5
  obtain ⟨fs, hr, hrun, hended, hW, hsame⟩ := X0.leave (v := some (.int (0 : Int32))) (fun h => by rw [Bd.returns] at h; cases h)
  refine ⟨_, _, pre0 _ ?_, hrun, hended, _, _, rfl, ?_, ⟨_, rfl⟩, hW, hsame.mono (by decide) (by decide)⟩
  · show Steps p.tables e below (s₁.setTop (mkF m 0 #[.val (.ref a1), .val (.int (2 : Int32))] [])) _
    refine XS.iloadN X0.here hx rfl (hb hby d15_0) rfl ?_
    refine XS.aloadN X0.here hx rfl (hb hby d15_1) rfl rfl ?_
    refine X0.arraylength hx (by rw [e0]; exact Ar6.1) (State.isArrayOf_alike hZ.alike Ar6.2.1) (g := (mkF m 2 #[.val (.ref a1), .val (.int (2 : Int32))] [(.ref a1), (.int (2 : Int32))])) rfl rfl (hb hby d15_2) _ ?_
    rw [len_of Sz6 Nn6]
    refine XS.isub X0.here hx rfl (hb hby d15_3) rfl ?_
    show Steps p.tables e below (s₁.setTop (mkF m 4 #[.val (.ref a1), .val (.int (2 : Int32))] [(.int ((2 : Int32) - (2 : Int32)))])) _
    rw [(by decide +kernel : ((2 : Int32) - (2 : Int32)) = (0 : Int32))]
    refine XS.bipush X0.here hx rfl (hb hby d15_4) ?_
    refine XS.iushr X0.here hx rfl (hb hby d15_6) rfl ?_
    show Steps p.tables e below (s₁.setTop (mkF m 7 #[.val (.ref a1), .val (.int (2 : Int32))] [(.int (((0 : Int32).toUInt32 >>> ((31 : Int32) &&& 31).toUInt32).toInt32))])) _
    rw [(by decide +kernel : (((0 : Int32).toUInt32 >>> ((31 : Int32) &&& 31).toUInt32).toInt32) = (0 : Int32))]
    refine XS.i2b X0.here hx rfl (hb hby d15_7) rfl ?_
    show Steps p.tables e below (s₁.setTop (mkF m 8 #[.val (.ref a1), .val (.int (2 : Int32))] [(.int ((0 : Int32).toInt8.toInt32))])) _
    rw [(by decide +kernel : ((0 : Int32).toInt8.toInt32) = (0 : Int32))]
    show Steps p.tables e below (s₁.setTop (mkF m 8 #[.val (.ref a1), .val (.int (2 : Int32))] [(.int (0 : Int32))])) _
    exact retN X0 hx (t := .byte) Bd.returns (by simp) (hb hby d15_8) hr
  · show Q15_14 Z _ _ _ _ h0 n0 _ s₁.heap _
    rw [e0]
    exact ⟨rfl, N0, rfl⟩
theorem ef_rm4_11 (m : MethodId) (x0 : Addr) (x1 : Addr) : entryFrame m #[(.ref x0), (.ref x1), (.int (0 : Int32)), (.int (2 : Int32)), .null] 6 = mkF m 0 #[.val (.ref x0), .val (.ref x1), .val (.int (0 : Int32)), .val (.int (2 : Int32)), .val .null, .unset] [] := by first | (simp [entryFrame, mkF, argsToLocals, Value.category]; done) | rfl
def Q4_11 (Z : State) (a1 : Addr) (a2 : Addr) (p4 : Int32) (p8 : Int32) (p9 : Int32) (k10 : ClassId) (h0 : Heap) (n0 : Nat) (v : Option Value) (h : Heap) (L : List Loc) : Prop := (∃ (i15 : Int32) (i16 : Int32) (b17 : Addr) (k18 : ClassId), i16 = (p8.toInt8.toInt32) ∧ i15 = (p9.toInt8.toInt32) ∧ v = none ∧ Fr n0 L ∧ h0.size ≤ b17 ∧ b17 < h.size ∧ Keep h0 h [a1] ∧ Exa Z h a1 C_0 ∧ Fld Z h a1 C_0 "coder" "B" (.int (0 : Int32)) ∧ Fld Z h a1 C_0 "value" "[B" (.ref b17) ∧ Exa Z h b17 "[B" ∧ Arv Z h b17 k18 .byte (2 : Int32) [(.int i16), (.int i15)] (.int (0 : Int32)))
set_option maxRecDepth 65536 in
set_option maxHeartbeats 40000000 in
theorem rm4_11 (l : Launch) (Z : State) (a0 : Array Value) (hw : ∀ d ∈ own_ws, d.before a0 Z = true) (ws : List Jvm.Cond) (a1 : Addr) (a2 : Addr) (p4 : Int32) (p8 : Int32) (p9 : Int32) (k10 : ClassId) (h0 : Heap) (n0 : Nat) (O0 : Old Z n0 h0) (S_5 : Sta Z Z.heap C_0 "COMPACT_STRINGS" "Z" (.int p4)) (hk7 : ¬ (p4 = (0 : Int32))) (V11 : Arv Z h0 a2 k10 .char (2 : Int32) [(.int p8), (.int p9)] (.int (0 : Int32))) (hk12 : ¬ ((255 : Int32) < p8)) (hk13 : ¬ ((255 : Int32) < p9)) (lt_a2 : a2 < h0.size) (E_32 : Exa Z h0 a1 C_0) (F33 : Fld Z h0 a1 C_0 "coder" "B" (.int (0 : Int32))) (F34 : Fld Z h0 a1 C_0 "value" "[B" .null) (g_a1 : n0 ≤ a1) (lt_a1 : a1 < h0.size) :
    MetFree l M_1 (head1 (Jvm.Cond.code M_1 jdk_42_method_149_code 6 none :: ws) ({ frames := 2, cells := 1, slots := 2, locals := 35 } : Room)) (fun a U => a = #[(.ref a1), (.ref a2), (.int (0 : Int32)), (.int (2 : Int32)), .null] ∧ Z.Warmed39 U.vm ∧ U.heap = h0) (fun _ _ _ _ _ => True) (fun _ U o U' => ∃ v L, o = .returned v ∧ Q4_11 Z a1 a2 p4 p8 p9 k10 h0 n0 v U'.heap L ∧ FrameEnd U o U' L ({ frames := 2, cells := 1, slots := 2, locals := 35 } : Room).cells ({ frames := 2, cells := 1, slots := 2, locals := 35 } : Room).slots) := by
  refine MetFree.of_bodySF (plainFor_of_name pn_1) hisR ?_
  intro p e s m args below meth c s₁ Bd hml0 hP hK
  obtain ⟨rfl, hZ, hh⟩ := hP
  have hx := Bd.exec
  have hby := Bd.bytes
  have hml : c.maxLocals = 6 := hml0
  have hown : s.vm.findClass "java/lang/String" = some m.cls := findClass_of_methodNamed Bd.named
  have hnm := (name_of_methodNamed Bd.named Bd.method).1
  have X0 : Stand p l e ({ frames := 2, cells := 1, slots := 2, locals := 35 } : Room) s m #[(.ref a1), (.ref a2), (.int (0 : Int32)), (.int (2 : Int32)), .null] below meth c s₁ [] 0 0 := Stand.of_body Bd
  have e0 : s₁.heap = h0 := by rw [← hh, Bd.state]; rfl
  have N0 := Fr.nil n0
  have pre0 : ∀ t, Steps p.tables e below (s₁.setTop (mkF m 0 #[.val (.ref a1), .val (.ref a2), .val (.int (0 : Int32)), .val (.int (2 : Int32)), .val .null, .unset] [])) t → Steps p.tables e below (s₁.setTop (entryFrame m #[(.ref a1), (.ref a2), (.int (0 : Int32)), (.int (2 : Int32)), .null] 6)) t := fun t k => castTop (ef_rm4_11 m a1 a2) k
  obtain ⟨T3, X3, e3, st3⟩ := initO X0 hx hZ hown (hw _ (gw 18 rfl)) (hw _ (gw 19 rfl)) (hw _ (gw 20 rfl)) e0 (g := (mkF m 1 #[.val (.ref a1), .val (.ref a2), .val (.int (0 : Int32)), .val (.int (2 : Int32)), .val .null, .unset] [(.ref a1)])) rfl (by rw [hml]; rfl) rfl (hb hby d4_1) (by decide) (W := 0) (by show 2 * 0 + _ ≤ _; exact Nat.le_of_eq rfl) (by decide)
  obtain ⟨T6, X6, e6, st6⟩ := getS2 X3 hx hZ hown (host := "") (Or.inl (hw _ (gw 55 rfl))) Via.refl e3 (Sta.ext O0.2 S_5) (g := (mkF m 27 #[.val (.ref a1), .val (.ref a2), .val (.int (0 : Int32)), .val (.int (2 : Int32)), .val .null, .unset] [])) rfl (hb hby d4_27)
  obtain ⟨_, _, ⟨T14, L14, k14, n14⟩, -, X14, ⟨Lc14, hQ14, l14, y14, z14⟩, st14⟩ := Jvm.LawKit.callS X6 hx (y := M_8) hown (mvT hZ (hw _ (gw 67 rfl))) (mvT hZ (hw _ (gw 68 rfl))) (mvT hZ (hw _ (gw 69 rfl))) (mvT hZ (hw _ (gw 70 rfl))) (by decide) (backOf (W := 0) (rm13_12 l Z a0 hw [] a2 p8 p9 k10 h0 n0  O0 V11 hk12 lt_a2 hk13) hZ (hw _ (gw 70 rfl)) (hw _ (gw 69 rfl)) (by decide) (by decide)) (g := (mkF m 36 #[.val (.ref a1), .val (.ref a2), .val (.int (0 : Int32)), .val (.int (2 : Int32)), .val .null, .unset] [(.int (2 : Int32)), (.int (0 : Int32)), (.ref a2)])) rfl (by rw [hml]; rfl) (argsL := [(.ref a2), (.int (0 : Int32)), (.int (2 : Int32))]) (rest := []) (lenOf pd_8 rfl) rfl (by show 2 * 0 + _ ≤ _; exact Nat.le_of_eq rfl) (hb hby d4_36) (fun _ _ => ⟨rfl, e6, (by decide : 0 + 1 ≤ _), (by decide : 0 + 2 ≤ _)⟩)
  dsimp only [Pt.U, Pt.locs, Pt.cells, Pt.slots] at X14 l14 y14 z14 st14 hQ14
  subst l14 y14 z14
  obtain ⟨i15, i16, b17, k18, u19, u20, rfl, u22, u23, u24, Ku25, u26, u27⟩ := hQ14
  have Ou25 : Old Z n0 T14.heap := O0.keep Ku25 all0
  have g_b17 : n0 ≤ b17 := Nat.le_trans (own_z O0) u23
  have sz_b17 : h0.size ≤ b17 := Nat.le_trans (Nat.le_refl _) u23
  have N14 := Fr.app N0 u22
  obtain ⟨_, _, ⟨T28, L28, k28, n28⟩, -, X28, ⟨Lc28, hQ28, l28, y28, z28⟩, st28⟩ := Jvm.LawKit.callS X14 hx (y := M_9) hown (mvT hZ (hw _ (gw 74 rfl))) (mvT hZ (hw _ (gw 75 rfl))) (mvT hZ (hw _ (gw 69 rfl))) (mvT hZ (hw _ (gw 76 rfl))) (by decide) (backOf (W := 1) (rm15_14 l Z a0 hw [] b17 i16 i15 k18 T14.heap n0  Ou25 u27) hZ (hw _ (gw 76 rfl)) (hw _ (gw 69 rfl)) (by decide) (by decide)) (g := (mkF m 45 #[.val (.ref a1), .val (.ref a2), .val (.int (0 : Int32)), .val (.int (2 : Int32)), .val .null, .val (.ref b17)] [(.int (2 : Int32)), (.ref b17), (.ref a1)])) rfl (by rw [hml]; rfl) (argsL := [(.ref b17), (.int (2 : Int32))]) (rest := [(.ref a1)]) (lenOf pd_9 rfl) rfl (by show 2 * 0 + _ ≤ _; exact Nat.le_of_eq rfl) (hb hby d4_45) (fun _ _ => ⟨rfl, rfl, (by decide : 1 + 0 ≤ _), (by decide : 2 + 0 ≤ _)⟩)
  dsimp only [Pt.U, Pt.locs, Pt.cells, Pt.slots] at X28 l28 y28 z28 st28 hQ28
  subst l28 y28 z28
  obtain ⟨rfl, u30, u31⟩ := hQ28
  have N28 := Fr.app N14 u30
  have f35 : Fld Z T14.heap a1 C_0 "coder" "B" (.int (0 : Int32)) := (F33.keep Ku25 nin0)
  have f36 : Exa Z T14.heap a1 C_0 := (E_32.keep Ku25)
  obtain ⟨T37, h37, X37, e37, W37, st37⟩ := putFN X28 hx hZ hown (hw _ (gw 28 rfl)) Via.refl u31 f35 f36 (Or.inr ⟨(hw _ (gw 24 rfl)), rfl, hnm⟩) (hw _ (gw 8 rfl)) (ty := .byte) (v' := (.int (0 : Int32))) (by decide) (by exact congrArg Value.int (by decide +kernel : (nar .byte (0 : Int32)) = (0 : Int32))) ((by decide +kernel : (nar .byte (0 : Int32)) = (0 : Int32)) ▸ fits_nar_byte _) (g := (mkF m 48 #[.val (.ref a1), .val (.ref a2), .val (.int (0 : Int32)), .val (.int (2 : Int32)), .val .null, .val (.ref b17)] [(.int (0 : Int32)), (.ref a1)])) rfl rfl (hb hby d4_48)
  have O37 : Old Z n0 h37 := Ou25.wr W37 g_a1
  have Fw37 : Fld Z h37 a1 C_0 "coder" "B" (.int (0 : Int32)) := Fld.same W37 f35
  have N37 := Fr.snoc X37 N28 g_a1
  have f38 : Fld Z h37 a1 C_0 "value" "[B" .null := (Fld.other W37 (F34.keep Ku25 nin0) (Or.inr (slot_ne (Or.inr (hw _ (gw 23 rfl))) (Or.inr (hw _ (gw 24 rfl))) (by decide) (t := (.array .byte)) (t' := .byte) (by decide) (by decide))))
  have f39 : Exa Z h37 a1 C_0 := (Exa.wr W37 f36)
  obtain ⟨T40, h40, X40, e40, W40, st40⟩ := putF X37 hx hZ hown (host := "") (Or.inl (hw _ (gw 27 rfl))) Via.refl e37 f38 f39 (Or.inr ⟨(hw _ (gw 23 rfl)), rfl, hnm⟩) (hw _ (gw 8 rfl)) (ty := (.array .byte)) (by decide) rfl rfl (g := (mkF m 54 #[.val (.ref a1), .val (.ref a2), .val (.int (0 : Int32)), .val (.int (2 : Int32)), .val .null, .val (.ref b17)] [(.ref b17), (.ref a1)])) rfl rfl (hb hby d4_54)
  have O40 : Old Z n0 h40 := O37.wr W40 g_a1
  have Fw40 : Fld Z h40 a1 C_0 "value" "[B" (.ref b17) := Fld.same W40 f38
  have N40 := Fr.snoc X40 N37 g_a1
  obtain ⟨fs, hr, hrun, hended, hW, hsame⟩ := X40.leave (v := none) (fun _ => rfl)
  have f41 : Exa Z h40 a1 C_0 := (Exa.wr W40 f39)
  have f42 : Fld Z h40 a1 C_0 "coder" "B" (.int (0 : Int32)) := (Fld.other W40 Fw37 (Or.inr (slot_ne (Or.inr (hw _ (gw 24 rfl))) (Or.inr (hw _ (gw 23 rfl))) (by decide) (t := .byte) (t' := (.array .byte)) (by decide) (by decide))))
  have f43 : Exa Z h40 b17 "[B" := (Exa.wr W40 (Exa.wr W37 u26))
  have f44 : Arv Z h40 b17 k18 .byte (2 : Int32) [(.int i16), (.int i15)] (.int (0 : Int32)) := ((u27.other W37 (Ne.symm (Nat.ne_of_lt (Nat.lt_of_lt_of_le lt_a1 u23)))).other W40 (Ne.symm (Nat.ne_of_lt (Nat.lt_of_lt_of_le lt_a1 u23))))
  refine ⟨_, _, pre0 _ ?_, hrun, hended, _, _, rfl, ?_, ⟨_, rfl⟩, hW, hsame.mono (by decide) (by decide)⟩
  · show Steps p.tables e below (s₁.setTop (mkF m 0 #[.val (.ref a1), .val (.ref a2), .val (.int (0 : Int32)), .val (.int (2 : Int32)), .val .null, .unset] [])) _
    refine XS.aloadN X0.here hx rfl (hb hby d4_0) rfl rfl ?_
    refine st3 _ ?_
    refine XS.iloadN X3.here hx rfl (hb hby d4_4) rfl ?_
    refine XS.ifYes X3.here hx rfl (pc0 := 5) (pc' := 27) rfl (hb hby d4_5) rfl ((if0 _ _).trans (feq (by decide +kernel : ¬ ((2 : Int32) = (0 : Int32)))).2) (by decide) (by decide) ?_
    refine st6 _ ?_
    refine XS.ifNo X6.here hx rfl (hb hby d4_30) rfl ((if0 _ _).trans (feq hk7).1) ?_
    refine XS.aloadN X6.here hx rfl (hb hby d4_33) rfl rfl ?_
    refine XS.iloadN X6.here hx rfl (hb hby d4_34) rfl ?_
    refine XS.iloadN X6.here hx rfl (hb hby d4_35) rfl ?_
    show Steps p.tables e below (T6.setTop (mkF m 36 #[.val (.ref a1), .val (.ref a2), .val (.int (0 : Int32)), .val (.int (2 : Int32)), .val .null, .unset] [(.int (2 : Int32)), (.int (0 : Int32)), (.ref a2)])) _
    refine st14 _ ?_
    refine XS.astore X14.here hx rfl (hb hby d4_39) rfl rfl (l' := #[.val (.ref a1), .val (.ref a2), .val (.int (0 : Int32)), .val (.int (2 : Int32)), .val .null, .val (.ref b17)]) rfl ?_
    refine XS.aloadN X14.here hx rfl (hb hby d4_41) rfl rfl ?_
    refine XS.aload X14.here hx rfl (hb hby d4_42) rfl rfl ?_
    refine XS.iloadN X14.here hx rfl (hb hby d4_44) rfl ?_
    refine st28 _ ?_
    refine st37 _ ?_
    refine XS.aloadN X37.here hx rfl (hb hby d4_51) rfl rfl ?_
    refine XS.aload X37.here hx rfl (hb hby d4_52) rfl rfl ?_
    show Steps p.tables e below (T37.setTop (mkF m 54 #[.val (.ref a1), .val (.ref a2), .val (.int (0 : Int32)), .val (.int (2 : Int32)), .val .null, .val (.ref b17)] [(.ref b17), (.ref a1)])) _
    refine st40 _ ?_
    show Steps p.tables e below (T40.setTop (mkF m 57 #[.val (.ref a1), .val (.ref a2), .val (.int (0 : Int32)), .val (.int (2 : Int32)), .val .null, .val (.ref b17)] [])) _
    exact X40.returnOut hx Bd.returns (hb hby d4_57) hr
  · show Q4_11 Z _ _ _ _ _ _ h0 n0 _ T40.heap _
    rw [e40]
    exact ⟨i15, i16, b17, k18, u19, u20, rfl, N40, sz_b17, (Nat.lt_of_lt_of_le (Nat.lt_of_lt_of_le u24 (Keep.of_wr W37).1) (Keep.of_wr W40).1), ((((Keep.refl h0 [a1]).trans Ku25 all0).wr W37 (Or.inl (List.mem_of_getElem? (i := 0) rfl))).wr W40 (Or.inl (List.mem_of_getElem? (i := 0) rfl))), f41, f42, Fw40, f43, f44⟩
theorem ef_rm3_10 (m : MethodId) (x0 : Addr) (x1 : Addr) : entryFrame m #[(.ref x0), (.ref x1)] 2 = mkF m 0 #[.val (.ref x0), .val (.ref x1)] [] := by first | (simp [entryFrame, mkF, argsToLocals, Value.category]; done) | rfl
def Q3_10 (Z : State) (a1 : Addr) (a2 : Addr) (p3 : Int32) (p4 : Int32) (k5 : ClassId) (p8 : Int32) (h0 : Heap) (n0 : Nat) (v : Option Value) (h : Heap) (L : List Loc) : Prop := (∃ (i17 : Int32) (i18 : Int32) (b19 : Addr) (k20 : ClassId), i18 = (p3.toInt8.toInt32) ∧ i17 = (p4.toInt8.toInt32) ∧ v = none ∧ Fr n0 L ∧ h0.size ≤ b19 ∧ b19 < h.size ∧ Keep h0 h [a1] ∧ Exa Z h a1 C_0 ∧ Fld Z h a1 C_0 "coder" "B" (.int (0 : Int32)) ∧ Fld Z h a1 C_0 "value" "[B" (.ref b19) ∧ Exa Z h b19 "[B" ∧ Arv Z h b19 k20 .byte (2 : Int32) [(.int i18), (.int i17)] (.int (0 : Int32)))
set_option maxRecDepth 65536 in
set_option maxHeartbeats 40000000 in
theorem rm3_10 (l : Launch) (Z : State) (a0 : Array Value) (hw : ∀ d ∈ own_ws, d.before a0 Z = true) (ws : List Jvm.Cond) (a1 : Addr) (a2 : Addr) (p3 : Int32) (p4 : Int32) (k5 : ClassId) (p8 : Int32) (h0 : Heap) (n0 : Nat) (O0 : Old Z n0 h0) (V6 : Arv Z h0 a2 k5 .char (2 : Int32) [(.int p3), (.int p4)] (.int (0 : Int32))) (S_9 : Sta Z Z.heap C_0 "COMPACT_STRINGS" "Z" (.int p8)) (hk10 : ¬ (p8 = (0 : Int32))) (hk11 : ¬ ((255 : Int32) < p3)) (hk12 : ¬ ((255 : Int32) < p4)) (E_13 : Exa Z h0 a1 C_0) (F14 : Fld Z h0 a1 C_0 "coder" "B" (.int (0 : Int32))) (F15 : Fld Z h0 a1 C_0 "value" "[B" .null) (lt_a2 : a2 < h0.size) (g_a1 : n0 ≤ a1) (lt_a1 : a1 < h0.size) :
    MetFree l M_2 (head1 (Jvm.Cond.code M_2 jdk_42_method_3_code 2 none :: ws) ({ frames := 3, cells := 1, slots := 2, locals := 52 } : Room)) (fun a U => a = #[(.ref a1), (.ref a2)] ∧ Z.Warmed39 U.vm ∧ U.heap = h0) (fun _ _ _ _ _ => True) (fun _ U o U' => ∃ v L, o = .returned v ∧ Q3_10 Z a1 a2 p3 p4 k5 p8 h0 n0 v U'.heap L ∧ FrameEnd U o U' L ({ frames := 3, cells := 1, slots := 2, locals := 52 } : Room).cells ({ frames := 3, cells := 1, slots := 2, locals := 52 } : Room).slots) := by
  refine MetFree.of_bodySF (plainFor_of_name pn_1) hisR ?_
  intro p e s m args below meth c s₁ Bd hml0 hP hK
  obtain ⟨rfl, hZ, hh⟩ := hP
  have hx := Bd.exec
  have hby := Bd.bytes
  have hml : c.maxLocals = 2 := hml0
  have hown : s.vm.findClass "java/lang/String" = some m.cls := findClass_of_methodNamed Bd.named
  have hnm := (name_of_methodNamed Bd.named Bd.method).1
  have X0 : Stand p l e ({ frames := 3, cells := 1, slots := 2, locals := 52 } : Room) s m #[(.ref a1), (.ref a2)] below meth c s₁ [] 0 0 := Stand.of_body Bd
  have e0 : s₁.heap = h0 := by rw [← hh, Bd.state]; rfl
  have N0 := Fr.nil n0
  have pre0 : ∀ t, Steps p.tables e below (s₁.setTop (mkF m 0 #[.val (.ref a1), .val (.ref a2)] [])) t → Steps p.tables e below (s₁.setTop (entryFrame m #[(.ref a1), (.ref a2)] 2)) t := fun t k => castTop (ef_rm3_10 m a1 a2) k
  obtain ⟨cl7, Ar7, -, Sz7, Nn7, -, -⟩ := id V6
  obtain ⟨_, _, ⟨T16, L16, k16, n16⟩, -, X16, ⟨Lc16, hQ16, l16, y16, z16⟩, st16⟩ := X0.specialBack hx (y := M_1) rfl hown (mvT hZ (hw _ (gw 14 rfl))) (mvT hZ (hw _ (gw 15 rfl))) (mvT hZ (hw _ (gw 17 rfl))) (by decide) (backOf (W := 0) (rm4_11 l Z a0 hw [] a1 a2 p8 p3 p4 k5 h0 n0  O0 S_9 hk10 V6 hk11 hk12 lt_a2 E_13 F14 F15 g_a1 lt_a1) hZ (hw _ (gw 17 rfl)) (hw _ (gw 9 rfl)) (by decide) (by decide)) (g := (mkF m 6 #[.val (.ref a1), .val (.ref a2)] [.null, (.int (2 : Int32)), (.int (0 : Int32)), (.ref a2), (.ref a1)])) rfl (by rw [hml]; rfl) (Steps.refl _) (a := a1) (argsL := [(.ref a2), (.int (0 : Int32)), (.int (2 : Int32)), .null]) (rest := []) (lenOf pd_1 rfl) rfl (by show 2 * 0 + _ ≤ _; exact Nat.le_of_eq rfl) (hb hby d3_6) (fun _ _ => ⟨rfl, e0, (by decide : 0 + 1 ≤ _), (by decide : 0 + 2 ≤ _)⟩)
  dsimp only [Pt.U, Pt.locs, Pt.cells, Pt.slots] at X16 l16 y16 z16 st16 hQ16
  subst l16 y16 z16
  obtain ⟨i17, i18, b19, k20, u21, u22, rfl, u24, u25, u26, Ku27, u28, u29, u30, u31, u32⟩ := hQ16
  have Ou27 : Old Z n0 T16.heap := O0.keep Ku27 (allS g_a1 all0)
  have g_b19 : n0 ≤ b19 := Nat.le_trans (own_z O0) u25
  have sz_b19 : h0.size ≤ b19 := Nat.le_trans (Nat.le_refl _) u25
  have N16 := Fr.app N0 u24
  obtain ⟨fs, hr, hrun, hended, hW, hsame⟩ := X16.leave (v := none) (fun _ => rfl)
  refine ⟨_, _, pre0 _ ?_, hrun, hended, _, _, rfl, ?_, ⟨_, rfl⟩, hW, hsame.mono (by decide) (by decide)⟩
  · show Steps p.tables e below (s₁.setTop (mkF m 0 #[.val (.ref a1), .val (.ref a2)] [])) _
    refine XS.aloadN X0.here hx rfl (hb hby d3_0) rfl rfl ?_
    refine XS.aloadN X0.here hx rfl (hb hby d3_1) rfl rfl ?_
    refine XS.iconst X0.here hx rfl (hb hby d3_2) ?_
    refine XS.aloadN X0.here hx rfl (hb hby d3_3) rfl rfl ?_
    refine X0.arraylength hx (by rw [e0]; exact Ar7.1) (State.isArrayOf_alike hZ.alike Ar7.2.1) (g := (mkF m 4 #[.val (.ref a1), .val (.ref a2)] [(.ref a2), (.int (0 : Int32)), (.ref a2), (.ref a1)])) rfl rfl (hb hby d3_4) _ ?_
    rw [len_of Sz7 Nn7]
    refine XS.aconstNull X0.here hx rfl (hb hby d3_5) ?_
    refine st16.trans ?_
    show Steps p.tables e below (T16.setTop (mkF m 9 #[.val (.ref a1), .val (.ref a2)] [])) _
    exact X16.returnOut hx Bd.returns (hb hby d3_9) hr
  · show Q3_10 Z _ _ _ _ _ _ h0 n0 _ T16.heap _
    exact ⟨i17, i18, b19, k20, u21, u22, rfl, N16, sz_b19, u26, ((Keep.refl h0 [a1]).trans Ku27 (allS (Or.inl (List.mem_of_getElem? (i := 0) rfl)) all0)), u28, u29, u30, u31, u32⟩
theorem ef_rm1_2 (m : MethodId) (x0 : Int32) : entryFrame m #[(.int x0)] 5 = mkF m 0 #[.val (.int x0), .unset, .unset, .unset, .unset] [] := by first | (simp [entryFrame, mkF, argsToLocals, Value.category]; done) | rfl
def Q1_2 (Z : State) (p1 : Int32) (p47 : Int32) (h0 : Heap) (n0 : Nat) (v : Option Value) (h : Heap) (L : List Loc) : Prop := (∃ (i7 : Int32) (i8 : Int32) (b31 : Addr) (b37 : Addr) (k38 : ClassId), (0 : Int32) = (i8 % (3 : Int32)) ∧ i8 = (i7 &&& (32767 : Int32)) ∧ i7 = ((p1.toUInt32 >>> ((16 : Int32) &&& 31).toUInt32).toInt32) ∧ v = some (.ref b31) ∧ Fr n0 L ∧ h0.size ≤ b31 ∧ b31 < h.size ∧ b37 < h.size ∧ Keep h0 h [] ∧ Exa Z h b31 C_0 ∧ Fld Z h b31 C_0 "coder" "B" (.int (0 : Int32)) ∧ Fld Z h b31 C_0 "value" "[B" (.ref b37) ∧ Arv Z h b37 k38 .byte (0 : Int32) [] (.int 0)) ∨ (∃ (i15 : Int32) (i16 : Int32) (i2 : Int32) (i51 : Int32) (b52 : Addr) (b53 : Addr) (k54 : ClassId), (1 : Int32) = (i16 % (3 : Int32)) ∧ i16 = (i15 &&& (32767 : Int32)) ∧ i51 = (i2.toInt8.toInt32) ∧ i2 = (p1 &&& (255 : Int32)) ∧ i15 = ((p1.toUInt32 >>> ((16 : Int32) &&& 31).toUInt32).toInt32) ∧ v = some (.ref b52) ∧ Fr n0 L ∧ h0.size ≤ b52 ∧ b52 < h.size ∧ h0.size ≤ b53 ∧ b53 < h.size ∧ b52 ≠ b53 ∧ Keep h0 h [] ∧ Exa Z h b52 C_0 ∧ Fld Z h b52 C_0 "coder" "B" (.int (0 : Int32)) ∧ Fld Z h b52 C_0 "value" "[B" (.ref b53) ∧ Exa Z h b53 "[B" ∧ Arv Z h b53 k54 .byte (1 : Int32) [(.int i51)] (.int (0 : Int32))) ∨ (∃ (i2 : Int32) (i23 : Int32) (i24 : Int32) (i3 : Int32) (i4 : Int32) (i81 : Int32) (i82 : Int32) (b77 : Addr) (b83 : Addr) (k84 : ClassId), (2 : Int32) = (i24 % (3 : Int32)) ∧ i24 = (i23 &&& (32767 : Int32)) ∧ i82 = (i2.toInt8.toInt32) ∧ i81 = (i4.toInt8.toInt32) ∧ i2 = (p1 &&& (255 : Int32)) ∧ i4 = (i3 &&& (255 : Int32)) ∧ i23 = ((p1.toUInt32 >>> ((16 : Int32) &&& 31).toUInt32).toInt32) ∧ i3 = ((p1.toUInt32 >>> ((8 : Int32) &&& 31).toUInt32).toInt32) ∧ v = some (.ref b77) ∧ Fr n0 L ∧ h0.size ≤ b77 ∧ b77 < h.size ∧ h0.size ≤ b83 ∧ b83 < h.size ∧ b77 ≠ b83 ∧ Keep h0 h [] ∧ Exa Z h b77 C_0 ∧ Fld Z h b77 C_0 "coder" "B" (.int (0 : Int32)) ∧ Fld Z h b77 C_0 "value" "[B" (.ref b83) ∧ Exa Z h b83 "[B" ∧ Arv Z h b83 k84 .byte (2 : Int32) [(.int i82), (.int i81)] (.int (0 : Int32)))
set_option maxRecDepth 65536 in
set_option maxHeartbeats 40000000 in
theorem rm1_2 (l : Launch) (Z : State) (a0 : Array Value) (hw : ∀ d ∈ own_ws, d.before a0 Z = true) (ws : List Jvm.Cond) (p1 : Int32) (p47 : Int32) (h0 : Heap) (n0 : Nat) (O0 : Old Z n0 h0) (S_48 : Sta Z Z.heap C_0 "COMPACT_STRINGS" "Z" (.int p47)) (hk49 : ¬ (p47 = (0 : Int32))) :
    MetFree l M_10 (head1 (Jvm.Cond.code M_10 method_3_code 5 (some (.object "java/lang/String")) :: ws) ({ frames := 4, cells := 6, slots := 12, locals := 66 } : Room)) (fun a U => a = #[(.int p1)] ∧ Z.Warmed39 U.vm ∧ U.heap = h0 ∧ CHv Z own_EL U.vm h0) (fun _ _ _ _ _ => True) (fun _ U o U' => ∃ v L, o = .returned v ∧ Q1_2 Z p1 p47 h0 n0 v U'.heap L ∧ CHr Z own_EL U.vm U.heap U'.vm U'.heap ∧ ReturnedEndW U o U' L ({ frames := 4, cells := 6, slots := 12, locals := 66 } : Room).cells ({ frames := 4, cells := 6, slots := 12, locals := 66 } : Room).slots) := by
  refine MetFree.of_bodySF (plainFor_of_name pn_0) hisR ?_
  intro p e s m args below meth c s₁ Bd hml0 hP hK
  obtain ⟨rfl, hZ, hh, hCH⟩ := hP
  have hx := Bd.exec
  have hby := Bd.bytes
  have hml : c.maxLocals = 5 := hml0
  have hown : s.vm.findClass "com/example/vestry/vestry/NumeralEqualsPinLaw" = some m.cls := findClass_of_methodNamed Bd.named
  have hnm := (name_of_methodNamed Bd.named Bd.method).1
  have X0 : Stand p l e ({ frames := 4, cells := 6, slots := 12, locals := 66 } : Room) s m #[(.int p1)] below meth c s₁ [] 0 0 := Stand.of_body Bd
  have e0 : s₁.heap = h0 := by rw [← hh, Bd.state]; rfl
  have N0 := Fr.nil n0
  have Y0 : h0.size ≤ h0.size := Nat.le_refl _
  have hS0 : s.Since s.vm h0.size := (State.WarmedH.refl s).since _
  have CR0 : CHr Z own_EL s.vm h0 s.vm h0 := CHr.refl hCH
  have pre0 : ∀ t, Steps p.tables e below (s₁.setTop (mkF m 0 #[.val (.int p1), .unset, .unset, .unset, .unset] [])) t → Steps p.tables e below (s₁.setTop (entryFrame m #[(.int p1)] 5)) t := fun t k => castTop (ef_rm1_2 m p1) k
  obtain ⟨i2, hi2⟩ : ∃ z, z = (p1 &&& (255 : Int32)) := ⟨_, rfl⟩
  obtain ⟨i3, hi3⟩ : ∃ z, z = ((p1.toUInt32 >>> ((8 : Int32) &&& 31).toUInt32).toInt32) := ⟨_, rfl⟩
  obtain ⟨i4, hi4⟩ : ∃ z, z = (i3 &&& (255 : Int32)) := ⟨_, rfl⟩
  have pre6 : ∀ t, Steps p.tables e below (s₁.setTop (mkF m 18 #[.val (.int p1), .val (.int i2), .val (.int i4), .unset, .unset] [(.int p1)])) t → Steps p.tables e below (s₁.setTop (entryFrame m #[(.int p1)] 5)) t := by
    intro t kt
    refine pre0 t ?_
    show Steps p.tables e below (s₁.setTop (mkF m 0 #[.val (.int p1), .unset, .unset, .unset, .unset] [])) _
    refine XS.iloadN X0.here hx rfl (hb hby d1_0) rfl ?_
    refine XS.sipush X0.here hx rfl (hb hby d1_1) ?_
    refine XS.iand X0.here hx rfl (hb hby d1_4) rfl ?_
    show Steps p.tables e below (s₁.setTop (mkF m 5 #[.val (.int p1), .unset, .unset, .unset, .unset] [(.int (p1 &&& (255 : Int32)))])) _
    rw [← hi2]
    refine XS.i2c X0.here hx rfl (hb hby d1_5) rfl ?_
    show Steps p.tables e below (s₁.setTop (mkF m 6 #[.val (.int p1), .unset, .unset, .unset, .unset] [(.int (i2.toUInt32.toUInt16.toUInt32.toInt32))])) _
    rw [(own_i2c255 hi2)]
    refine XS.istoreN X0.here hx rfl (hb hby d1_6) rfl (l' := #[.val (.int p1), .val (.int i2), .unset, .unset, .unset]) rfl ?_
    refine XS.iloadN X0.here hx rfl (hb hby d1_7) rfl ?_
    refine XS.bipush X0.here hx rfl (hb hby d1_8) ?_
    refine XS.iushr X0.here hx rfl (hb hby d1_10) rfl ?_
    show Steps p.tables e below (s₁.setTop (mkF m 11 #[.val (.int p1), .val (.int i2), .unset, .unset, .unset] [(.int ((p1.toUInt32 >>> ((8 : Int32) &&& 31).toUInt32).toInt32))])) _
    rw [← hi3]
    refine XS.sipush X0.here hx rfl (hb hby d1_11) ?_
    refine XS.iand X0.here hx rfl (hb hby d1_14) rfl ?_
    show Steps p.tables e below (s₁.setTop (mkF m 15 #[.val (.int p1), .val (.int i2), .unset, .unset, .unset] [(.int (i3 &&& (255 : Int32)))])) _
    rw [← hi4]
    refine XS.i2c X0.here hx rfl (hb hby d1_15) rfl ?_
    show Steps p.tables e below (s₁.setTop (mkF m 16 #[.val (.int p1), .val (.int i2), .unset, .unset, .unset] [(.int (i4.toUInt32.toUInt16.toUInt32.toInt32))])) _
    rw [(own_i2c255 hi4)]
    refine XS.istoreN X0.here hx rfl (hb hby d1_16) rfl (l' := #[.val (.int p1), .val (.int i2), .val (.int i4), .unset, .unset]) rfl ?_
    refine XS.iloadN X0.here hx rfl (hb hby d1_17) rfl ?_
    show Steps p.tables e below (s₁.setTop (mkF m 18 #[.val (.int p1), .val (.int i2), .val (.int i4), .unset, .unset] [(.int p1)])) _
    exact kt
  obtain ⟨_, _, ⟨T5, L5, k5, n5⟩, -, X5, ⟨Lc5, hQ5, l5, y5, z5⟩, st5⟩ := Jvm.LawKit.callS X0 hx (y := M_0) hown (mvT hZ (hw _ (gw 4 rfl))) (mvT hZ (hw _ (gw 5 rfl))) (mvT hZ (hw _ (gw 2 rfl))) (mvT hZ (hw _ (gw 6 rfl))) (by decide) (backOf (W := 0) (rm2_3 l Z a0 hw [] p1 h0 n0  O0) hZ (hw _ (gw 6 rfl)) (hw _ (gw 2 rfl)) (by decide) (by decide)) (g := (mkF m 18 #[.val (.int p1), .val (.int i2), .val (.int i4), .unset, .unset] [(.int p1)])) rfl (by rw [hml]; rfl) (argsL := [(.int p1)]) (rest := []) (lenOf pd_0 rfl) rfl (by show 2 * 0 + _ ≤ _; exact Nat.le_of_eq rfl) (hb hby d1_18) (fun _ _ => ⟨rfl, e0, (by decide : 0 + 0 ≤ _), (by decide : 0 + 0 ≤ _)⟩)
  dsimp only [Pt.U, Pt.locs, Pt.cells, Pt.slots] at X5 l5 y5 z5 st5 hQ5
  subst l5 y5 z5
  rcases hQ5 with ⟨i7, i8, u9, u10, u11, rfl, u13, u14⟩ | ⟨i15, i16, u17, u18, u19, rfl, u21, u22⟩ | ⟨i23, i24, u25, u26, u27, rfl, u29, u30⟩
  · skip
    have N5 := Fr.app N0 u13
    obtain ⟨T31, h31, X31, e31, E31, A31, D31, -, st31⟩ := newO X5 hx hZ hown (hw _ (gw 7 rfl)) (hw _ (gw 8 rfl)) (hw _ (gw 9 rfl)) u14 (g := (mkF m 26 #[.val (.int p1), .val (.int i2), .val (.int i4), .val (.int (0 : Int32)), .unset] [])) rfl (hb hby d1_26) (by decide) (by decide)
    obtain ⟨b31, g31⟩ : ∃ z, z = h0.size := ⟨_, rfl⟩
    rw [← g31] at A31 D31 st31
    have O31 : Old Z n0 h31 := O0.ext E31
    have ch31 := CHr.ext E31 CR0.1
    have CR31 := CR0.trans ch31
    have bd_b31 : h0.size ≤ b31 := Nat.le_of_eq g31.symm
    have g_b31 : n0 ≤ b31 := Nat.le_trans (own_z O0) bd_b31
    have sz_b31 : h0.size ≤ b31 := Nat.le_trans (Nat.le_refl _) bd_b31
    have lt_b31 : b31 < h31.size := A31.lt
    have sfb_b31 : Safe Z own_EL s.vm h31 b31 := Safe.ext E31 CR0.1 (Safe.new bd_b31)
    have D31_23 : Fld Z h31 b31 C_0 "value" "[B" .null := D31 (Or.inr (hw _ (gw 23 rfl))) (ty := (.array .byte)) (by decide)
    have D31_24 : Fld Z h31 b31 C_0 "coder" "B" (.int (0 : Int32)) := D31 (Or.inr (hw _ (gw 24 rfl))) (ty := .byte) (by decide)
    obtain ⟨T32, h32, k32, X32, e32, E32, A32, Ex32, st32⟩ := newPE X31 hx hZ (hw _ (gw 10 rfl)) e31 (g := (mkF m 31 #[.val (.int p1), .val (.int i2), .val (.int i4), .val (.int (0 : Int32)), .unset] [(.int (0 : Int32)), (.ref b31), (.ref b31)])) rfl (hb hby d1_31) rfl (by decide +kernel) (cap := 0) (by decide +kernel) (by decide) (by decide) (by decide) (ad := "[C") (by decide +kernel)
    obtain ⟨b32, g32⟩ : ∃ z, z = h31.size := ⟨_, rfl⟩
    rw [← g32] at A32 Ex32 st32
    have O32 : Old Z n0 h32 := O31.ext E32
    have ch32 := CHr.ext E32 CR31.1
    have CR32 := CR31.trans ch32
    have bd_b32 : h31.size ≤ b32 := Nat.le_of_eq g32.symm
    have g_b32 : n0 ≤ b32 := Nat.le_trans (own_z O31) bd_b32
    have sz_b32 : h0.size ≤ b32 := Nat.le_trans E31.1 bd_b32
    have lt_b32 : b32 < h32.size := A32.lt
    have sfb_b32 : Safe Z own_EL s.vm h32 b32 := Safe.ext E32 CR31.1 (Safe.new bd_b32)
    have V32 : Arv Z h32 b32 k32 .char (0 : Int32) [] (.int (0 : Int32)) := Arv.new A32 (by decide +kernel)
    have f33 : Exa Z h32 b31 C_0 := (Exa.ext E32 A31)
    have f34 : Fld Z h32 b31 C_0 "coder" "B" (.int (0 : Int32)) := (Fld.ext E32 D31_24)
    have f35 : Fld Z h32 b31 C_0 "value" "[B" .null := (Fld.ext E32 D31_23)
    obtain ⟨_, _, ⟨T36, L36, k36, n36⟩, -, X36, sn36, gr36, ⟨Lc36, hQ36, l36, y36, z36, cg36⟩, st36⟩ := X32.specialBackS hx (y := M_2) rfl hown (mvT hZ (hw _ (gw 11 rfl))) (mvT hZ (hw _ (gw 12 rfl))) (mvT hZ (hw _ (gw 13 rfl))) (by decide) (backOfSH (s := s) (vm0 := s.vm) (EL := own_EL) (W := 1) (rm3_4 l Z a0 hw [] b31 b32 k32 h32 n0  O32 V32 f33 f34 f35 g_b31 (Nat.lt_of_lt_of_le lt_b31 E32.1)) hZ (hw _ (gw 13 rfl)) (hw _ (gw 9 rfl)) (by decide) (by decide) (own_EW hw) CR32.1) (g := (mkF m 33 #[.val (.int p1), .val (.int i2), .val (.int i4), .val (.int (0 : Int32)), .unset] [(.ref b32), (.ref b31), (.ref b31)])) rfl (by rw [hml]; rfl) (Steps.refl _) (a := b31) (argsL := [(.ref b32)]) (rest := [(.ref b31)]) (lenOf pd_2 rfl) rfl (by show 2 * 0 + _ ≤ _; exact Nat.le_of_eq rfl) (hb hby d1_33) (fun _ _ => ⟨rfl, e32, (by decide : 2 + 4 ≤ _), (by decide : 4 + 8 ≤ _)⟩)
    dsimp only [Pt.U, Pt.locs, Pt.cells, Pt.slots] at X36 l36 y36 z36 st36 hQ36 sn36 gr36 cg36
    subst l36 y36 z36
    have gs36 : h32.size ≤ T36.heap.size := by have q := gr36; rw [e32] at q; exact q
    have hS36 : s.Since T36.vm T36.heap.size := hS0.trans sn36 (Nat.le_trans (Nat.le_trans (Nat.le_trans Y0 E31.1) E32.1) gs36)
    have hZ36 : Z.Warmed39 (s.setVm T36.vm).vm := State.Warmed39.trans (t := s) hZ sn36.1
    have hown36 : (s.setVm T36.vm).vm.findClass "com/example/vestry/vestry/NumeralEqualsPinLaw" = some m.cls := by rw [show (s.setVm T36.vm).vm = T36.vm from rfl, sn36.1.alike.findClass]; exact hown
    obtain ⟨b37, k38, rfl, u40, u41, Ku42, u43, u44, u45, u46⟩ := hQ36
    have Ou42 : Old Z n0 T36.heap := O32.keep Ku42 (allS g_b31 all0)
    have chu42 := cg36
    have CRu42 := CR32.trans chu42
    have N36 := Fr.app N5 u40
    obtain ⟨fs, hr, hrun, hended, hEnd⟩ := X36.leaveW (s := s) (vm₁ := T36.vm) hS36 (Nat.le_refl _) (v := some (.ref b31)) (fun h => by rw [Bd.returns] at h; cases h)
    have cfin : CHr Z own_EL s.vm s.heap (T36.setFrames fs).vm (T36.setFrames fs).heap := by
      show CHr Z own_EL s.vm s.heap T36.vm T36.heap
      rw [hh]; exact CRu42.trans (CHv.at (s := s) (vm0 := T36.vm) X36 hZ36 (own_EW hw) CRu42.1)
    refine ⟨_, _, pre6 _ ?_, hrun, hended, _, _, rfl, ?_, cfin, hEnd.1, hEnd.2.1, hEnd.2.2.1, hEnd.2.2.2.mono (by decide) (by decide)⟩
    · refine st5 _ ?_
      show Steps p.tables e below (T5.setTop (mkF m 21 #[.val (.int p1), .val (.int i2), .val (.int i4), .unset, .unset] [(.int (0 : Int32))])) _
      refine XS.istoreN X5.here hx rfl (hb hby d1_21) rfl (l' := #[.val (.int p1), .val (.int i2), .val (.int i4), .val (.int (0 : Int32)), .unset]) rfl ?_
      refine XS.iloadN X5.here hx rfl (hb hby d1_22) rfl ?_
      refine XS.ifNo X5.here hx rfl (hb hby d1_23) rfl ((if0 _ _).trans (teq (by decide +kernel : (0 : Int32) = (0 : Int32))).2) ?_
      refine st31 _ ?_
      refine XS.dup X31.here hx rfl (hb hby d1_29) rfl rfl ?_
      refine XS.iconst X31.here hx rfl (hb hby d1_30) ?_
      refine st32 _ ?_
      refine st36.trans ?_
      show Steps p.tables e below (T36.setTop (mkF m 36 #[.val (.int p1), .val (.int i2), .val (.int i4), .val (.int (0 : Int32)), .unset] [(.ref b31)])) _
      jvm_step X36.here [X36.here.top, hx, (hb hby d1_36), X36.method', Bd.returns, Value.isRef, FieldType.isReference]
      first | (intro acts; rw [hr _ acts rfl rfl rfl]) | rw [hr _ _ rfl rfl rfl]
      exact Steps.refl _
    · show Q1_2 Z _ _ h0 n0 _ T36.heap _
      exact Or.inl (⟨i7, i8, b31, b37, k38, u9, u10, u11, rfl, N36, sz_b31, (Nat.lt_of_lt_of_le (Nat.lt_of_lt_of_le lt_b31 E32.1) Ku42.1), u41, ((((Keep.refl h0 []).ext E31).ext E32).trans Ku42 (allS (Or.inr sz_b31) all0)), u43, u44, u45, u46⟩)
  · skip
    have N5 := Fr.app N0 u21
    obtain ⟨_, _, ⟨T50, L50, k50, n50⟩, -, X50, ⟨Lc50, hQ50, l50, y50, z50⟩, st50⟩ := Jvm.LawKit.callS X5 hx (y := M_6) hown (mvT hZ (hw _ (gw 52 rfl))) (mvT hZ (hw _ (gw 53 rfl))) (mvT hZ (hw _ (gw 9 rfl))) (mvT hZ (hw _ (gw 54 rfl))) (by decide) (backOf (W := 0) (rm9_6 l Z a0 hw [] i2 p47 h0 n0  O0 S_48 hk49 (own_lt255 hi2)) hZ (hw _ (gw 54 rfl)) (hw _ (gw 9 rfl)) (by decide) (by decide)) (g := (mkF m 43 #[.val (.int p1), .val (.int i2), .val (.int i4), .val (.int (1 : Int32)), .unset] [(.int i2)])) rfl (by rw [hml]; rfl) (argsL := [(.int i2)]) (rest := []) (lenOf pd_6 rfl) rfl (by show 2 * 0 + _ ≤ _; exact Nat.le_of_eq rfl) (hb hby d1_43) (fun _ _ => ⟨rfl, u22, (by decide : 0 + 2 ≤ _), (by decide : 0 + 5 ≤ _)⟩)
    dsimp only [Pt.U, Pt.locs, Pt.cells, Pt.slots] at X50 l50 y50 z50 st50 hQ50
    subst l50 y50 z50
    obtain ⟨i51, b52, b53, k54, u55, rfl, u57, u58, u59, u60, u61, u62, Ku63, u64, u65, u66, u67, u68⟩ := hQ50
    have Ou63 : Old Z n0 T50.heap := O0.keep Ku63 all0
    have chu63 := CHr.keep Ku63 all0 CR0.1
    have CRu63 := CR0.trans chu63
    have g_b52 : n0 ≤ b52 := Nat.le_trans (own_z O0) u58
    have sz_b52 : h0.size ≤ b52 := Nat.le_trans (Nat.le_refl _) u58
    have sfb_b52 : Safe Z own_EL s.vm T50.heap b52 := Safe.keep Ku63 all0 CR0.1 (Safe.new u58)
    have g_b53 : n0 ≤ b53 := Nat.le_trans (own_z O0) u60
    have sz_b53 : h0.size ≤ b53 := Nat.le_trans (Nat.le_refl _) u60
    have sfb_b53 : Safe Z own_EL s.vm T50.heap b53 := Safe.keep Ku63 all0 CR0.1 (Safe.new u60)
    have N50 := Fr.app N5 u57
    obtain ⟨fs, hr, hrun, hended, hEnd⟩ := X50.leaveW (s := s) (vm₁ := s.vm) hS0 (Nat.le_trans Y0 Ku63.1) (v := some (.ref b52)) (fun h => by rw [Bd.returns] at h; cases h)
    have cfin : CHr Z own_EL s.vm s.heap (T50.setFrames fs).vm (T50.setFrames fs).heap := by
      show CHr Z own_EL s.vm s.heap T50.vm T50.heap
      rw [hh]; exact CRu63.trans (CHv.at (s := s) (vm0 := s.vm) X50 hZ (own_EW hw) CRu63.1)
    refine ⟨_, _, pre6 _ ?_, hrun, hended, _, _, rfl, ?_, cfin, hEnd.1, hEnd.2.1, hEnd.2.2.1, hEnd.2.2.2.mono (by decide) (by decide)⟩
    · refine st5 _ ?_
      show Steps p.tables e below (T5.setTop (mkF m 21 #[.val (.int p1), .val (.int i2), .val (.int i4), .unset, .unset] [(.int (1 : Int32))])) _
      refine XS.istoreN X5.here hx rfl (hb hby d1_21) rfl (l' := #[.val (.int p1), .val (.int i2), .val (.int i4), .val (.int (1 : Int32)), .unset]) rfl ?_
      refine XS.iloadN X5.here hx rfl (hb hby d1_22) rfl ?_
      refine XS.ifYes X5.here hx rfl (pc0 := 23) (pc' := 37) rfl (hb hby d1_23) rfl ((if0 _ _).trans (feq (by decide +kernel : ¬ ((1 : Int32) = (0 : Int32)))).2) (by decide) (by decide) ?_
      refine XS.iloadN X5.here hx rfl (hb hby d1_37) rfl ?_
      refine XS.iconst X5.here hx rfl (hb hby d1_38) ?_
      refine XS.icmpNo X5.here hx rfl (hb hby d1_39) rfl (teq (by decide +kernel : (1 : Int32) = (1 : Int32))).2 ?_
      refine XS.iloadN X5.here hx rfl (hb hby d1_42) rfl ?_
      refine st50 _ ?_
      show Steps p.tables e below (T50.setTop (mkF m 46 #[.val (.int p1), .val (.int i2), .val (.int i4), .val (.int (1 : Int32)), .unset] [(.ref b52)])) _
      jvm_step X50.here [X50.here.top, hx, (hb hby d1_46), X50.method', Bd.returns, Value.isRef, FieldType.isReference]
      first | (intro acts; rw [hr _ acts rfl rfl rfl]) | rw [hr _ _ rfl rfl rfl]
      exact Steps.refl _
    · show Q1_2 Z _ _ h0 n0 _ T50.heap _
      exact Or.inr (Or.inl (⟨i15, i16, i2, i51, b52, b53, k54, u17, u18, u55, hi2, u19, rfl, N50, sz_b52, u59, sz_b53, u61, u62, ((Keep.refl h0 []).trans Ku63 all0), u64, u65, u66, u67, u68⟩))
  · skip
    have N5 := Fr.app N0 u29
    obtain ⟨T69, h69, k69, X69, e69, E69, A69, Ex69, st69⟩ := newPE X5 hx hZ (hw _ (gw 10 rfl)) u30 (g := (mkF m 48 #[.val (.int p1), .val (.int i2), .val (.int i4), .val (.int (2 : Int32)), .unset] [(.int (2 : Int32))])) rfl (hb hby d1_48) rfl (by decide +kernel) (cap := 2) (by decide +kernel) (by decide) (by decide) (by decide) (ad := "[C") (by decide +kernel)
    obtain ⟨b69, g69⟩ : ∃ z, z = h0.size := ⟨_, rfl⟩
    rw [← g69] at A69 Ex69 st69
    have O69 : Old Z n0 h69 := O0.ext E69
    have ch69 := CHr.ext E69 CR0.1
    have CR69 := CR0.trans ch69
    have bd_b69 : h0.size ≤ b69 := Nat.le_of_eq g69.symm
    have g_b69 : n0 ≤ b69 := Nat.le_trans (own_z O0) bd_b69
    have sz_b69 : h0.size ≤ b69 := Nat.le_trans (Nat.le_refl _) bd_b69
    have lt_b69 : b69 < h69.size := A69.lt
    have sfb_b69 : Safe Z own_EL s.vm h69 b69 := Safe.ext E69 CR0.1 (Safe.new bd_b69)
    have V69 : Arv Z h69 b69 k69 .char (2 : Int32) [] (.int (0 : Int32)) := Arv.new A69 (by decide +kernel)
    have Vp70 : Arv Z h69 b69 k69 .char (2 : Int32) [(.int (0 : Int32))] (.int (0 : Int32)) := V69.pad (pad_rep [] (.int (0 : Int32)) 1)
    obtain ⟨cl71, Ar71, qk71, Sz71, Nn71, Hh71, Gg71⟩ := id Vp70
    have hin71 : ¬ ((0 : Int32) < 0 ∨ cl71.slots.size ≤ ((0 : Int32)).toNatClampNeg) := inb_of Sz71 ⟨by decide +kernel, by decide +kernel⟩
    obtain ⟨T72, h72, X72, e72, W72, st72⟩ := stC X69 hx hZ e69 Ar71 (j := (0 : Int32)) hin71 (g := (mkF m 56 #[.val (.int p1), .val (.int i2), .val (.int i4), .val (.int (2 : Int32)), .val (.ref b69)] [(.int i2), (.int (0 : Int32)), (.ref b69)])) rfl rfl (hb hby d1_56)
    rw [show (nar .char i2) = i2 from (own_nar255 hi2)] at W72
    have O72 : Old Z n0 h72 := O69.wr W72 g_b69
    have ch72 := CHr.wr W72 (Safe.exa hZ.alike Ex69 (by decide) (by decide)) CR69.1
    have CR72 := CR69.trans ch72
    have V72 : Arv Z h72 b69 k69 .char (2 : Int32) [(.int i2)] (.int (0 : Int32)) := Arv.set Ar71 qk71 Sz71 Nn71 Hh71 Gg71 ((own_nar255 hi2) ▸ fits_nar_char _) W72 0 rfl (Nat.le_of_ble_eq_true rfl)
    have N72 := Fr.snoc X72 N5 g_b69
    have Vp73 : Arv Z h72 b69 k69 .char (2 : Int32) [(.int i2), (.int (0 : Int32))] (.int (0 : Int32)) := V72.pad (pad_rep [(.int i2)] (.int (0 : Int32)) 1)
    have f74 : Exa Z h72 b69 "[C" := (Exa.wr W72 Ex69)
    obtain ⟨cl75, Ar75, qk75, Sz75, Nn75, Hh75, Gg75⟩ := id Vp73
    have hin75 : ¬ ((1 : Int32) < 0 ∨ cl75.slots.size ≤ ((1 : Int32)).toNatClampNeg) := inb_of Sz75 ⟨by decide +kernel, by decide +kernel⟩
    obtain ⟨T76, h76, X76, e76, W76, st76⟩ := stC X72 hx hZ e72 Ar75 (j := (1 : Int32)) hin75 (g := (mkF m 61 #[.val (.int p1), .val (.int i2), .val (.int i4), .val (.int (2 : Int32)), .val (.ref b69)] [(.int i4), (.int (1 : Int32)), (.ref b69)])) rfl rfl (hb hby d1_61)
    rw [show (nar .char i4) = i4 from (own_nar255 hi4)] at W76
    have O76 : Old Z n0 h76 := O72.wr W76 g_b69
    have ch76 := CHr.wr W76 (Safe.exa hZ.alike f74 (by decide) (by decide)) CR72.1
    have CR76 := CR72.trans ch76
    have V76 : Arv Z h76 b69 k69 .char (2 : Int32) [(.int i2), (.int i4)] (.int (0 : Int32)) := Arv.set Ar75 qk75 Sz75 Nn75 Hh75 Gg75 ((own_nar255 hi4) ▸ fits_nar_char _) W76 1 rfl (Nat.le_of_ble_eq_true rfl)
    have N76 := Fr.snoc X76 N72 g_b69
    obtain ⟨T77, h77, X77, e77, E77, A77, D77, -, st77⟩ := newO X76 hx hZ hown (hw _ (gw 7 rfl)) (hw _ (gw 8 rfl)) (hw _ (gw 9 rfl)) e76 (g := (mkF m 62 #[.val (.int p1), .val (.int i2), .val (.int i4), .val (.int (2 : Int32)), .val (.ref b69)] [])) rfl (hb hby d1_62) (by decide) (by decide)
    obtain ⟨b77, g77⟩ : ∃ z, z = h76.size := ⟨_, rfl⟩
    rw [← g77] at A77 D77 st77
    have O77 : Old Z n0 h77 := O76.ext E77
    have ch77 := CHr.ext E77 CR76.1
    have CR77 := CR76.trans ch77
    have bd_b77 : h76.size ≤ b77 := Nat.le_of_eq g77.symm
    have g_b77 : n0 ≤ b77 := Nat.le_trans (own_z O76) bd_b77
    have sz_b77 : h0.size ≤ b77 := Nat.le_trans (Nat.le_trans (Nat.le_trans E69.1 (Keep.of_wr W72).1) (Keep.of_wr W76).1) bd_b77
    have lt_b77 : b77 < h77.size := A77.lt
    have sfb_b77 : Safe Z own_EL s.vm h77 b77 := Safe.ext E77 CR76.1 (Safe.new bd_b77)
    have D77_23 : Fld Z h77 b77 C_0 "value" "[B" .null := D77 (Or.inr (hw _ (gw 23 rfl))) (ty := (.array .byte)) (by decide)
    have D77_24 : Fld Z h77 b77 C_0 "coder" "B" (.int (0 : Int32)) := D77 (Or.inr (hw _ (gw 24 rfl))) (ty := .byte) (by decide)
    have f78 : Arv Z h77 b69 k69 .char (2 : Int32) [(.int i2), (.int i4)] (.int (0 : Int32)) := (V76.ext E77)
    have sf80 : Safe Z own_EL s.vm h77 b77 := sfb_b77
    obtain ⟨_, _, ⟨T79, L79, k79, n79⟩, -, X79, ⟨Lc79, hQ79, l79, y79, z79⟩, st79⟩ := X77.specialBack hx (y := M_2) rfl hown (mvT hZ (hw _ (gw 11 rfl))) (mvT hZ (hw _ (gw 12 rfl))) (mvT hZ (hw _ (gw 13 rfl))) (by decide) (backOf (W := 1) (rm3_10 l Z a0 hw [] b77 b69 i2 i4 k69 p47 h77 n0  O77 f78 S_48 hk49 (own_lt255 hi2) (own_lt255 hi4) A77 D77_24 D77_23 (Nat.lt_of_lt_of_le (Nat.lt_of_lt_of_le (Nat.lt_of_lt_of_le lt_b69 (Keep.of_wr W72).1) (Keep.of_wr W76).1) E77.1) g_b77 lt_b77) hZ (hw _ (gw 13 rfl)) (hw _ (gw 9 rfl)) (by decide) (by decide)) (g := (mkF m 68 #[.val (.int p1), .val (.int i2), .val (.int i4), .val (.int (2 : Int32)), .val (.ref b69)] [(.ref b69), (.ref b77), (.ref b77)])) rfl (by rw [hml]; rfl) (Steps.refl _) (a := b77) (argsL := [(.ref b69)]) (rest := [(.ref b77)]) (lenOf pd_2 rfl) rfl (by show 2 * 0 + _ ≤ _; exact Nat.le_of_eq rfl) (hb hby d1_68) (fun _ _ => ⟨rfl, e77, (by decide : 2 + 1 ≤ _), (by decide : 6 + 2 ≤ _)⟩)
    dsimp only [Pt.U, Pt.locs, Pt.cells, Pt.slots] at X79 l79 y79 z79 st79 hQ79
    subst l79 y79 z79
    obtain ⟨i81, i82, b83, k84, u85, u86, rfl, u88, u89, u90, Ku91, u92, u93, u94, u95, u96⟩ := hQ79
    have Ou91 : Old Z n0 T79.heap := O77.keep Ku91 (allS g_b77 all0)
    have chu91 := CHr.keep Ku91 (allS sf80 all0) CR77.1
    have CRu91 := CR77.trans chu91
    have g_b83 : n0 ≤ b83 := Nat.le_trans (own_z O77) u89
    have sz_b83 : h0.size ≤ b83 := Nat.le_trans (Nat.le_trans (Nat.le_trans (Nat.le_trans E69.1 (Keep.of_wr W72).1) (Keep.of_wr W76).1) E77.1) u89
    have sfb_b83 : Safe Z own_EL s.vm T79.heap b83 := Safe.keep Ku91 (allS sf80 all0) CR77.1 (Safe.new u89)
    have N79 := Fr.app N76 u88
    obtain ⟨fs, hr, hrun, hended, hEnd⟩ := X79.leaveW (s := s) (vm₁ := s.vm) hS0 (Nat.le_trans (Nat.le_trans (Nat.le_trans (Nat.le_trans (Nat.le_trans Y0 E69.1) (Keep.of_wr W72).1) (Keep.of_wr W76).1) E77.1) Ku91.1) (v := some (.ref b77)) (fun h => by rw [Bd.returns] at h; cases h)
    have cfin : CHr Z own_EL s.vm s.heap (T79.setFrames fs).vm (T79.setFrames fs).heap := by
      show CHr Z own_EL s.vm s.heap T79.vm T79.heap
      rw [hh]; exact CRu91.trans (CHv.at (s := s) (vm0 := s.vm) X79 hZ (own_EW hw) CRu91.1)
    refine ⟨_, _, pre6 _ ?_, hrun, hended, _, _, rfl, ?_, cfin, hEnd.1, hEnd.2.1, hEnd.2.2.1, hEnd.2.2.2.mono (by decide) (by decide)⟩
    · refine st5 _ ?_
      show Steps p.tables e below (T5.setTop (mkF m 21 #[.val (.int p1), .val (.int i2), .val (.int i4), .unset, .unset] [(.int (2 : Int32))])) _
      refine XS.istoreN X5.here hx rfl (hb hby d1_21) rfl (l' := #[.val (.int p1), .val (.int i2), .val (.int i4), .val (.int (2 : Int32)), .unset]) rfl ?_
      refine XS.iloadN X5.here hx rfl (hb hby d1_22) rfl ?_
      refine XS.ifYes X5.here hx rfl (pc0 := 23) (pc' := 37) rfl (hb hby d1_23) rfl ((if0 _ _).trans (feq (by decide +kernel : ¬ ((2 : Int32) = (0 : Int32)))).2) (by decide) (by decide) ?_
      refine XS.iloadN X5.here hx rfl (hb hby d1_37) rfl ?_
      refine XS.iconst X5.here hx rfl (hb hby d1_38) ?_
      refine XS.icmpYes X5.here hx rfl (pc0 := 39) (pc' := 47) rfl (hb hby d1_39) rfl (feq (by decide +kernel : ¬ ((2 : Int32) = (1 : Int32)))).2 (by decide) (by decide) ?_
      refine XS.iconst X5.here hx rfl (hb hby d1_47) ?_
      refine st69 _ ?_
      refine XS.astore X69.here hx rfl (hb hby d1_50) rfl rfl (l' := #[.val (.int p1), .val (.int i2), .val (.int i4), .val (.int (2 : Int32)), .val (.ref b69)]) rfl ?_
      show Steps p.tables e below (T69.setTop (mkF m 52 #[.val (.int p1), .val (.int i2), .val (.int i4), .val (.int (2 : Int32)), .val (.ref b69)] [])) _
      refine XS.aload X69.here hx rfl (hb hby d1_52) rfl rfl ?_
      refine XS.iconst X69.here hx rfl (hb hby d1_54) ?_
      refine XS.iloadN X69.here hx rfl (hb hby d1_55) rfl ?_
      refine st72 _ ?_
      refine XS.aload X72.here hx rfl (hb hby d1_57) rfl rfl ?_
      refine XS.iconst X72.here hx rfl (hb hby d1_59) ?_
      refine XS.iloadN X72.here hx rfl (hb hby d1_60) rfl ?_
      refine st76 _ ?_
      refine st77 _ ?_
      show Steps p.tables e below (T77.setTop (mkF m 65 #[.val (.int p1), .val (.int i2), .val (.int i4), .val (.int (2 : Int32)), .val (.ref b69)] [(.ref b77)])) _
      refine XS.dup X77.here hx rfl (hb hby d1_65) rfl rfl ?_
      refine XS.aload X77.here hx rfl (hb hby d1_66) rfl rfl ?_
      refine st79.trans ?_
      show Steps p.tables e below (T79.setTop (mkF m 71 #[.val (.int p1), .val (.int i2), .val (.int i4), .val (.int (2 : Int32)), .val (.ref b69)] [(.ref b77)])) _
      jvm_step X79.here [X79.here.top, hx, (hb hby d1_71), X79.method', Bd.returns, Value.isRef, FieldType.isReference]
      first | (intro acts; rw [hr _ acts rfl rfl rfl]) | rw [hr _ _ rfl rfl rfl]
      exact Steps.refl _
    · show Q1_2 Z _ _ h0 n0 _ T79.heap _
      exact Or.inr (Or.inr (⟨i2, i23, i24, i3, i4, i81, i82, b77, b83, k84, u25, u26, u85, u86, hi2, hi4, u27, hi3, rfl, N79, sz_b77, (Nat.lt_of_lt_of_le lt_b77 Ku91.1), sz_b83, u90, (Nat.ne_of_lt (Nat.lt_of_lt_of_le lt_b77 u89)), ((((((Keep.refl h0 []).ext E69).wr W72 (Or.inr sz_b69)).wr W76 (Or.inr sz_b69)).ext E77).trans Ku91 (allS (Or.inr sz_b77) all0)), u92, u93, u94, u95, u96⟩))
theorem ef_rm6_15 (m : MethodId) (x0 : Addr) (x1 : Addr) : entryFrame m #[(.ref x0), (.ref x1)] 2 = mkF m 0 #[.val (.ref x0), .val (.ref x1)] [] := by first | (simp [entryFrame, mkF, argsToLocals, Value.category]; done) | rfl
def Q6_15 (Z : State) (a1 : Addr) (a2 : Addr) (h0 : Heap) (n0 : Nat) (v : Option Value) (h : Heap) (L : List Loc) : Prop := (v = none ∧ Fr n0 L ∧ Keep h0 h [a1] ∧ Exa Z h a1 C_1 ∧ Fld Z h a1 C_1 "written" C_2 (.ref a2))
set_option maxRecDepth 65536 in
set_option maxHeartbeats 40000000 in
theorem rm6_15 (l : Launch) (Z : State) (a0 : Array Value) (hw : ∀ d ∈ own_ws, d.before a0 Z = true) (ws : List Jvm.Cond) (a1 : Addr) (a2 : Addr) (h0 : Heap) (n0 : Nat) (O0 : Old Z n0 h0) (E_4 : Exa Z h0 a1 C_1) (F5 : Fld Z h0 a1 C_1 "written" C_2 .null) (g_a1 : n0 ≤ a1) :
    MetFree l M_11 (head1 (Jvm.Cond.code M_11 prog_67_method_1_code 2 none :: ws) ({ frames := 1, cells := 0, slots := 0, locals := 12 } : Room)) (fun a U => a = #[(.ref a1), (.ref a2)] ∧ Z.Warmed39 U.vm ∧ U.heap = h0) (fun _ _ _ _ _ => True) (fun _ U o U' => ∃ v L, o = .returned v ∧ Q6_15 Z a1 a2 h0 n0 v U'.heap L ∧ FrameEnd U o U' L ({ frames := 1, cells := 0, slots := 0, locals := 12 } : Room).cells ({ frames := 1, cells := 0, slots := 0, locals := 12 } : Room).slots) := by
  refine MetFree.of_bodySF (plainFor_of_name pn_4) hisR ?_
  intro p e s m args below meth c s₁ Bd hml0 hP hK
  obtain ⟨rfl, hZ, hh⟩ := hP
  have hx := Bd.exec
  have hby := Bd.bytes
  have hml : c.maxLocals = 2 := hml0
  have hown : s.vm.findClass "com/example/vestry/vestry/JsonText$Numeral" = some m.cls := findClass_of_methodNamed Bd.named
  have hnm := (name_of_methodNamed Bd.named Bd.method).1
  have X0 : Stand p l e ({ frames := 1, cells := 0, slots := 0, locals := 12 } : Room) s m #[(.ref a1), (.ref a2)] below meth c s₁ [] 0 0 := Stand.of_body Bd
  have e0 : s₁.heap = h0 := by rw [← hh, Bd.state]; rfl
  have N0 := Fr.nil n0
  have pre0 : ∀ t, Steps p.tables e below (s₁.setTop (mkF m 0 #[.val (.ref a1), .val (.ref a2)] [])) t → Steps p.tables e below (s₁.setTop (entryFrame m #[(.ref a1), (.ref a2)] 2)) t := fun t k => castTop (ef_rm6_15 m a1 a2) k
  obtain ⟨T3, X3, e3, st3⟩ := initO X0 hx hZ hown (hw _ (gw 35 rfl)) (hw _ (gw 19 rfl)) (hw _ (gw 20 rfl)) e0 (g := (mkF m 1 #[.val (.ref a1), .val (.ref a2)] [(.ref a1)])) rfl (by rw [hml]; rfl) rfl (hb hby d6_1) (by decide) (W := 0) (by show 2 * 0 + _ ≤ _; exact Nat.le_of_eq rfl) (by decide)
  obtain ⟨T6, h6, X6, e6, W6, st6⟩ := putF X3 hx hZ hown (host := "") (Or.inl (hw _ (gw 36 rfl))) Via.refl e3 F5 E_4 (Or.inr ⟨(hw _ (gw 37 rfl)), rfl, hnm⟩) (hw _ (gw 30 rfl)) (ty := (.object "java/lang/String")) (by decide) rfl rfl (g := (mkF m 6 #[.val (.ref a1), .val (.ref a2)] [(.ref a2), (.ref a1)])) rfl rfl (hb hby d6_6)
  have O6 : Old Z n0 h6 := O0.wr W6 g_a1
  have Fw6 : Fld Z h6 a1 C_1 "written" C_2 (.ref a2) := Fld.same W6 F5
  have N6 := Fr.snoc X6 N0 g_a1
  obtain ⟨fs, hr, hrun, hended, hW, hsame⟩ := X6.leave (v := none) (fun _ => rfl)
  have f7 : Exa Z h6 a1 C_1 := (Exa.wr W6 E_4)
  refine ⟨_, _, pre0 _ ?_, hrun, hended, _, _, rfl, ?_, ⟨_, rfl⟩, hW, hsame.mono (by decide) (by decide)⟩
  · show Steps p.tables e below (s₁.setTop (mkF m 0 #[.val (.ref a1), .val (.ref a2)] [])) _
    refine XS.aloadN X0.here hx rfl (hb hby d6_0) rfl rfl ?_
    refine st3 _ ?_
    refine XS.aloadN X3.here hx rfl (hb hby d6_4) rfl rfl ?_
    refine XS.aloadN X3.here hx rfl (hb hby d6_5) rfl rfl ?_
    refine st6 _ ?_
    show Steps p.tables e below (T6.setTop (mkF m 9 #[.val (.ref a1), .val (.ref a2)] [])) _
    exact X6.returnOut hx Bd.returns (hb hby d6_9) hr
  · show Q6_15 Z _ _ h0 n0 _ T6.heap _
    rw [e6]
    exact ⟨rfl, N6, ((Keep.refl h0 [a1]).wr W6 (Or.inl (List.mem_of_getElem? (i := 0) rfl))), f7, Fw6⟩
theorem ef_rm16_16 (m : MethodId) (x0 : Int32) (x1 : Int32) : entryFrame m #[(.int x0), (.int x1)] 4 = mkF m 0 #[.val (.int x0), .val (.int x1), .unset, .unset] [] := by first | (simp [entryFrame, mkF, argsToLocals, Value.category]; done) | rfl
def Q16_16 (Z : State) (p1 : Int32) (p2 : Int32) (h0 : Heap) (n0 : Nat) (v : Option Value) (h : Heap) (L : List Loc) : Prop := (∃ (i31 : Int32) (i32 : Int32) (i5 : Int32) (i6 : Int32), (0 : Int32) = (i6 % (3 : Int32)) ∧ (0 : Int32) = (i32 % (3 : Int32)) ∧ i6 = (i5 &&& (32767 : Int32)) ∧ i32 = (i31 &&& (32767 : Int32)) ∧ i5 = ((p1.toUInt32 >>> ((16 : Int32) &&& 31).toUInt32).toInt32) ∧ i31 = ((p2.toUInt32 >>> ((16 : Int32) &&& 31).toUInt32).toInt32) ∧ v = some (.int (1 : Int32)) ∧ Fr n0 L ∧ h = h0) ∨ (∃ (i39 : Int32) (i40 : Int32) (i5 : Int32) (i6 : Int32), (0 : Int32) = (i6 % (3 : Int32)) ∧ (1 : Int32) = (i40 % (3 : Int32)) ∧ i6 = (i5 &&& (32767 : Int32)) ∧ i40 = (i39 &&& (32767 : Int32)) ∧ i5 = ((p1.toUInt32 >>> ((16 : Int32) &&& 31).toUInt32).toInt32) ∧ i39 = ((p2.toUInt32 >>> ((16 : Int32) &&& 31).toUInt32).toInt32) ∧ v = some (.int (0 : Int32)) ∧ Fr n0 L ∧ h = h0) ∨ (∃ (i47 : Int32) (i48 : Int32) (i5 : Int32) (i6 : Int32), (0 : Int32) = (i6 % (3 : Int32)) ∧ (2 : Int32) = (i48 % (3 : Int32)) ∧ i6 = (i5 &&& (32767 : Int32)) ∧ i48 = (i47 &&& (32767 : Int32)) ∧ i5 = ((p1.toUInt32 >>> ((16 : Int32) &&& 31).toUInt32).toInt32) ∧ i47 = ((p2.toUInt32 >>> ((16 : Int32) &&& 31).toUInt32).toInt32) ∧ v = some (.int (0 : Int32)) ∧ Fr n0 L ∧ h = h0) ∨ (∃ (i13 : Int32) (i14 : Int32) (i57 : Int32) (i58 : Int32), (1 : Int32) = (i14 % (3 : Int32)) ∧ (0 : Int32) = (i58 % (3 : Int32)) ∧ i14 = (i13 &&& (32767 : Int32)) ∧ i58 = (i57 &&& (32767 : Int32)) ∧ i13 = ((p1.toUInt32 >>> ((16 : Int32) &&& 31).toUInt32).toInt32) ∧ i57 = ((p2.toUInt32 >>> ((16 : Int32) &&& 31).toUInt32).toInt32) ∧ v = some (.int (0 : Int32)) ∧ Fr n0 L ∧ h = h0) ∨ (∃ (i13 : Int32) (i14 : Int32) (i65 : Int32) (i66 : Int32) (i81 : Int32) (i82 : Int32), (1 : Int32) = (i14 % (3 : Int32)) ∧ (1 : Int32) = (i66 % (3 : Int32)) ∧ i14 = (i13 &&& (32767 : Int32)) ∧ i66 = (i65 &&& (32767 : Int32)) ∧ i81 = (p1 &&& (255 : Int32)) ∧ i82 = (p2 &&& (255 : Int32)) ∧ i13 = ((p1.toUInt32 >>> ((16 : Int32) &&& 31).toUInt32).toInt32) ∧ i65 = ((p2.toUInt32 >>> ((16 : Int32) &&& 31).toUInt32).toInt32) ∧ i81 = i82 ∧ v = some (.int (1 : Int32)) ∧ Fr n0 L ∧ h = h0) ∨ (∃ (i13 : Int32) (i14 : Int32) (i65 : Int32) (i66 : Int32) (i81 : Int32) (i82 : Int32), (1 : Int32) = (i14 % (3 : Int32)) ∧ (1 : Int32) = (i66 % (3 : Int32)) ∧ i14 = (i13 &&& (32767 : Int32)) ∧ i66 = (i65 &&& (32767 : Int32)) ∧ i81 = (p1 &&& (255 : Int32)) ∧ i82 = (p2 &&& (255 : Int32)) ∧ i13 = ((p1.toUInt32 >>> ((16 : Int32) &&& 31).toUInt32).toInt32) ∧ i65 = ((p2.toUInt32 >>> ((16 : Int32) &&& 31).toUInt32).toInt32) ∧ ¬ (i81 = i82) ∧ v = some (.int (0 : Int32)) ∧ Fr n0 L ∧ h = h0) ∨ (∃ (i13 : Int32) (i14 : Int32) (i73 : Int32) (i74 : Int32), (1 : Int32) = (i14 % (3 : Int32)) ∧ (2 : Int32) = (i74 % (3 : Int32)) ∧ i14 = (i13 &&& (32767 : Int32)) ∧ i74 = (i73 &&& (32767 : Int32)) ∧ i13 = ((p1.toUInt32 >>> ((16 : Int32) &&& 31).toUInt32).toInt32) ∧ i73 = ((p2.toUInt32 >>> ((16 : Int32) &&& 31).toUInt32).toInt32) ∧ v = some (.int (0 : Int32)) ∧ Fr n0 L ∧ h = h0) ∨ (∃ (i21 : Int32) (i22 : Int32) (i87 : Int32) (i88 : Int32), (2 : Int32) = (i22 % (3 : Int32)) ∧ (0 : Int32) = (i88 % (3 : Int32)) ∧ i22 = (i21 &&& (32767 : Int32)) ∧ i88 = (i87 &&& (32767 : Int32)) ∧ i21 = ((p1.toUInt32 >>> ((16 : Int32) &&& 31).toUInt32).toInt32) ∧ i87 = ((p2.toUInt32 >>> ((16 : Int32) &&& 31).toUInt32).toInt32) ∧ v = some (.int (0 : Int32)) ∧ Fr n0 L ∧ h = h0) ∨ (∃ (i21 : Int32) (i22 : Int32) (i95 : Int32) (i96 : Int32), (2 : Int32) = (i22 % (3 : Int32)) ∧ (1 : Int32) = (i96 % (3 : Int32)) ∧ i22 = (i21 &&& (32767 : Int32)) ∧ i96 = (i95 &&& (32767 : Int32)) ∧ i21 = ((p1.toUInt32 >>> ((16 : Int32) &&& 31).toUInt32).toInt32) ∧ i95 = ((p2.toUInt32 >>> ((16 : Int32) &&& 31).toUInt32).toInt32) ∧ v = some (.int (0 : Int32)) ∧ Fr n0 L ∧ h = h0) ∨ (∃ (i103 : Int32) (i104 : Int32) (i111 : Int32) (i112 : Int32) (i115 : Int32) (i116 : Int32) (i117 : Int32) (i118 : Int32) (i21 : Int32) (i22 : Int32), (2 : Int32) = (i22 % (3 : Int32)) ∧ (2 : Int32) = (i104 % (3 : Int32)) ∧ i22 = (i21 &&& (32767 : Int32)) ∧ i104 = (i103 &&& (32767 : Int32)) ∧ i111 = (p1 &&& (255 : Int32)) ∧ i112 = (p2 &&& (255 : Int32)) ∧ i116 = (i115 &&& (255 : Int32)) ∧ i118 = (i117 &&& (255 : Int32)) ∧ i21 = ((p1.toUInt32 >>> ((16 : Int32) &&& 31).toUInt32).toInt32) ∧ i103 = ((p2.toUInt32 >>> ((16 : Int32) &&& 31).toUInt32).toInt32) ∧ i115 = ((p1.toUInt32 >>> ((8 : Int32) &&& 31).toUInt32).toInt32) ∧ i117 = ((p2.toUInt32 >>> ((8 : Int32) &&& 31).toUInt32).toInt32) ∧ i111 = i112 ∧ i116 = i118 ∧ v = some (.int (1 : Int32)) ∧ Fr n0 L ∧ h = h0) ∨ (∃ (i103 : Int32) (i104 : Int32) (i111 : Int32) (i112 : Int32) (i115 : Int32) (i116 : Int32) (i117 : Int32) (i118 : Int32) (i21 : Int32) (i22 : Int32), (2 : Int32) = (i22 % (3 : Int32)) ∧ (2 : Int32) = (i104 % (3 : Int32)) ∧ i22 = (i21 &&& (32767 : Int32)) ∧ i104 = (i103 &&& (32767 : Int32)) ∧ i111 = (p1 &&& (255 : Int32)) ∧ i112 = (p2 &&& (255 : Int32)) ∧ i116 = (i115 &&& (255 : Int32)) ∧ i118 = (i117 &&& (255 : Int32)) ∧ i21 = ((p1.toUInt32 >>> ((16 : Int32) &&& 31).toUInt32).toInt32) ∧ i103 = ((p2.toUInt32 >>> ((16 : Int32) &&& 31).toUInt32).toInt32) ∧ i115 = ((p1.toUInt32 >>> ((8 : Int32) &&& 31).toUInt32).toInt32) ∧ i117 = ((p2.toUInt32 >>> ((8 : Int32) &&& 31).toUInt32).toInt32) ∧ i111 = i112 ∧ ¬ (i116 = i118) ∧ v = some (.int (0 : Int32)) ∧ Fr n0 L ∧ h = h0) ∨ (∃ (i103 : Int32) (i104 : Int32) (i111 : Int32) (i112 : Int32) (i21 : Int32) (i22 : Int32), (2 : Int32) = (i22 % (3 : Int32)) ∧ (2 : Int32) = (i104 % (3 : Int32)) ∧ i22 = (i21 &&& (32767 : Int32)) ∧ i104 = (i103 &&& (32767 : Int32)) ∧ i111 = (p1 &&& (255 : Int32)) ∧ i112 = (p2 &&& (255 : Int32)) ∧ i21 = ((p1.toUInt32 >>> ((16 : Int32) &&& 31).toUInt32).toInt32) ∧ i103 = ((p2.toUInt32 >>> ((16 : Int32) &&& 31).toUInt32).toInt32) ∧ ¬ (i111 = i112) ∧ v = some (.int (0 : Int32)) ∧ Fr n0 L ∧ h = h0)
set_option maxRecDepth 65536 in
set_option maxHeartbeats 40000000 in
theorem rm16_16 (l : Launch) (Z : State) (a0 : Array Value) (hw : ∀ d ∈ own_ws, d.before a0 Z = true) (ws : List Jvm.Cond) (p1 : Int32) (p2 : Int32) (h0 : Heap) (n0 : Nat) (O0 : Old Z n0 h0) :
    MetFree l M_12 (head1 (Jvm.Cond.code M_12 method_4_code 4 (some .boolean) :: ws) ({ frames := 1, cells := 0, slots := 0, locals := 12 } : Room)) (fun a U => a = #[(.int p1), (.int p2)] ∧ Z.Warmed39 U.vm ∧ U.heap = h0) (fun _ _ _ _ _ => True) (fun _ U o U' => ∃ v L, o = .returned v ∧ Q16_16 Z p1 p2 h0 n0 v U'.heap L ∧ FrameEnd U o U' L ({ frames := 1, cells := 0, slots := 0, locals := 12 } : Room).cells ({ frames := 1, cells := 0, slots := 0, locals := 12 } : Room).slots) := by
  refine MetFree.of_bodySF (plainFor_of_name pn_0) hisR ?_
  intro p e s m args below meth c s₁ Bd hml0 hP hK
  obtain ⟨rfl, hZ, hh⟩ := hP
  have hx := Bd.exec
  have hby := Bd.bytes
  have hml : c.maxLocals = 4 := hml0
  have hown : s.vm.findClass "com/example/vestry/vestry/NumeralEqualsPinLaw" = some m.cls := findClass_of_methodNamed Bd.named
  have hnm := (name_of_methodNamed Bd.named Bd.method).1
  have X0 : Stand p l e ({ frames := 1, cells := 0, slots := 0, locals := 12 } : Room) s m #[(.int p1), (.int p2)] below meth c s₁ [] 0 0 := Stand.of_body Bd
  have e0 : s₁.heap = h0 := by rw [← hh, Bd.state]; rfl
  have N0 := Fr.nil n0
  have pre0 : ∀ t, Steps p.tables e below (s₁.setTop (mkF m 0 #[.val (.int p1), .val (.int p2), .unset, .unset] [])) t → Steps p.tables e below (s₁.setTop (entryFrame m #[(.int p1), (.int p2)] 4)) t := fun t k => castTop (ef_rm16_16 m p1 p2) k
  have pre4 : ∀ t, Steps p.tables e below (s₁.setTop (mkF m 1 #[.val (.int p1), .val (.int p2), .unset, .unset] [(.int p1)])) t → Steps p.tables e below (s₁.setTop (entryFrame m #[(.int p1), (.int p2)] 4)) t := by
    intro t kt
    refine pre0 t ?_
    show Steps p.tables e below (s₁.setTop (mkF m 0 #[.val (.int p1), .val (.int p2), .unset, .unset] [])) _
    refine XS.iloadN X0.here hx rfl (hb hby d16_0) rfl ?_
    show Steps p.tables e below (s₁.setTop (mkF m 1 #[.val (.int p1), .val (.int p2), .unset, .unset] [(.int p1)])) _
    exact kt
  obtain ⟨_, _, ⟨T3, L3, k3, n3⟩, -, X3, ⟨Lc3, hQ3, l3, y3, z3⟩, st3⟩ := Jvm.LawKit.callS X0 hx (y := M_0) hown (mvT hZ (hw _ (gw 4 rfl))) (mvT hZ (hw _ (gw 5 rfl))) (mvT hZ (hw _ (gw 2 rfl))) (mvT hZ (hw _ (gw 6 rfl))) (by decide) (backOf (W := 0) (rm2_3 l Z a0 hw [] p1 h0 n0  O0) hZ (hw _ (gw 6 rfl)) (hw _ (gw 2 rfl)) (by decide) (by decide)) (g := (mkF m 1 #[.val (.int p1), .val (.int p2), .unset, .unset] [(.int p1)])) rfl (by rw [hml]; rfl) (argsL := [(.int p1)]) (rest := []) (lenOf pd_0 rfl) rfl (by show 2 * 0 + _ ≤ _; exact Nat.le_of_eq rfl) (hb hby d16_1) (fun _ _ => ⟨rfl, e0, (by decide : 0 + 0 ≤ _), (by decide : 0 + 0 ≤ _)⟩)
  dsimp only [Pt.U, Pt.locs, Pt.cells, Pt.slots] at X3 l3 y3 z3 st3 hQ3
  subst l3 y3 z3
  rcases hQ3 with ⟨i5, i6, u7, u8, u9, rfl, u11, u12⟩ | ⟨i13, i14, u15, u16, u17, rfl, u19, u20⟩ | ⟨i21, i22, u23, u24, u25, rfl, u27, u28⟩
  · skip
    have N3 := Fr.app N0 u11
    have pre30 : ∀ t, Steps p.tables e below (T3.setTop (mkF m 6 #[.val (.int p1), .val (.int p2), .val (.int (0 : Int32)), .unset] [(.int p2)])) t → Steps p.tables e below (s₁.setTop (entryFrame m #[(.int p1), (.int p2)] 4)) t := by
      intro t kt
      refine pre4 t ?_
      refine st3 _ ?_
      show Steps p.tables e below (T3.setTop (mkF m 4 #[.val (.int p1), .val (.int p2), .unset, .unset] [(.int (0 : Int32))])) _
      refine XS.istoreN X3.here hx rfl (hb hby d16_4) rfl (l' := #[.val (.int p1), .val (.int p2), .val (.int (0 : Int32)), .unset]) rfl ?_
      refine XS.iloadN X3.here hx rfl (hb hby d16_5) rfl ?_
      show Steps p.tables e below (T3.setTop (mkF m 6 #[.val (.int p1), .val (.int p2), .val (.int (0 : Int32)), .unset] [(.int p2)])) _
      exact kt
    obtain ⟨_, _, ⟨T29, L29, k29, n29⟩, -, X29, ⟨Lc29, hQ29, l29, y29, z29⟩, st29⟩ := Jvm.LawKit.callS X3 hx (y := M_0) hown (mvT hZ (hw _ (gw 4 rfl))) (mvT hZ (hw _ (gw 5 rfl))) (mvT hZ (hw _ (gw 2 rfl))) (mvT hZ (hw _ (gw 6 rfl))) (by decide) (backOf (W := 0) (rm2_3 l Z a0 hw [] p2 h0 n0  O0) hZ (hw _ (gw 6 rfl)) (hw _ (gw 2 rfl)) (by decide) (by decide)) (g := (mkF m 6 #[.val (.int p1), .val (.int p2), .val (.int (0 : Int32)), .unset] [(.int p2)])) rfl (by rw [hml]; rfl) (argsL := [(.int p2)]) (rest := []) (lenOf pd_0 rfl) rfl (by show 2 * 0 + _ ≤ _; exact Nat.le_of_eq rfl) (hb hby d16_6) (fun _ _ => ⟨rfl, u12, (by decide : 0 + 0 ≤ _), (by decide : 0 + 0 ≤ _)⟩)
    dsimp only [Pt.U, Pt.locs, Pt.cells, Pt.slots] at X29 l29 y29 z29 st29 hQ29
    subst l29 y29 z29
    rcases hQ29 with ⟨i31, i32, u33, u34, u35, rfl, u37, u38⟩ | ⟨i39, i40, u41, u42, u43, rfl, u45, u46⟩ | ⟨i47, i48, u49, u50, u51, rfl, u53, u54⟩
    · skip
      have N29 := Fr.app N3 u37
      obtain ⟨fs, hr, hrun, hended, hW, hsame⟩ := X29.leave (v := some (.int (1 : Int32))) (fun h => by rw [Bd.returns] at h; cases h)
      refine ⟨_, _, pre30 _ ?_, hrun, hended, _, _, rfl, ?_, ⟨_, rfl⟩, hW, hsame.mono (by decide) (by decide)⟩
      · refine st29 _ ?_
        show Steps p.tables e below (T29.setTop (mkF m 9 #[.val (.int p1), .val (.int p2), .val (.int (0 : Int32)), .unset] [(.int (0 : Int32))])) _
        refine XS.istoreN X29.here hx rfl (hb hby d16_9) rfl (l' := #[.val (.int p1), .val (.int p2), .val (.int (0 : Int32)), .val (.int (0 : Int32))]) rfl ?_
        refine XS.iloadN X29.here hx rfl (hb hby d16_10) rfl ?_
        refine XS.iloadN X29.here hx rfl (hb hby d16_11) rfl ?_
        refine XS.icmpYes X29.here hx rfl (pc0 := 12) (pc' := 17) rfl (hb hby d16_12) rfl (teq (by decide +kernel : (0 : Int32) = (0 : Int32))).1 (by decide) (by decide) ?_
        refine XS.iloadN X29.here hx rfl (hb hby d16_17) rfl ?_
        refine XS.iconst X29.here hx rfl (hb hby d16_18) ?_
        refine XS.icmpYes X29.here hx rfl (pc0 := 19) (pc' := 37) rfl (hb hby d16_19) rfl (tlt (by decide +kernel : (0 : Int32) < (1 : Int32))).1 (by decide) (by decide) ?_
        refine XS.iloadN X29.here hx rfl (hb hby d16_37) rfl ?_
        refine XS.iconst X29.here hx rfl (hb hby d16_38) ?_
        show Steps p.tables e below (T29.setTop (mkF m 39 #[.val (.int p1), .val (.int p2), .val (.int (0 : Int32)), .val (.int (0 : Int32))] [(.int (2 : Int32)), (.int (0 : Int32))])) _
        refine XS.icmpYes X29.here hx rfl (pc0 := 39) (pc' := 63) rfl (hb hby d16_39) rfl (tlt (by decide +kernel : (0 : Int32) < (2 : Int32))).1 (by decide) (by decide) ?_
        refine XS.iconst X29.here hx rfl (hb hby d16_63) ?_
        show Steps p.tables e below (T29.setTop (mkF m 64 #[.val (.int p1), .val (.int p2), .val (.int (0 : Int32)), .val (.int (0 : Int32))] [(.int (1 : Int32))])) _
        exact retN X29 hx (t := .boolean) Bd.returns (by simp) (hb hby d16_64) hr
      · show Q16_16 Z _ _ h0 n0 _ T29.heap _
        rw [u38]
        exact Or.inl (⟨i31, i32, i5, i6, u7, u33, u8, u34, u9, u35, rfl, N29, rfl⟩)
    · skip
      have N29 := Fr.app N3 u45
      obtain ⟨fs, hr, hrun, hended, hW, hsame⟩ := X29.leave (v := some (.int (0 : Int32))) (fun h => by rw [Bd.returns] at h; cases h)
      refine ⟨_, _, pre30 _ ?_, hrun, hended, _, _, rfl, ?_, ⟨_, rfl⟩, hW, hsame.mono (by decide) (by decide)⟩
      · refine st29 _ ?_
        show Steps p.tables e below (T29.setTop (mkF m 9 #[.val (.int p1), .val (.int p2), .val (.int (0 : Int32)), .unset] [(.int (1 : Int32))])) _
        refine XS.istoreN X29.here hx rfl (hb hby d16_9) rfl (l' := #[.val (.int p1), .val (.int p2), .val (.int (0 : Int32)), .val (.int (1 : Int32))]) rfl ?_
        refine XS.iloadN X29.here hx rfl (hb hby d16_10) rfl ?_
        refine XS.iloadN X29.here hx rfl (hb hby d16_11) rfl ?_
        refine XS.icmpNo X29.here hx rfl (hb hby d16_12) rfl (feq (by decide +kernel : ¬ ((0 : Int32) = (1 : Int32)))).1 ?_
        refine XS.iconst X29.here hx rfl (hb hby d16_15) ?_
        show Steps p.tables e below (T29.setTop (mkF m 16 #[.val (.int p1), .val (.int p2), .val (.int (0 : Int32)), .val (.int (1 : Int32))] [(.int (0 : Int32))])) _
        exact retN X29 hx (t := .boolean) Bd.returns (by simp) (hb hby d16_16) hr
      · show Q16_16 Z _ _ h0 n0 _ T29.heap _
        rw [u46]
        exact Or.inr (Or.inl (⟨i39, i40, i5, i6, u7, u41, u8, u42, u9, u43, rfl, N29, rfl⟩))
    · skip
      have N29 := Fr.app N3 u53
      obtain ⟨fs, hr, hrun, hended, hW, hsame⟩ := X29.leave (v := some (.int (0 : Int32))) (fun h => by rw [Bd.returns] at h; cases h)
      refine ⟨_, _, pre30 _ ?_, hrun, hended, _, _, rfl, ?_, ⟨_, rfl⟩, hW, hsame.mono (by decide) (by decide)⟩
      · refine st29 _ ?_
        show Steps p.tables e below (T29.setTop (mkF m 9 #[.val (.int p1), .val (.int p2), .val (.int (0 : Int32)), .unset] [(.int (2 : Int32))])) _
        refine XS.istoreN X29.here hx rfl (hb hby d16_9) rfl (l' := #[.val (.int p1), .val (.int p2), .val (.int (0 : Int32)), .val (.int (2 : Int32))]) rfl ?_
        refine XS.iloadN X29.here hx rfl (hb hby d16_10) rfl ?_
        refine XS.iloadN X29.here hx rfl (hb hby d16_11) rfl ?_
        refine XS.icmpNo X29.here hx rfl (hb hby d16_12) rfl (feq (by decide +kernel : ¬ ((0 : Int32) = (2 : Int32)))).1 ?_
        refine XS.iconst X29.here hx rfl (hb hby d16_15) ?_
        show Steps p.tables e below (T29.setTop (mkF m 16 #[.val (.int p1), .val (.int p2), .val (.int (0 : Int32)), .val (.int (2 : Int32))] [(.int (0 : Int32))])) _
        exact retN X29 hx (t := .boolean) Bd.returns (by simp) (hb hby d16_16) hr
      · show Q16_16 Z _ _ h0 n0 _ T29.heap _
        rw [u54]
        exact Or.inr (Or.inr (Or.inl (⟨i47, i48, i5, i6, u7, u49, u8, u50, u9, u51, rfl, N29, rfl⟩)))
  · skip
    have N3 := Fr.app N0 u19
    have pre56 : ∀ t, Steps p.tables e below (T3.setTop (mkF m 6 #[.val (.int p1), .val (.int p2), .val (.int (1 : Int32)), .unset] [(.int p2)])) t → Steps p.tables e below (s₁.setTop (entryFrame m #[(.int p1), (.int p2)] 4)) t := by
      intro t kt
      refine pre4 t ?_
      refine st3 _ ?_
      show Steps p.tables e below (T3.setTop (mkF m 4 #[.val (.int p1), .val (.int p2), .unset, .unset] [(.int (1 : Int32))])) _
      refine XS.istoreN X3.here hx rfl (hb hby d16_4) rfl (l' := #[.val (.int p1), .val (.int p2), .val (.int (1 : Int32)), .unset]) rfl ?_
      refine XS.iloadN X3.here hx rfl (hb hby d16_5) rfl ?_
      show Steps p.tables e below (T3.setTop (mkF m 6 #[.val (.int p1), .val (.int p2), .val (.int (1 : Int32)), .unset] [(.int p2)])) _
      exact kt
    obtain ⟨_, _, ⟨T55, L55, k55, n55⟩, -, X55, ⟨Lc55, hQ55, l55, y55, z55⟩, st55⟩ := Jvm.LawKit.callS X3 hx (y := M_0) hown (mvT hZ (hw _ (gw 4 rfl))) (mvT hZ (hw _ (gw 5 rfl))) (mvT hZ (hw _ (gw 2 rfl))) (mvT hZ (hw _ (gw 6 rfl))) (by decide) (backOf (W := 0) (rm2_3 l Z a0 hw [] p2 h0 n0  O0) hZ (hw _ (gw 6 rfl)) (hw _ (gw 2 rfl)) (by decide) (by decide)) (g := (mkF m 6 #[.val (.int p1), .val (.int p2), .val (.int (1 : Int32)), .unset] [(.int p2)])) rfl (by rw [hml]; rfl) (argsL := [(.int p2)]) (rest := []) (lenOf pd_0 rfl) rfl (by show 2 * 0 + _ ≤ _; exact Nat.le_of_eq rfl) (hb hby d16_6) (fun _ _ => ⟨rfl, u20, (by decide : 0 + 0 ≤ _), (by decide : 0 + 0 ≤ _)⟩)
    dsimp only [Pt.U, Pt.locs, Pt.cells, Pt.slots] at X55 l55 y55 z55 st55 hQ55
    subst l55 y55 z55
    rcases hQ55 with ⟨i57, i58, u59, u60, u61, rfl, u63, u64⟩ | ⟨i65, i66, u67, u68, u69, rfl, u71, u72⟩ | ⟨i73, i74, u75, u76, u77, rfl, u79, u80⟩
    · skip
      have N55 := Fr.app N3 u63
      obtain ⟨fs, hr, hrun, hended, hW, hsame⟩ := X55.leave (v := some (.int (0 : Int32))) (fun h => by rw [Bd.returns] at h; cases h)
      refine ⟨_, _, pre56 _ ?_, hrun, hended, _, _, rfl, ?_, ⟨_, rfl⟩, hW, hsame.mono (by decide) (by decide)⟩
      · refine st55 _ ?_
        show Steps p.tables e below (T55.setTop (mkF m 9 #[.val (.int p1), .val (.int p2), .val (.int (1 : Int32)), .unset] [(.int (0 : Int32))])) _
        refine XS.istoreN X55.here hx rfl (hb hby d16_9) rfl (l' := #[.val (.int p1), .val (.int p2), .val (.int (1 : Int32)), .val (.int (0 : Int32))]) rfl ?_
        refine XS.iloadN X55.here hx rfl (hb hby d16_10) rfl ?_
        refine XS.iloadN X55.here hx rfl (hb hby d16_11) rfl ?_
        refine XS.icmpNo X55.here hx rfl (hb hby d16_12) rfl (feq (by decide +kernel : ¬ ((1 : Int32) = (0 : Int32)))).1 ?_
        refine XS.iconst X55.here hx rfl (hb hby d16_15) ?_
        show Steps p.tables e below (T55.setTop (mkF m 16 #[.val (.int p1), .val (.int p2), .val (.int (1 : Int32)), .val (.int (0 : Int32))] [(.int (0 : Int32))])) _
        exact retN X55 hx (t := .boolean) Bd.returns (by simp) (hb hby d16_16) hr
      · show Q16_16 Z _ _ h0 n0 _ T55.heap _
        rw [u64]
        exact Or.inr (Or.inr (Or.inr (Or.inl (⟨i13, i14, i57, i58, u15, u59, u16, u60, u17, u61, rfl, N55, rfl⟩))))
    · skip
      have N55 := Fr.app N3 u71
      obtain ⟨i81, hi81⟩ : ∃ z, z = (p1 &&& (255 : Int32)) := ⟨_, rfl⟩
      obtain ⟨i82, hi82⟩ : ∃ z, z = (p2 &&& (255 : Int32)) := ⟨_, rfl⟩
      have pre83 : ∀ t, Steps p.tables e below (T55.setTop (mkF m 32 #[.val (.int p1), .val (.int p2), .val (.int (1 : Int32)), .val (.int (1 : Int32))] [(.int i82), (.int i81)])) t → Steps p.tables e below (s₁.setTop (entryFrame m #[(.int p1), (.int p2)] 4)) t := by
        intro t kt
        refine pre56 t ?_
        refine st55 _ ?_
        show Steps p.tables e below (T55.setTop (mkF m 9 #[.val (.int p1), .val (.int p2), .val (.int (1 : Int32)), .unset] [(.int (1 : Int32))])) _
        refine XS.istoreN X55.here hx rfl (hb hby d16_9) rfl (l' := #[.val (.int p1), .val (.int p2), .val (.int (1 : Int32)), .val (.int (1 : Int32))]) rfl ?_
        refine XS.iloadN X55.here hx rfl (hb hby d16_10) rfl ?_
        refine XS.iloadN X55.here hx rfl (hb hby d16_11) rfl ?_
        refine XS.icmpYes X55.here hx rfl (pc0 := 12) (pc' := 17) rfl (hb hby d16_12) rfl (teq (by decide +kernel : (1 : Int32) = (1 : Int32))).1 (by decide) (by decide) ?_
        refine XS.iloadN X55.here hx rfl (hb hby d16_17) rfl ?_
        refine XS.iconst X55.here hx rfl (hb hby d16_18) ?_
        refine XS.icmpNo X55.here hx rfl (hb hby d16_19) rfl (flt (by decide +kernel : ¬ ((1 : Int32) < (1 : Int32)))).1 ?_
        refine XS.iloadN X55.here hx rfl (hb hby d16_22) rfl ?_
        refine XS.sipush X55.here hx rfl (hb hby d16_23) ?_
        show Steps p.tables e below (T55.setTop (mkF m 26 #[.val (.int p1), .val (.int p2), .val (.int (1 : Int32)), .val (.int (1 : Int32))] [(.int (255 : Int32)), (.int p1)])) _
        refine XS.iand X55.here hx rfl (hb hby d16_26) rfl ?_
        show Steps p.tables e below (T55.setTop (mkF m 27 #[.val (.int p1), .val (.int p2), .val (.int (1 : Int32)), .val (.int (1 : Int32))] [(.int (p1 &&& (255 : Int32)))])) _
        rw [← hi81]
        refine XS.iloadN X55.here hx rfl (hb hby d16_27) rfl ?_
        refine XS.sipush X55.here hx rfl (hb hby d16_28) ?_
        refine XS.iand X55.here hx rfl (hb hby d16_31) rfl ?_
        show Steps p.tables e below (T55.setTop (mkF m 32 #[.val (.int p1), .val (.int p2), .val (.int (1 : Int32)), .val (.int (1 : Int32))] [(.int (p2 &&& (255 : Int32))), (.int i81)])) _
        rw [← hi82]
        exact kt
      by_cases hc84 : i81 = i82
      · skip
        obtain ⟨fs, hr, hrun, hended, hW, hsame⟩ := X55.leave (v := some (.int (1 : Int32))) (fun h => by rw [Bd.returns] at h; cases h)
        refine ⟨_, _, pre83 _ ?_, hrun, hended, _, _, rfl, ?_, ⟨_, rfl⟩, hW, hsame.mono (by decide) (by decide)⟩
        · show Steps p.tables e below (T55.setTop (mkF m 32 #[.val (.int p1), .val (.int p2), .val (.int (1 : Int32)), .val (.int (1 : Int32))] [(.int i82), (.int i81)])) _
          refine XS.icmpYes X55.here hx rfl (pc0 := 32) (pc' := 37) rfl (hb hby d16_32) rfl (teq hc84).1 (by decide) (by decide) ?_
          refine XS.iloadN X55.here hx rfl (hb hby d16_37) rfl ?_
          refine XS.iconst X55.here hx rfl (hb hby d16_38) ?_
          refine XS.icmpYes X55.here hx rfl (pc0 := 39) (pc' := 63) rfl (hb hby d16_39) rfl (tlt (by decide +kernel : (1 : Int32) < (2 : Int32))).1 (by decide) (by decide) ?_
          refine XS.iconst X55.here hx rfl (hb hby d16_63) ?_
          show Steps p.tables e below (T55.setTop (mkF m 64 #[.val (.int p1), .val (.int p2), .val (.int (1 : Int32)), .val (.int (1 : Int32))] [(.int (1 : Int32))])) _
          exact retN X55 hx (t := .boolean) Bd.returns (by simp) (hb hby d16_64) hr
        · show Q16_16 Z _ _ h0 n0 _ T55.heap _
          rw [u72]
          exact Or.inr (Or.inr (Or.inr (Or.inr (Or.inl (⟨i13, i14, i65, i66, i81, i82, u15, u67, u16, u68, hi81, hi82, u17, u69, hc84, rfl, N55, rfl⟩)))))
      · skip
        obtain ⟨fs, hr, hrun, hended, hW, hsame⟩ := X55.leave (v := some (.int (0 : Int32))) (fun h => by rw [Bd.returns] at h; cases h)
        refine ⟨_, _, pre83 _ ?_, hrun, hended, _, _, rfl, ?_, ⟨_, rfl⟩, hW, hsame.mono (by decide) (by decide)⟩
        · show Steps p.tables e below (T55.setTop (mkF m 32 #[.val (.int p1), .val (.int p2), .val (.int (1 : Int32)), .val (.int (1 : Int32))] [(.int i82), (.int i81)])) _
          refine XS.icmpNo X55.here hx rfl (hb hby d16_32) rfl (feq hc84).1 ?_
          refine XS.iconst X55.here hx rfl (hb hby d16_35) ?_
          show Steps p.tables e below (T55.setTop (mkF m 36 #[.val (.int p1), .val (.int p2), .val (.int (1 : Int32)), .val (.int (1 : Int32))] [(.int (0 : Int32))])) _
          exact retN X55 hx (t := .boolean) Bd.returns (by simp) (hb hby d16_36) hr
        · show Q16_16 Z _ _ h0 n0 _ T55.heap _
          rw [u72]
          exact Or.inr (Or.inr (Or.inr (Or.inr (Or.inr (Or.inl (⟨i13, i14, i65, i66, i81, i82, u15, u67, u16, u68, hi81, hi82, u17, u69, hc84, rfl, N55, rfl⟩))))))
    · skip
      have N55 := Fr.app N3 u79
      obtain ⟨fs, hr, hrun, hended, hW, hsame⟩ := X55.leave (v := some (.int (0 : Int32))) (fun h => by rw [Bd.returns] at h; cases h)
      refine ⟨_, _, pre56 _ ?_, hrun, hended, _, _, rfl, ?_, ⟨_, rfl⟩, hW, hsame.mono (by decide) (by decide)⟩
      · refine st55 _ ?_
        show Steps p.tables e below (T55.setTop (mkF m 9 #[.val (.int p1), .val (.int p2), .val (.int (1 : Int32)), .unset] [(.int (2 : Int32))])) _
        refine XS.istoreN X55.here hx rfl (hb hby d16_9) rfl (l' := #[.val (.int p1), .val (.int p2), .val (.int (1 : Int32)), .val (.int (2 : Int32))]) rfl ?_
        refine XS.iloadN X55.here hx rfl (hb hby d16_10) rfl ?_
        refine XS.iloadN X55.here hx rfl (hb hby d16_11) rfl ?_
        refine XS.icmpNo X55.here hx rfl (hb hby d16_12) rfl (feq (by decide +kernel : ¬ ((1 : Int32) = (2 : Int32)))).1 ?_
        refine XS.iconst X55.here hx rfl (hb hby d16_15) ?_
        show Steps p.tables e below (T55.setTop (mkF m 16 #[.val (.int p1), .val (.int p2), .val (.int (1 : Int32)), .val (.int (2 : Int32))] [(.int (0 : Int32))])) _
        exact retN X55 hx (t := .boolean) Bd.returns (by simp) (hb hby d16_16) hr
      · show Q16_16 Z _ _ h0 n0 _ T55.heap _
        rw [u80]
        exact Or.inr (Or.inr (Or.inr (Or.inr (Or.inr (Or.inr (Or.inl (⟨i13, i14, i73, i74, u15, u75, u16, u76, u17, u77, rfl, N55, rfl⟩)))))))
  · skip
    have N3 := Fr.app N0 u27
    have pre86 : ∀ t, Steps p.tables e below (T3.setTop (mkF m 6 #[.val (.int p1), .val (.int p2), .val (.int (2 : Int32)), .unset] [(.int p2)])) t → Steps p.tables e below (s₁.setTop (entryFrame m #[(.int p1), (.int p2)] 4)) t := by
      intro t kt
      refine pre4 t ?_
      refine st3 _ ?_
      show Steps p.tables e below (T3.setTop (mkF m 4 #[.val (.int p1), .val (.int p2), .unset, .unset] [(.int (2 : Int32))])) _
      refine XS.istoreN X3.here hx rfl (hb hby d16_4) rfl (l' := #[.val (.int p1), .val (.int p2), .val (.int (2 : Int32)), .unset]) rfl ?_
      refine XS.iloadN X3.here hx rfl (hb hby d16_5) rfl ?_
      show Steps p.tables e below (T3.setTop (mkF m 6 #[.val (.int p1), .val (.int p2), .val (.int (2 : Int32)), .unset] [(.int p2)])) _
      exact kt
    obtain ⟨_, _, ⟨T85, L85, k85, n85⟩, -, X85, ⟨Lc85, hQ85, l85, y85, z85⟩, st85⟩ := Jvm.LawKit.callS X3 hx (y := M_0) hown (mvT hZ (hw _ (gw 4 rfl))) (mvT hZ (hw _ (gw 5 rfl))) (mvT hZ (hw _ (gw 2 rfl))) (mvT hZ (hw _ (gw 6 rfl))) (by decide) (backOf (W := 0) (rm2_3 l Z a0 hw [] p2 h0 n0  O0) hZ (hw _ (gw 6 rfl)) (hw _ (gw 2 rfl)) (by decide) (by decide)) (g := (mkF m 6 #[.val (.int p1), .val (.int p2), .val (.int (2 : Int32)), .unset] [(.int p2)])) rfl (by rw [hml]; rfl) (argsL := [(.int p2)]) (rest := []) (lenOf pd_0 rfl) rfl (by show 2 * 0 + _ ≤ _; exact Nat.le_of_eq rfl) (hb hby d16_6) (fun _ _ => ⟨rfl, u28, (by decide : 0 + 0 ≤ _), (by decide : 0 + 0 ≤ _)⟩)
    dsimp only [Pt.U, Pt.locs, Pt.cells, Pt.slots] at X85 l85 y85 z85 st85 hQ85
    subst l85 y85 z85
    rcases hQ85 with ⟨i87, i88, u89, u90, u91, rfl, u93, u94⟩ | ⟨i95, i96, u97, u98, u99, rfl, u101, u102⟩ | ⟨i103, i104, u105, u106, u107, rfl, u109, u110⟩
    · skip
      have N85 := Fr.app N3 u93
      obtain ⟨fs, hr, hrun, hended, hW, hsame⟩ := X85.leave (v := some (.int (0 : Int32))) (fun h => by rw [Bd.returns] at h; cases h)
      refine ⟨_, _, pre86 _ ?_, hrun, hended, _, _, rfl, ?_, ⟨_, rfl⟩, hW, hsame.mono (by decide) (by decide)⟩
      · refine st85 _ ?_
        show Steps p.tables e below (T85.setTop (mkF m 9 #[.val (.int p1), .val (.int p2), .val (.int (2 : Int32)), .unset] [(.int (0 : Int32))])) _
        refine XS.istoreN X85.here hx rfl (hb hby d16_9) rfl (l' := #[.val (.int p1), .val (.int p2), .val (.int (2 : Int32)), .val (.int (0 : Int32))]) rfl ?_
        refine XS.iloadN X85.here hx rfl (hb hby d16_10) rfl ?_
        refine XS.iloadN X85.here hx rfl (hb hby d16_11) rfl ?_
        refine XS.icmpNo X85.here hx rfl (hb hby d16_12) rfl (feq (by decide +kernel : ¬ ((2 : Int32) = (0 : Int32)))).1 ?_
        refine XS.iconst X85.here hx rfl (hb hby d16_15) ?_
        show Steps p.tables e below (T85.setTop (mkF m 16 #[.val (.int p1), .val (.int p2), .val (.int (2 : Int32)), .val (.int (0 : Int32))] [(.int (0 : Int32))])) _
        exact retN X85 hx (t := .boolean) Bd.returns (by simp) (hb hby d16_16) hr
      · show Q16_16 Z _ _ h0 n0 _ T85.heap _
        rw [u94]
        exact Or.inr (Or.inr (Or.inr (Or.inr (Or.inr (Or.inr (Or.inr (Or.inl (⟨i21, i22, i87, i88, u23, u89, u24, u90, u25, u91, rfl, N85, rfl⟩))))))))
    · skip
      have N85 := Fr.app N3 u101
      obtain ⟨fs, hr, hrun, hended, hW, hsame⟩ := X85.leave (v := some (.int (0 : Int32))) (fun h => by rw [Bd.returns] at h; cases h)
      refine ⟨_, _, pre86 _ ?_, hrun, hended, _, _, rfl, ?_, ⟨_, rfl⟩, hW, hsame.mono (by decide) (by decide)⟩
      · refine st85 _ ?_
        show Steps p.tables e below (T85.setTop (mkF m 9 #[.val (.int p1), .val (.int p2), .val (.int (2 : Int32)), .unset] [(.int (1 : Int32))])) _
        refine XS.istoreN X85.here hx rfl (hb hby d16_9) rfl (l' := #[.val (.int p1), .val (.int p2), .val (.int (2 : Int32)), .val (.int (1 : Int32))]) rfl ?_
        refine XS.iloadN X85.here hx rfl (hb hby d16_10) rfl ?_
        refine XS.iloadN X85.here hx rfl (hb hby d16_11) rfl ?_
        refine XS.icmpNo X85.here hx rfl (hb hby d16_12) rfl (feq (by decide +kernel : ¬ ((2 : Int32) = (1 : Int32)))).1 ?_
        refine XS.iconst X85.here hx rfl (hb hby d16_15) ?_
        show Steps p.tables e below (T85.setTop (mkF m 16 #[.val (.int p1), .val (.int p2), .val (.int (2 : Int32)), .val (.int (1 : Int32))] [(.int (0 : Int32))])) _
        exact retN X85 hx (t := .boolean) Bd.returns (by simp) (hb hby d16_16) hr
      · show Q16_16 Z _ _ h0 n0 _ T85.heap _
        rw [u102]
        exact Or.inr (Or.inr (Or.inr (Or.inr (Or.inr (Or.inr (Or.inr (Or.inr (Or.inl (⟨i21, i22, i95, i96, u23, u97, u24, u98, u25, u99, rfl, N85, rfl⟩)))))))))
    · skip
      have N85 := Fr.app N3 u109
      obtain ⟨i111, hi111⟩ : ∃ z, z = (p1 &&& (255 : Int32)) := ⟨_, rfl⟩
      obtain ⟨i112, hi112⟩ : ∃ z, z = (p2 &&& (255 : Int32)) := ⟨_, rfl⟩
      have pre113 : ∀ t, Steps p.tables e below (T85.setTop (mkF m 32 #[.val (.int p1), .val (.int p2), .val (.int (2 : Int32)), .val (.int (2 : Int32))] [(.int i112), (.int i111)])) t → Steps p.tables e below (s₁.setTop (entryFrame m #[(.int p1), (.int p2)] 4)) t := by
        intro t kt
        refine pre86 t ?_
        refine st85 _ ?_
        show Steps p.tables e below (T85.setTop (mkF m 9 #[.val (.int p1), .val (.int p2), .val (.int (2 : Int32)), .unset] [(.int (2 : Int32))])) _
        refine XS.istoreN X85.here hx rfl (hb hby d16_9) rfl (l' := #[.val (.int p1), .val (.int p2), .val (.int (2 : Int32)), .val (.int (2 : Int32))]) rfl ?_
        refine XS.iloadN X85.here hx rfl (hb hby d16_10) rfl ?_
        refine XS.iloadN X85.here hx rfl (hb hby d16_11) rfl ?_
        refine XS.icmpYes X85.here hx rfl (pc0 := 12) (pc' := 17) rfl (hb hby d16_12) rfl (teq (by decide +kernel : (2 : Int32) = (2 : Int32))).1 (by decide) (by decide) ?_
        refine XS.iloadN X85.here hx rfl (hb hby d16_17) rfl ?_
        refine XS.iconst X85.here hx rfl (hb hby d16_18) ?_
        refine XS.icmpNo X85.here hx rfl (hb hby d16_19) rfl (flt (by decide +kernel : ¬ ((2 : Int32) < (1 : Int32)))).1 ?_
        refine XS.iloadN X85.here hx rfl (hb hby d16_22) rfl ?_
        refine XS.sipush X85.here hx rfl (hb hby d16_23) ?_
        show Steps p.tables e below (T85.setTop (mkF m 26 #[.val (.int p1), .val (.int p2), .val (.int (2 : Int32)), .val (.int (2 : Int32))] [(.int (255 : Int32)), (.int p1)])) _
        refine XS.iand X85.here hx rfl (hb hby d16_26) rfl ?_
        show Steps p.tables e below (T85.setTop (mkF m 27 #[.val (.int p1), .val (.int p2), .val (.int (2 : Int32)), .val (.int (2 : Int32))] [(.int (p1 &&& (255 : Int32)))])) _
        rw [← hi111]
        refine XS.iloadN X85.here hx rfl (hb hby d16_27) rfl ?_
        refine XS.sipush X85.here hx rfl (hb hby d16_28) ?_
        refine XS.iand X85.here hx rfl (hb hby d16_31) rfl ?_
        show Steps p.tables e below (T85.setTop (mkF m 32 #[.val (.int p1), .val (.int p2), .val (.int (2 : Int32)), .val (.int (2 : Int32))] [(.int (p2 &&& (255 : Int32))), (.int i111)])) _
        rw [← hi112]
        exact kt
      by_cases hc114 : i111 = i112
      · skip
        obtain ⟨i115, hi115⟩ : ∃ z, z = ((p1.toUInt32 >>> ((8 : Int32) &&& 31).toUInt32).toInt32) := ⟨_, rfl⟩
        obtain ⟨i116, hi116⟩ : ∃ z, z = (i115 &&& (255 : Int32)) := ⟨_, rfl⟩
        obtain ⟨i117, hi117⟩ : ∃ z, z = ((p2.toUInt32 >>> ((8 : Int32) &&& 31).toUInt32).toInt32) := ⟨_, rfl⟩
        obtain ⟨i118, hi118⟩ : ∃ z, z = (i117 &&& (255 : Int32)) := ⟨_, rfl⟩
        have pre119 : ∀ t, Steps p.tables e below (T85.setTop (mkF m 58 #[.val (.int p1), .val (.int p2), .val (.int (2 : Int32)), .val (.int (2 : Int32))] [(.int i118), (.int i116)])) t → Steps p.tables e below (s₁.setTop (entryFrame m #[(.int p1), (.int p2)] 4)) t := by
          intro t kt
          refine pre113 t ?_
          show Steps p.tables e below (T85.setTop (mkF m 32 #[.val (.int p1), .val (.int p2), .val (.int (2 : Int32)), .val (.int (2 : Int32))] [(.int i112), (.int i111)])) _
          refine XS.icmpYes X85.here hx rfl (pc0 := 32) (pc' := 37) rfl (hb hby d16_32) rfl (teq hc114).1 (by decide) (by decide) ?_
          refine XS.iloadN X85.here hx rfl (hb hby d16_37) rfl ?_
          refine XS.iconst X85.here hx rfl (hb hby d16_38) ?_
          refine XS.icmpNo X85.here hx rfl (hb hby d16_39) rfl (flt (by decide +kernel : ¬ ((2 : Int32) < (2 : Int32)))).1 ?_
          refine XS.iloadN X85.here hx rfl (hb hby d16_42) rfl ?_
          refine XS.bipush X85.here hx rfl (hb hby d16_43) ?_
          refine XS.iushr X85.here hx rfl (hb hby d16_45) rfl ?_
          show Steps p.tables e below (T85.setTop (mkF m 46 #[.val (.int p1), .val (.int p2), .val (.int (2 : Int32)), .val (.int (2 : Int32))] [(.int ((p1.toUInt32 >>> ((8 : Int32) &&& 31).toUInt32).toInt32))])) _
          rw [← hi115]
          refine XS.sipush X85.here hx rfl (hb hby d16_46) ?_
          refine XS.iand X85.here hx rfl (hb hby d16_49) rfl ?_
          show Steps p.tables e below (T85.setTop (mkF m 50 #[.val (.int p1), .val (.int p2), .val (.int (2 : Int32)), .val (.int (2 : Int32))] [(.int (i115 &&& (255 : Int32)))])) _
          rw [← hi116]
          refine XS.iloadN X85.here hx rfl (hb hby d16_50) rfl ?_
          refine XS.bipush X85.here hx rfl (hb hby d16_51) ?_
          refine XS.iushr X85.here hx rfl (hb hby d16_53) rfl ?_
          show Steps p.tables e below (T85.setTop (mkF m 54 #[.val (.int p1), .val (.int p2), .val (.int (2 : Int32)), .val (.int (2 : Int32))] [(.int ((p2.toUInt32 >>> ((8 : Int32) &&& 31).toUInt32).toInt32)), (.int i116)])) _
          rw [← hi117]
          refine XS.sipush X85.here hx rfl (hb hby d16_54) ?_
          refine XS.iand X85.here hx rfl (hb hby d16_57) rfl ?_
          show Steps p.tables e below (T85.setTop (mkF m 58 #[.val (.int p1), .val (.int p2), .val (.int (2 : Int32)), .val (.int (2 : Int32))] [(.int (i117 &&& (255 : Int32))), (.int i116)])) _
          rw [← hi118]
          exact kt
        by_cases hc120 : i116 = i118
        · skip
          obtain ⟨fs, hr, hrun, hended, hW, hsame⟩ := X85.leave (v := some (.int (1 : Int32))) (fun h => by rw [Bd.returns] at h; cases h)
          refine ⟨_, _, pre119 _ ?_, hrun, hended, _, _, rfl, ?_, ⟨_, rfl⟩, hW, hsame.mono (by decide) (by decide)⟩
          · show Steps p.tables e below (T85.setTop (mkF m 58 #[.val (.int p1), .val (.int p2), .val (.int (2 : Int32)), .val (.int (2 : Int32))] [(.int i118), (.int i116)])) _
            refine XS.icmpYes X85.here hx rfl (pc0 := 58) (pc' := 63) rfl (hb hby d16_58) rfl (teq hc120).1 (by decide) (by decide) ?_
            refine XS.iconst X85.here hx rfl (hb hby d16_63) ?_
            show Steps p.tables e below (T85.setTop (mkF m 64 #[.val (.int p1), .val (.int p2), .val (.int (2 : Int32)), .val (.int (2 : Int32))] [(.int (1 : Int32))])) _
            exact retN X85 hx (t := .boolean) Bd.returns (by simp) (hb hby d16_64) hr
          · show Q16_16 Z _ _ h0 n0 _ T85.heap _
            rw [u110]
            exact Or.inr (Or.inr (Or.inr (Or.inr (Or.inr (Or.inr (Or.inr (Or.inr (Or.inr (Or.inl (⟨i103, i104, i111, i112, i115, i116, i117, i118, i21, i22, u23, u105, u24, u106, hi111, hi112, hi116, hi118, u25, u107, hi115, hi117, hc114, hc120, rfl, N85, rfl⟩))))))))))
        · skip
          obtain ⟨fs, hr, hrun, hended, hW, hsame⟩ := X85.leave (v := some (.int (0 : Int32))) (fun h => by rw [Bd.returns] at h; cases h)
          refine ⟨_, _, pre119 _ ?_, hrun, hended, _, _, rfl, ?_, ⟨_, rfl⟩, hW, hsame.mono (by decide) (by decide)⟩
          · show Steps p.tables e below (T85.setTop (mkF m 58 #[.val (.int p1), .val (.int p2), .val (.int (2 : Int32)), .val (.int (2 : Int32))] [(.int i118), (.int i116)])) _
            refine XS.icmpNo X85.here hx rfl (hb hby d16_58) rfl (feq hc120).1 ?_
            refine XS.iconst X85.here hx rfl (hb hby d16_61) ?_
            show Steps p.tables e below (T85.setTop (mkF m 62 #[.val (.int p1), .val (.int p2), .val (.int (2 : Int32)), .val (.int (2 : Int32))] [(.int (0 : Int32))])) _
            exact retN X85 hx (t := .boolean) Bd.returns (by simp) (hb hby d16_62) hr
          · show Q16_16 Z _ _ h0 n0 _ T85.heap _
            rw [u110]
            exact Or.inr (Or.inr (Or.inr (Or.inr (Or.inr (Or.inr (Or.inr (Or.inr (Or.inr (Or.inr (Or.inl (⟨i103, i104, i111, i112, i115, i116, i117, i118, i21, i22, u23, u105, u24, u106, hi111, hi112, hi116, hi118, u25, u107, hi115, hi117, hc114, hc120, rfl, N85, rfl⟩)))))))))))
      · skip
        obtain ⟨fs, hr, hrun, hended, hW, hsame⟩ := X85.leave (v := some (.int (0 : Int32))) (fun h => by rw [Bd.returns] at h; cases h)
        refine ⟨_, _, pre113 _ ?_, hrun, hended, _, _, rfl, ?_, ⟨_, rfl⟩, hW, hsame.mono (by decide) (by decide)⟩
        · show Steps p.tables e below (T85.setTop (mkF m 32 #[.val (.int p1), .val (.int p2), .val (.int (2 : Int32)), .val (.int (2 : Int32))] [(.int i112), (.int i111)])) _
          refine XS.icmpNo X85.here hx rfl (hb hby d16_32) rfl (feq hc114).1 ?_
          refine XS.iconst X85.here hx rfl (hb hby d16_35) ?_
          show Steps p.tables e below (T85.setTop (mkF m 36 #[.val (.int p1), .val (.int p2), .val (.int (2 : Int32)), .val (.int (2 : Int32))] [(.int (0 : Int32))])) _
          exact retN X85 hx (t := .boolean) Bd.returns (by simp) (hb hby d16_36) hr
        · show Q16_16 Z _ _ h0 n0 _ T85.heap _
          rw [u110]
          exact Or.inr (Or.inr (Or.inr (Or.inr (Or.inr (Or.inr (Or.inr (Or.inr (Or.inr (Or.inr (Or.inr (⟨i103, i104, i111, i112, i21, i22, u23, u105, u24, u106, hi111, hi112, u25, u107, hc114, rfl, N85, rfl⟩)))))))))))
theorem ef_rm17_19 (m : MethodId) (x0 : Addr) (x1 : Addr) : entryFrame m #[(.ref x0), (.ref x1)] 3 = mkF m 0 #[.val (.ref x0), .val (.ref x1), .unset] [] := by first | (simp [entryFrame, mkF, argsToLocals, Value.category]; done) | rfl
def Q17_19 (Z : State) (a1 : Addr) (a2 : Addr) (k3 : ClassId) (k6 : ClassId) (h0 : Heap) (n0 : Nat) (v : Option Value) (h : Heap) (L : List Loc) : Prop := (v = some (.int (1 : Int32)) ∧ Fr n0 L ∧ h = h0)
set_option maxRecDepth 65536 in
set_option maxHeartbeats 40000000 in
theorem rm17_19 (l : Launch) (Z : State) (a0 : Array Value) (hw : ∀ d ∈ own_ws, d.before a0 Z = true) (ws : List Jvm.Cond) (a1 : Addr) (a2 : Addr) (k3 : ClassId) (k6 : ClassId) (h0 : Heap) (n0 : Nat) (O0 : Old Z n0 h0) (V4 : Arv Z h0 a1 k3 .byte (0 : Int32) [] (.int 0)) (V7 : Arv Z h0 a2 k6 .byte (0 : Int32) [] (.int 0)) :
    MetFree l M_13 (head1 (Jvm.Cond.code M_13 jdk_43_method_13_code 3 (some .boolean) :: ws) ({ frames := 0, cells := 0, slots := 0, locals := 0 } : Room)) (fun a U => a = #[(.ref a1), (.ref a2)] ∧ Z.Warmed39 U.vm ∧ U.heap = h0) (fun _ _ _ _ _ => True) (fun _ U o U' => ∃ v L, o = .returned v ∧ Q17_19 Z a1 a2 k3 k6 h0 n0 v U'.heap L ∧ FrameEnd U o U' L ({ frames := 0, cells := 0, slots := 0, locals := 0 } : Room).cells ({ frames := 0, cells := 0, slots := 0, locals := 0 } : Room).slots) := by
  refine MetFree.of_bodySF (plainFor_of_name pn_2) hisR ?_
  intro p e s m args below meth c s₁ Bd hml0 hP hK
  obtain ⟨rfl, hZ, hh⟩ := hP
  have hx := Bd.exec
  have hby := Bd.bytes
  have hml : c.maxLocals = 3 := hml0
  have hown : s.vm.findClass "java/lang/StringLatin1" = some m.cls := findClass_of_methodNamed Bd.named
  have hnm := (name_of_methodNamed Bd.named Bd.method).1
  have X0 : Stand p l e ({ frames := 0, cells := 0, slots := 0, locals := 0 } : Room) s m #[(.ref a1), (.ref a2)] below meth c s₁ [] 0 0 := Stand.of_body Bd
  have e0 : s₁.heap = h0 := by rw [← hh, Bd.state]; rfl
  have N0 := Fr.nil n0
  have pre0 : ∀ t, Steps p.tables e below (s₁.setTop (mkF m 0 #[.val (.ref a1), .val (.ref a2), .unset] [])) t → Steps p.tables e below (s₁.setTop (entryFrame m #[(.ref a1), (.ref a2)] 3)) t := fun t k => castTop (ef_rm17_19 m a1 a2) k
  obtain ⟨cl5, Ar5, -, Sz5, Nn5, -, -⟩ := id V4
  obtain ⟨cl8, Ar8, -, Sz8, Nn8, -, -⟩ := id V7
  obtain ⟨cl9, Ar9, -, Sz9, Nn9, -, -⟩ := id V4
  obtain ⟨fs, hr, hrun, hended, hW, hsame⟩ := X0.leave (v := some (.int (1 : Int32))) (fun h => by rw [Bd.returns] at h; cases h)
  refine ⟨_, _, pre0 _ ?_, hrun, hended, _, _, rfl, ?_, ⟨_, rfl⟩, hW, hsame.mono (by decide) (by decide)⟩
  · show Steps p.tables e below (s₁.setTop (mkF m 0 #[.val (.ref a1), .val (.ref a2), .unset] [])) _
    refine XS.aloadN X0.here hx rfl (hb hby d17_0) rfl rfl ?_
    refine X0.arraylength hx (by rw [e0]; exact Ar5.1) (State.isArrayOf_alike hZ.alike Ar5.2.1) (g := (mkF m 1 #[.val (.ref a1), .val (.ref a2), .unset] [(.ref a1)])) rfl rfl (hb hby d17_1) _ ?_
    rw [len_of Sz5 Nn5]
    refine XS.aloadN X0.here hx rfl (hb hby d17_2) rfl rfl ?_
    refine X0.arraylength hx (by rw [e0]; exact Ar8.1) (State.isArrayOf_alike hZ.alike Ar8.2.1) (g := (mkF m 3 #[.val (.ref a1), .val (.ref a2), .unset] [(.ref a2), (.int (0 : Int32))])) rfl rfl (hb hby d17_3) _ ?_
    rw [len_of Sz8 Nn8]
    refine XS.icmpNo X0.here hx rfl (hb hby d17_4) rfl (teq (by decide +kernel : (0 : Int32) = (0 : Int32))).2 ?_
    refine XS.iconst X0.here hx rfl (hb hby d17_7) ?_
    refine XS.istoreN X0.here hx rfl (hb hby d17_8) rfl (l' := #[.val (.ref a1), .val (.ref a2), .val (.int (0 : Int32))]) rfl ?_
    refine XS.iloadN X0.here hx rfl (hb hby d17_9) rfl ?_
    refine XS.aloadN X0.here hx rfl (hb hby d17_10) rfl rfl ?_
    show Steps p.tables e below (s₁.setTop (mkF m 11 #[.val (.ref a1), .val (.ref a2), .val (.int (0 : Int32))] [(.ref a1), (.int (0 : Int32))])) _
    refine X0.arraylength hx (by rw [e0]; exact Ar9.1) (State.isArrayOf_alike hZ.alike Ar9.2.1) (g := (mkF m 11 #[.val (.ref a1), .val (.ref a2), .val (.int (0 : Int32))] [(.ref a1), (.int (0 : Int32))])) rfl rfl (hb hby d17_11) _ ?_
    rw [len_of Sz9 Nn9]
    refine XS.icmpYes X0.here hx rfl (pc0 := 12) (pc' := 32) rfl (hb hby d17_12) rfl (flt (by decide +kernel : ¬ ((0 : Int32) < (0 : Int32)))).2.1 (by decide) (by decide) ?_
    refine XS.iconst X0.here hx rfl (hb hby d17_32) ?_
    show Steps p.tables e below (s₁.setTop (mkF m 33 #[.val (.ref a1), .val (.ref a2), .val (.int (0 : Int32))] [(.int (1 : Int32))])) _
    exact retN X0 hx (t := .boolean) Bd.returns (by simp) (hb hby d17_33) hr
  · show Q17_19 Z _ _ _ _ h0 n0 _ s₁.heap _
    rw [e0]
    exact ⟨rfl, N0, rfl⟩
theorem ef_rm8_18 (m : MethodId) (x0 : Addr) (x1 : Addr) : entryFrame m #[(.ref x0), (.ref x1)] 3 = mkF m 0 #[.val (.ref x0), .val (.ref x1), .unset] [] := by first | (simp [entryFrame, mkF, argsToLocals, Value.category]; done) | rfl
def Q8_18 (Z : State) (a1 : Addr) (a2 : Addr) (p7 : Int32) (a15 : Addr) (a18 : Addr) (k21 : ClassId) (k23 : ClassId) (h0 : Heap) (n0 : Nat) (v : Option Value) (h : Heap) (L : List Loc) : Prop := (v = some (.int (1 : Int32)) ∧ Fr n0 L ∧ h = h0)
set_option maxRecDepth 65536 in
set_option maxHeartbeats 40000000 in
theorem rm8_18 (l : Launch) (Z : State) (a0 : Array Value) (hw : ∀ d ∈ own_ws, d.before a0 Z = true) (ws : List Jvm.Cond) (a1 : Addr) (a2 : Addr) (p7 : Int32) (a15 : Addr) (a18 : Addr) (k21 : ClassId) (k23 : ClassId) (h0 : Heap) (n0 : Nat) (O0 : Old Z n0 h0) (hne3 : a1 ≠ a2) (E_4 : Exa Z h0 a2 C_0) (S_8 : Sta Z Z.heap C_0 "COMPACT_STRINGS" "Z" (.int p7)) (hk10 : ¬ (p7 = (0 : Int32))) (F11 : Fld Z h0 a1 C_0 "coder" "B" (.int (0 : Int32))) (F13 : Fld Z h0 a2 C_0 "coder" "B" (.int (0 : Int32))) (F16 : Fld Z h0 a1 C_0 "value" "[B" (.ref a15)) (F19 : Fld Z h0 a2 C_0 "value" "[B" (.ref a18)) (V22 : Arv Z h0 a15 k21 .byte (0 : Int32) [] (.int 0)) (V24 : Arv Z h0 a18 k23 .byte (0 : Int32) [] (.int 0)) :
    MetFree l M_14 (head1 (Jvm.Cond.code M_14 jdk_42_method_66_code 3 (some .boolean) :: ws) ({ frames := 1, cells := 0, slots := 0, locals := 14 } : Room)) (fun a U => a = #[(.ref a1), (.ref a2)] ∧ Z.Warmed39 U.vm ∧ U.heap = h0) (fun _ _ _ _ _ => True) (fun _ U o U' => ∃ v L, o = .returned v ∧ Q8_18 Z a1 a2 p7 a15 a18 k21 k23 h0 n0 v U'.heap L ∧ FrameEnd U o U' L ({ frames := 1, cells := 0, slots := 0, locals := 14 } : Room).cells ({ frames := 1, cells := 0, slots := 0, locals := 14 } : Room).slots) := by
  refine MetFree.of_bodySF (plainFor_of_name pn_1) hisR ?_
  intro p e s m args below meth c s₁ Bd hml0 hP hK
  obtain ⟨rfl, hZ, hh⟩ := hP
  have hx := Bd.exec
  have hby := Bd.bytes
  have hml : c.maxLocals = 3 := hml0
  have hown : s.vm.findClass "java/lang/String" = some m.cls := findClass_of_methodNamed Bd.named
  have hnm := (name_of_methodNamed Bd.named Bd.method).1
  have X0 : Stand p l e ({ frames := 1, cells := 0, slots := 0, locals := 14 } : Room) s m #[(.ref a1), (.ref a2)] below meth c s₁ [] 0 0 := Stand.of_body Bd
  have e0 : s₁.heap = h0 := by rw [← hh, Bd.state]; rfl
  have N0 := Fr.nil n0
  have pre0 : ∀ t, Steps p.tables e below (s₁.setTop (mkF m 0 #[.val (.ref a1), .val (.ref a2), .unset] [])) t → Steps p.tables e below (s₁.setTop (entryFrame m #[(.ref a1), (.ref a2)] 3)) t := fun t k => castTop (ef_rm8_18 m a1 a2) k
  obtain ⟨T5, X5, e5, st5⟩ := instY X0 hx hZ hown (hw _ (gw 60 rfl)) e0 (Ins.self E_4) (g := (mkF m 8 #[.val (.ref a1), .val (.ref a2), .unset] [(.ref a2)])) rfl rfl (hb hby d8_8)
  obtain ⟨T6, X6, e6, st6⟩ := castY X5 hx hZ hown (hw _ (gw 60 rfl)) e5 (Ins.self E_4) (g := (mkF m 15 #[.val (.ref a1), .val (.ref a2), .unset] [(.ref a2)])) rfl rfl (hb hby d8_15)
  obtain ⟨T9, X9, e9, st9⟩ := getS2 X6 hx hZ hown (host := "") (Or.inl (hw _ (gw 55 rfl))) Via.refl e6 (Sta.ext O0.2 S_8) (g := (mkF m 19 #[.val (.ref a1), .val (.ref a2), .val (.ref a2)] [])) rfl (hb hby d8_19)
  obtain ⟨T12, X12, e12, st12⟩ := getF X9 hx hZ hown (host := "") (Or.inl (hw _ (gw 28 rfl))) Via.refl e9 F11 (g := (mkF m 26 #[.val (.ref a1), .val (.ref a2), .val (.ref a2)] [(.ref a1)])) rfl rfl (hb hby d8_26)
  obtain ⟨T14, X14, e14, st14⟩ := getF X12 hx hZ hown (host := "") (Or.inl (hw _ (gw 28 rfl))) Via.refl e12 F13 (g := (mkF m 30 #[.val (.ref a1), .val (.ref a2), .val (.ref a2)] [(.ref a2), (.int (0 : Int32))])) rfl rfl (hb hby d8_30)
  obtain ⟨T17, X17, e17, st17⟩ := getF X14 hx hZ hown (host := "") (Or.inl (hw _ (gw 27 rfl))) Via.refl e14 F16 (g := (mkF m 37 #[.val (.ref a1), .val (.ref a2), .val (.ref a2)] [(.ref a1)])) rfl rfl (hb hby d8_37)
  obtain ⟨T20, X20, e20, st20⟩ := getF X17 hx hZ hown (host := "") (Or.inl (hw _ (gw 27 rfl))) Via.refl e17 F19 (g := (mkF m 41 #[.val (.ref a1), .val (.ref a2), .val (.ref a2)] [(.ref a2), (.ref a15)])) rfl rfl (hb hby d8_41)
  obtain ⟨_, _, ⟨T25, L25, k25, n25⟩, -, X25, ⟨Lc25, hQ25, l25, y25, z25⟩, st25⟩ := Jvm.LawKit.callS X20 hx (y := M_13) hown (mvT hZ (hw _ (gw 80 rfl))) (mvT hZ (hw _ (gw 81 rfl))) (mvT hZ (hw _ (gw 58 rfl))) (mvT hZ (hw _ (gw 82 rfl))) (by decide) (backOf (W := 0) (rm17_19 l Z a0 hw [] a15 a18 k21 k23 h0 n0  O0 V22 V24) hZ (hw _ (gw 82 rfl)) (hw _ (gw 58 rfl)) (by decide) (by decide)) (g := (mkF m 44 #[.val (.ref a1), .val (.ref a2), .val (.ref a2)] [(.ref a18), (.ref a15)])) rfl (by rw [hml]; rfl) (argsL := [(.ref a15), (.ref a18)]) (rest := []) (lenOf pd_13 rfl) rfl (by show 2 * 0 + _ ≤ _; exact Nat.le_of_eq rfl) (hb hby d8_44) (fun _ _ => ⟨rfl, e20, (by decide : 0 + 0 ≤ _), (by decide : 0 + 0 ≤ _)⟩)
  dsimp only [Pt.U, Pt.locs, Pt.cells, Pt.slots] at X25 l25 y25 z25 st25 hQ25
  subst l25 y25 z25
  obtain ⟨rfl, u27, u28⟩ := hQ25
  have N25 := Fr.app N0 u27
  obtain ⟨fs, hr, hrun, hended, hW, hsame⟩ := X25.leave (v := some (.int (1 : Int32))) (fun h => by rw [Bd.returns] at h; cases h)
  refine ⟨_, _, pre0 _ ?_, hrun, hended, _, _, rfl, ?_, ⟨_, rfl⟩, hW, hsame.mono (by decide) (by decide)⟩
  · show Steps p.tables e below (s₁.setTop (mkF m 0 #[.val (.ref a1), .val (.ref a2), .unset] [])) _
    refine XS.aloadN X0.here hx rfl (hb hby d8_0) rfl rfl ?_
    refine XS.aloadN X0.here hx rfl (hb hby d8_1) rfl rfl ?_
    refine Jvm.RoadKit.acmp (g := (mkF m 2 #[.val (.ref a1), .val (.ref a2), .unset] [(.ref a2), (.ref a1)])) X0 hx rfl rfl rfl (pc0 := 2) (pc' := 7) (same := false) rfl (hb hby d8_2) rfl (decide_eq_false fun q => hne3 (Value.ref.inj q)) (by decide) (by decide) ?_
    refine XS.aloadN X0.here hx rfl (hb hby d8_7) rfl rfl ?_
    refine st5 _ ?_
    refine XS.ifNo X5.here hx rfl (hb hby d8_11) rfl ((if0 _ _).trans (feq (by decide +kernel : ¬ ((1 : Int32) = (0 : Int32)))).1) ?_
    refine XS.aloadN X5.here hx rfl (hb hby d8_14) rfl rfl ?_
    refine st6 _ ?_
    refine XS.astoreN X6.here hx rfl (hb hby d8_18) rfl rfl (l' := #[.val (.ref a1), .val (.ref a2), .val (.ref a2)]) rfl ?_
    show Steps p.tables e below (T6.setTop (mkF m 19 #[.val (.ref a1), .val (.ref a2), .val (.ref a2)] [])) _
    refine st9 _ ?_
    refine XS.ifNo X9.here hx rfl (hb hby d8_22) rfl ((if0 _ _).trans (feq hk10).1) ?_
    refine XS.aloadN X9.here hx rfl (hb hby d8_25) rfl rfl ?_
    refine st12 _ ?_
    refine XS.aloadN X12.here hx rfl (hb hby d8_29) rfl rfl ?_
    refine st14 _ ?_
    refine XS.icmpNo X14.here hx rfl (hb hby d8_33) rfl (teq (by decide +kernel : (0 : Int32) = (0 : Int32))).2 ?_
    refine XS.aloadN X14.here hx rfl (hb hby d8_36) rfl rfl ?_
    refine st17 _ ?_
    show Steps p.tables e below (T17.setTop (mkF m 40 #[.val (.ref a1), .val (.ref a2), .val (.ref a2)] [(.ref a15)])) _
    refine XS.aloadN X17.here hx rfl (hb hby d8_40) rfl rfl ?_
    refine st20 _ ?_
    refine st25 _ ?_
    refine XS.ifNo X25.here hx rfl (hb hby d8_47) rfl ((if0 _ _).trans (feq (by decide +kernel : ¬ ((1 : Int32) = (0 : Int32)))).1) ?_
    refine XS.iconst X25.here hx rfl (hb hby d8_50) ?_
    refine XS.goto X25.here hx rfl (pc0 := 51) (pc' := 55) rfl (hb hby d8_51) (by decide) (by decide) ?_
    show Steps p.tables e below (T25.setTop (mkF m 55 #[.val (.ref a1), .val (.ref a2), .val (.ref a2)] [(.int (1 : Int32))])) _
    exact retN X25 hx (t := .boolean) Bd.returns (by simp) (hb hby d8_55) hr
  · show Q8_18 Z _ _ _ _ _ _ _ h0 n0 _ T25.heap _
    rw [u28]
    exact ⟨rfl, N25, rfl⟩
theorem ef_rm7_17 (m : MethodId) (x0 : Addr) (x1 : Addr) : entryFrame m #[(.ref x0), (.ref x1)] 2 = mkF m 0 #[.val (.ref x0), .val (.ref x1)] [] := by first | (simp [entryFrame, mkF, argsToLocals, Value.category]; done) | rfl
def Q7_17 (Z : State) (a1 : Addr) (a2 : Addr) (a6 : Addr) (a9 : Addr) (p15 : Int32) (a20 : Addr) (a22 : Addr) (k24 : ClassId) (k26 : ClassId) (h0 : Heap) (n0 : Nat) (v : Option Value) (h : Heap) (L : List Loc) : Prop := (v = some (.int (1 : Int32)) ∧ Fr n0 L ∧ h = h0)
set_option maxRecDepth 65536 in
set_option maxHeartbeats 40000000 in
theorem rm7_17 (l : Launch) (Z : State) (a0 : Array Value) (hw : ∀ d ∈ own_ws, d.before a0 Z = true) (ws : List Jvm.Cond) (a1 : Addr) (a2 : Addr) (a6 : Addr) (a9 : Addr) (p15 : Int32) (a20 : Addr) (a22 : Addr) (k24 : ClassId) (k26 : ClassId) (h0 : Heap) (n0 : Nat) (O0 : Old Z n0 h0) (E_3 : Exa Z h0 a2 C_1) (F7 : Fld Z h0 a2 C_1 "written" C_2 (.ref a6)) (F10 : Fld Z h0 a1 C_1 "written" C_2 (.ref a9)) (E_12 : Exa Z h0 a6 C_0) (hne13 : a6 ≠ a9) (E_14 : Exa Z h0 a9 C_0) (S_16 : Sta Z Z.heap C_0 "COMPACT_STRINGS" "Z" (.int p15)) (hk17 : ¬ (p15 = (0 : Int32))) (F18 : Fld Z h0 a6 C_0 "coder" "B" (.int (0 : Int32))) (F19 : Fld Z h0 a9 C_0 "coder" "B" (.int (0 : Int32))) (F21 : Fld Z h0 a6 C_0 "value" "[B" (.ref a20)) (F23 : Fld Z h0 a9 C_0 "value" "[B" (.ref a22)) (V25 : Arv Z h0 a20 k24 .byte (0 : Int32) [] (.int 0)) (V27 : Arv Z h0 a22 k26 .byte (0 : Int32) [] (.int 0)) :
    MetFree l M_15 (head1 (Jvm.Cond.code M_15 prog_67_method_3_code 2 (some .boolean) :: ws) ({ frames := 2, cells := 0, slots := 0, locals := 28 } : Room)) (fun a U => a = #[(.ref a1), (.ref a2)] ∧ Z.Warmed39 U.vm ∧ U.heap = h0) (fun _ _ _ _ _ => True) (fun _ U o U' => ∃ v L, o = .returned v ∧ Q7_17 Z a1 a2 a6 a9 p15 a20 a22 k24 k26 h0 n0 v U'.heap L ∧ FrameEnd U o U' L ({ frames := 2, cells := 0, slots := 0, locals := 28 } : Room).cells ({ frames := 2, cells := 0, slots := 0, locals := 28 } : Room).slots) := by
  refine MetFree.of_bodySF (plainFor_of_name pn_4) hisR ?_
  intro p e s m args below meth c s₁ Bd hml0 hP hK
  obtain ⟨rfl, hZ, hh⟩ := hP
  have hx := Bd.exec
  have hby := Bd.bytes
  have hml : c.maxLocals = 2 := hml0
  have hown : s.vm.findClass "com/example/vestry/vestry/JsonText$Numeral" = some m.cls := findClass_of_methodNamed Bd.named
  have hnm := (name_of_methodNamed Bd.named Bd.method).1
  have X0 : Stand p l e ({ frames := 2, cells := 0, slots := 0, locals := 28 } : Room) s m #[(.ref a1), (.ref a2)] below meth c s₁ [] 0 0 := Stand.of_body Bd
  have e0 : s₁.heap = h0 := by rw [← hh, Bd.state]; rfl
  have N0 := Fr.nil n0
  have pre0 : ∀ t, Steps p.tables e below (s₁.setTop (mkF m 0 #[.val (.ref a1), .val (.ref a2)] [])) t → Steps p.tables e below (s₁.setTop (entryFrame m #[(.ref a1), (.ref a2)] 2)) t := fun t k => castTop (ef_rm7_17 m a1 a2) k
  obtain ⟨T4, X4, e4, st4⟩ := instY X0 hx hZ hown (hw _ (gw 43 rfl)) e0 (Ins.self E_3) (g := (mkF m 1 #[.val (.ref a1), .val (.ref a2)] [(.ref a2)])) rfl rfl (hb hby d7_1)
  obtain ⟨T5, X5, e5, st5⟩ := castY X4 hx hZ hown (hw _ (gw 43 rfl)) e4 (Ins.self E_3) (g := (mkF m 8 #[.val (.ref a1), .val (.ref a2)] [(.ref a2)])) rfl rfl (hb hby d7_8)
  obtain ⟨T8, X8, e8, st8⟩ := getF X5 hx hZ hown (host := "") (Or.inl (hw _ (gw 36 rfl))) Via.refl e5 F7 (g := (mkF m 11 #[.val (.ref a1), .val (.ref a2)] [(.ref a2)])) rfl rfl (hb hby d7_11)
  obtain ⟨T11, X11, e11, st11⟩ := getF X8 hx hZ hown (host := "") (Or.inl (hw _ (gw 36 rfl))) Via.refl e8 F10 (g := (mkF m 15 #[.val (.ref a1), .val (.ref a2)] [(.ref a1), (.ref a6)])) rfl rfl (hb hby d7_15)
  obtain ⟨cq28, kq28, q28a, q28b, q28c⟩ := isOf hZ e11 E_12
  obtain ⟨_, _, ⟨T28, L28, k28, n28⟩, -, X28, ⟨Lc28, hQ28, l28, y28, z28⟩, st28⟩ := X11.virtualBack hx (y := M_14) (z := M_14) hown (mvT hZ (hw _ (gw 45 rfl))) (mvT hZ (hw _ (gw 46 rfl))) (notFace_of_selects (args := #[]) (mvT hZ (hw _ (gw 48 rfl)))) (mvT hZ (hw _ (gw 48 rfl))) (mvT hZ (hw _ (gw 47 rfl))) (by decide) (backOf (W := 0) (rm8_18 l Z a0 hw [] a6 a9 p15 a20 a22 k24 k26 h0 n0  O0 hne13 E_14 S_16 hk17 F18 F19 F21 F23 V25 V27) hZ (hw _ (gw 49 rfl)) (hw _ (gw 9 rfl)) (by decide) (by decide)) q28a q28c (g := (mkF m 18 #[.val (.ref a1), .val (.ref a2)] [(.ref a9), (.ref a6)])) rfl (by rw [hml]; rfl) (Steps.refl _) (argsL := [(.ref a9)]) (rest := []) (lenOf pd_14 rfl) rfl (by show 2 * 0 + _ ≤ _; exact Nat.le_of_eq rfl) (hb hby d7_18) (fun _ _ => ⟨rfl, e11, (by decide : 0 + 0 ≤ _), (by decide : 0 + 0 ≤ _)⟩)
  dsimp only [Pt.U, Pt.locs, Pt.cells, Pt.slots] at X28 l28 y28 z28 st28 hQ28
  subst l28 y28 z28
  obtain ⟨rfl, u30, u31⟩ := hQ28
  have N28 := Fr.app N0 u30
  obtain ⟨fs, hr, hrun, hended, hW, hsame⟩ := X28.leave (v := some (.int (1 : Int32))) (fun h => by rw [Bd.returns] at h; cases h)
  refine ⟨_, _, pre0 _ ?_, hrun, hended, _, _, rfl, ?_, ⟨_, rfl⟩, hW, hsame.mono (by decide) (by decide)⟩
  · show Steps p.tables e below (s₁.setTop (mkF m 0 #[.val (.ref a1), .val (.ref a2)] [])) _
    refine XS.aloadN X0.here hx rfl (hb hby d7_0) rfl rfl ?_
    refine st4 _ ?_
    refine XS.ifNo X4.here hx rfl (hb hby d7_4) rfl ((if0 _ _).trans (feq (by decide +kernel : ¬ ((1 : Int32) = (0 : Int32)))).1) ?_
    refine XS.aloadN X4.here hx rfl (hb hby d7_7) rfl rfl ?_
    refine st5 _ ?_
    refine st8 _ ?_
    refine XS.aloadN X8.here hx rfl (hb hby d7_14) rfl rfl ?_
    refine st11 _ ?_
    refine st28.trans ?_
    show Steps p.tables e below (T28.setTop (mkF m 21 #[.val (.ref a1), .val (.ref a2)] [(.int (1 : Int32))])) _
    refine XS.ifNo X28.here hx rfl (hb hby d7_21) rfl ((if0 _ _).trans (feq (by decide +kernel : ¬ ((1 : Int32) = (0 : Int32)))).1) ?_
    refine XS.iconst X28.here hx rfl (hb hby d7_24) ?_
    refine XS.goto X28.here hx rfl (pc0 := 25) (pc' := 29) rfl (hb hby d7_25) (by decide) (by decide) ?_
    show Steps p.tables e below (T28.setTop (mkF m 29 #[.val (.ref a1), .val (.ref a2)] [(.int (1 : Int32))])) _
    exact retN X28 hx (t := .boolean) Bd.returns (by simp) (hb hby d7_29) hr
  · show Q7_17 Z _ _ _ _ _ _ _ _ _ h0 n0 _ T28.heap _
    rw [u31]
    exact ⟨rfl, N28, rfl⟩
theorem ef_rm7_20 (m : MethodId) (x0 : Addr) (x1 : Addr) : entryFrame m #[(.ref x0), (.ref x1)] 2 = mkF m 0 #[.val (.ref x0), .val (.ref x1)] [] := by first | (simp [entryFrame, mkF, argsToLocals, Value.category]; done) | rfl
def Q7_20 (Z : State) (a1 : Addr) (a2 : Addr) (h0 : Heap) (n0 : Nat) (v : Option Value) (h : Heap) (L : List Loc) : Prop := (v = some (.int (0 : Int32)) ∧ Fr n0 L ∧ h = h0)
set_option maxRecDepth 65536 in
set_option maxHeartbeats 40000000 in
theorem rm7_20 (l : Launch) (Z : State) (a0 : Array Value) (hw : ∀ d ∈ own_ws, d.before a0 Z = true) (ws : List Jvm.Cond) (a1 : Addr) (a2 : Addr) (h0 : Heap) (n0 : Nat) (O0 : Old Z n0 h0) (E_3 : Exa Z h0 a2 C_0) :
    MetFree l M_15 (head1 (Jvm.Cond.code M_15 prog_67_method_3_code 2 (some .boolean) :: ws) ({ frames := 0, cells := 0, slots := 0, locals := 0 } : Room)) (fun a U => a = #[(.ref a1), (.ref a2)] ∧ Z.Warmed39 U.vm ∧ U.heap = h0) (fun _ _ _ _ _ => True) (fun _ U o U' => ∃ v L, o = .returned v ∧ Q7_20 Z a1 a2 h0 n0 v U'.heap L ∧ FrameEnd U o U' L ({ frames := 0, cells := 0, slots := 0, locals := 0 } : Room).cells ({ frames := 0, cells := 0, slots := 0, locals := 0 } : Room).slots) := by
  refine MetFree.of_bodySF (plainFor_of_name pn_4) hisR ?_
  intro p e s m args below meth c s₁ Bd hml0 hP hK
  obtain ⟨rfl, hZ, hh⟩ := hP
  have hx := Bd.exec
  have hby := Bd.bytes
  have hml : c.maxLocals = 2 := hml0
  have hown : s.vm.findClass "com/example/vestry/vestry/JsonText$Numeral" = some m.cls := findClass_of_methodNamed Bd.named
  have hnm := (name_of_methodNamed Bd.named Bd.method).1
  have X0 : Stand p l e ({ frames := 0, cells := 0, slots := 0, locals := 0 } : Room) s m #[(.ref a1), (.ref a2)] below meth c s₁ [] 0 0 := Stand.of_body Bd
  have e0 : s₁.heap = h0 := by rw [← hh, Bd.state]; rfl
  have N0 := Fr.nil n0
  have pre0 : ∀ t, Steps p.tables e below (s₁.setTop (mkF m 0 #[.val (.ref a1), .val (.ref a2)] [])) t → Steps p.tables e below (s₁.setTop (entryFrame m #[(.ref a1), (.ref a2)] 2)) t := fun t k => castTop (ef_rm7_20 m a1 a2) k
  obtain ⟨T4, X4, e4, st4⟩ := instNo X0 hx hZ hown (hw _ (gw 43 rfl)) e0 E_3 (own_notCast (hw _ (gw 50 rfl)) (hw _ (gw 51 rfl)) (hw _ (gw 30 rfl)) (by decide) (by decide)) (g := (mkF m 1 #[.val (.ref a1), .val (.ref a2)] [(.ref a2)])) rfl rfl (hb hby d7_1)
  obtain ⟨fs, hr, hrun, hended, hW, hsame⟩ := X4.leave (v := some (.int (0 : Int32))) (fun h => by rw [Bd.returns] at h; cases h)
  refine ⟨_, _, pre0 _ ?_, hrun, hended, _, _, rfl, ?_, ⟨_, rfl⟩, hW, hsame.mono (by decide) (by decide)⟩
  · show Steps p.tables e below (s₁.setTop (mkF m 0 #[.val (.ref a1), .val (.ref a2)] [])) _
    refine XS.aloadN X0.here hx rfl (hb hby d7_0) rfl rfl ?_
    refine st4 _ ?_
    refine XS.ifYes X4.here hx rfl (pc0 := 4) (pc' := 28) rfl (hb hby d7_4) rfl ((if0 _ _).trans (teq (by decide +kernel : (0 : Int32) = (0 : Int32))).1) (by decide) (by decide) ?_
    refine XS.iconst X4.here hx rfl (hb hby d7_28) ?_
    show Steps p.tables e below (T4.setTop (mkF m 29 #[.val (.ref a1), .val (.ref a2)] [(.int (0 : Int32))])) _
    exact retN X4 hx (t := .boolean) Bd.returns (by simp) (hb hby d7_29) hr
  · show Q7_20 Z _ _ h0 n0 _ T4.heap _
    rw [e4]
    exact ⟨rfl, N0, rfl⟩
theorem ef_rm7_21 (m : MethodId) (x0 : Addr) : entryFrame m #[(.ref x0), .null] 2 = mkF m 0 #[.val (.ref x0), .val .null] [] := by first | (simp [entryFrame, mkF, argsToLocals, Value.category]; done) | rfl
def Q7_21 (Z : State) (a1 : Addr) (h0 : Heap) (n0 : Nat) (v : Option Value) (h : Heap) (L : List Loc) : Prop := (v = some (.int (0 : Int32)) ∧ Fr n0 L ∧ h = h0)
set_option maxRecDepth 65536 in
set_option maxHeartbeats 40000000 in
theorem rm7_21 (l : Launch) (Z : State) (a0 : Array Value) (hw : ∀ d ∈ own_ws, d.before a0 Z = true) (ws : List Jvm.Cond) (a1 : Addr) (h0 : Heap) (n0 : Nat) (O0 : Old Z n0 h0) :
    MetFree l M_15 (head1 (Jvm.Cond.code M_15 prog_67_method_3_code 2 (some .boolean) :: ws) ({ frames := 0, cells := 0, slots := 0, locals := 0 } : Room)) (fun a U => a = #[(.ref a1), .null] ∧ Z.Warmed39 U.vm ∧ U.heap = h0) (fun _ _ _ _ _ => True) (fun _ U o U' => ∃ v L, o = .returned v ∧ Q7_21 Z a1 h0 n0 v U'.heap L ∧ FrameEnd U o U' L ({ frames := 0, cells := 0, slots := 0, locals := 0 } : Room).cells ({ frames := 0, cells := 0, slots := 0, locals := 0 } : Room).slots) := by
  refine MetFree.of_bodySF (plainFor_of_name pn_4) hisR ?_
  intro p e s m args below meth c s₁ Bd hml0 hP hK
  obtain ⟨rfl, hZ, hh⟩ := hP
  have hx := Bd.exec
  have hby := Bd.bytes
  have hml : c.maxLocals = 2 := hml0
  have hown : s.vm.findClass "com/example/vestry/vestry/JsonText$Numeral" = some m.cls := findClass_of_methodNamed Bd.named
  have hnm := (name_of_methodNamed Bd.named Bd.method).1
  have X0 : Stand p l e ({ frames := 0, cells := 0, slots := 0, locals := 0 } : Room) s m #[(.ref a1), .null] below meth c s₁ [] 0 0 := Stand.of_body Bd
  have e0 : s₁.heap = h0 := by rw [← hh, Bd.state]; rfl
  have N0 := Fr.nil n0
  have pre0 : ∀ t, Steps p.tables e below (s₁.setTop (mkF m 0 #[.val (.ref a1), .val .null] [])) t → Steps p.tables e below (s₁.setTop (entryFrame m #[(.ref a1), .null] 2)) t := fun t k => castTop (ef_rm7_21 m a1) k
  obtain ⟨fs, hr, hrun, hended, hW, hsame⟩ := X0.leave (v := some (.int (0 : Int32))) (fun h => by rw [Bd.returns] at h; cases h)
  refine ⟨_, _, pre0 _ ?_, hrun, hended, _, _, rfl, ?_, ⟨_, rfl⟩, hW, hsame.mono (by decide) (by decide)⟩
  · show Steps p.tables e below (s₁.setTop (mkF m 0 #[.val (.ref a1), .val .null] [])) _
    refine XS.aloadN X0.here hx rfl (hb hby d7_0) rfl rfl ?_
    refine X0.instanceofNull hx (g := (mkF m 1 #[.val (.ref a1), .val .null] [.null])) rfl rfl (hb hby d7_1) _ ?_
    refine XS.ifYes X0.here hx rfl (pc0 := 4) (pc' := 28) rfl (hb hby d7_4) rfl ((if0 _ _).trans (teq (by decide +kernel : (0 : Int32) = (0 : Int32))).1) (by decide) (by decide) ?_
    refine XS.iconst X0.here hx rfl (hb hby d7_28) ?_
    show Steps p.tables e below (s₁.setTop (mkF m 29 #[.val (.ref a1), .val .null] [(.int (0 : Int32))])) _
    exact retN X0 hx (t := .boolean) Bd.returns (by simp) (hb hby d7_29) hr
  · show Q7_21 Z _ h0 n0 _ s₁.heap _
    rw [e0]
    exact ⟨rfl, N0, rfl⟩
theorem ef_rm8_23 (m : MethodId) (x0 : Addr) (x1 : Addr) : entryFrame m #[(.ref x0), (.ref x1)] 3 = mkF m 0 #[.val (.ref x0), .val (.ref x1), .unset] [] := by first | (simp [entryFrame, mkF, argsToLocals, Value.category]; done) | rfl
def Q8_23 (Z : State) (a1 : Addr) (h0 : Heap) (n0 : Nat) (v : Option Value) (h : Heap) (L : List Loc) : Prop := (v = some (.int (1 : Int32)) ∧ Fr n0 L ∧ h = h0)
set_option maxRecDepth 65536 in
set_option maxHeartbeats 40000000 in
theorem rm8_23 (l : Launch) (Z : State) (a0 : Array Value) (hw : ∀ d ∈ own_ws, d.before a0 Z = true) (ws : List Jvm.Cond) (a1 : Addr) (h0 : Heap) (n0 : Nat) (O0 : Old Z n0 h0) :
    MetFree l M_14 (head1 (Jvm.Cond.code M_14 jdk_42_method_66_code 3 (some .boolean) :: ws) ({ frames := 0, cells := 0, slots := 0, locals := 0 } : Room)) (fun a U => a = #[(.ref a1), (.ref a1)] ∧ Z.Warmed39 U.vm ∧ U.heap = h0) (fun _ _ _ _ _ => True) (fun _ U o U' => ∃ v L, o = .returned v ∧ Q8_23 Z a1 h0 n0 v U'.heap L ∧ FrameEnd U o U' L ({ frames := 0, cells := 0, slots := 0, locals := 0 } : Room).cells ({ frames := 0, cells := 0, slots := 0, locals := 0 } : Room).slots) := by
  refine MetFree.of_bodySF (plainFor_of_name pn_1) hisR ?_
  intro p e s m args below meth c s₁ Bd hml0 hP hK
  obtain ⟨rfl, hZ, hh⟩ := hP
  have hx := Bd.exec
  have hby := Bd.bytes
  have hml : c.maxLocals = 3 := hml0
  have hown : s.vm.findClass "java/lang/String" = some m.cls := findClass_of_methodNamed Bd.named
  have hnm := (name_of_methodNamed Bd.named Bd.method).1
  have X0 : Stand p l e ({ frames := 0, cells := 0, slots := 0, locals := 0 } : Room) s m #[(.ref a1), (.ref a1)] below meth c s₁ [] 0 0 := Stand.of_body Bd
  have e0 : s₁.heap = h0 := by rw [← hh, Bd.state]; rfl
  have N0 := Fr.nil n0
  have pre0 : ∀ t, Steps p.tables e below (s₁.setTop (mkF m 0 #[.val (.ref a1), .val (.ref a1), .unset] [])) t → Steps p.tables e below (s₁.setTop (entryFrame m #[(.ref a1), (.ref a1)] 3)) t := fun t k => castTop (ef_rm8_23 m a1 a1) k
  obtain ⟨fs, hr, hrun, hended, hW, hsame⟩ := X0.leave (v := some (.int (1 : Int32))) (fun h => by rw [Bd.returns] at h; cases h)
  refine ⟨_, _, pre0 _ ?_, hrun, hended, _, _, rfl, ?_, ⟨_, rfl⟩, hW, hsame.mono (by decide) (by decide)⟩
  · show Steps p.tables e below (s₁.setTop (mkF m 0 #[.val (.ref a1), .val (.ref a1), .unset] [])) _
    refine XS.aloadN X0.here hx rfl (hb hby d8_0) rfl rfl ?_
    refine XS.aloadN X0.here hx rfl (hb hby d8_1) rfl rfl ?_
    refine Jvm.RoadKit.acmp (g := (mkF m 2 #[.val (.ref a1), .val (.ref a1), .unset] [(.ref a1), (.ref a1)])) X0 hx rfl rfl rfl (pc0 := 2) (pc' := 5) (same := true) rfl (hb hby d8_2) rfl (decide_eq_true rfl) (by decide) (by decide) ?_
    refine XS.iconst X0.here hx rfl (hb hby d8_5) ?_
    show Steps p.tables e below (s₁.setTop (mkF m 6 #[.val (.ref a1), .val (.ref a1), .unset] [(.int (1 : Int32))])) _
    exact retN X0 hx (t := .boolean) Bd.returns (by simp) (hb hby d8_6) hr
  · show Q8_23 Z _ h0 n0 _ s₁.heap _
    rw [e0]
    exact ⟨rfl, N0, rfl⟩
theorem ef_rm7_22 (m : MethodId) (x0 : Addr) (x1 : Addr) : entryFrame m #[(.ref x0), (.ref x1)] 2 = mkF m 0 #[.val (.ref x0), .val (.ref x1)] [] := by first | (simp [entryFrame, mkF, argsToLocals, Value.category]; done) | rfl
def Q7_22 (Z : State) (a1 : Addr) (a5 : Addr) (h0 : Heap) (n0 : Nat) (v : Option Value) (h : Heap) (L : List Loc) : Prop := (v = some (.int (1 : Int32)) ∧ Fr n0 L ∧ h = h0)
set_option maxRecDepth 65536 in
set_option maxHeartbeats 40000000 in
theorem rm7_22 (l : Launch) (Z : State) (a0 : Array Value) (hw : ∀ d ∈ own_ws, d.before a0 Z = true) (ws : List Jvm.Cond) (a1 : Addr) (a5 : Addr) (h0 : Heap) (n0 : Nat) (O0 : Old Z n0 h0) (E_2 : Exa Z h0 a1 C_1) (F6 : Fld Z h0 a1 C_1 "written" C_2 (.ref a5)) (E_9 : Exa Z h0 a5 C_0) :
    MetFree l M_15 (head1 (Jvm.Cond.code M_15 prog_67_method_3_code 2 (some .boolean) :: ws) ({ frames := 1, cells := 0, slots := 0, locals := 14 } : Room)) (fun a U => a = #[(.ref a1), (.ref a1)] ∧ Z.Warmed39 U.vm ∧ U.heap = h0) (fun _ _ _ _ _ => True) (fun _ U o U' => ∃ v L, o = .returned v ∧ Q7_22 Z a1 a5 h0 n0 v U'.heap L ∧ FrameEnd U o U' L ({ frames := 1, cells := 0, slots := 0, locals := 14 } : Room).cells ({ frames := 1, cells := 0, slots := 0, locals := 14 } : Room).slots) := by
  refine MetFree.of_bodySF (plainFor_of_name pn_4) hisR ?_
  intro p e s m args below meth c s₁ Bd hml0 hP hK
  obtain ⟨rfl, hZ, hh⟩ := hP
  have hx := Bd.exec
  have hby := Bd.bytes
  have hml : c.maxLocals = 2 := hml0
  have hown : s.vm.findClass "com/example/vestry/vestry/JsonText$Numeral" = some m.cls := findClass_of_methodNamed Bd.named
  have hnm := (name_of_methodNamed Bd.named Bd.method).1
  have X0 : Stand p l e ({ frames := 1, cells := 0, slots := 0, locals := 14 } : Room) s m #[(.ref a1), (.ref a1)] below meth c s₁ [] 0 0 := Stand.of_body Bd
  have e0 : s₁.heap = h0 := by rw [← hh, Bd.state]; rfl
  have N0 := Fr.nil n0
  have pre0 : ∀ t, Steps p.tables e below (s₁.setTop (mkF m 0 #[.val (.ref a1), .val (.ref a1)] [])) t → Steps p.tables e below (s₁.setTop (entryFrame m #[(.ref a1), (.ref a1)] 2)) t := fun t k => castTop (ef_rm7_22 m a1 a1) k
  obtain ⟨T3, X3, e3, st3⟩ := instY X0 hx hZ hown (hw _ (gw 43 rfl)) e0 (Ins.self E_2) (g := (mkF m 1 #[.val (.ref a1), .val (.ref a1)] [(.ref a1)])) rfl rfl (hb hby d7_1)
  obtain ⟨T4, X4, e4, st4⟩ := castY X3 hx hZ hown (hw _ (gw 43 rfl)) e3 (Ins.self E_2) (g := (mkF m 8 #[.val (.ref a1), .val (.ref a1)] [(.ref a1)])) rfl rfl (hb hby d7_8)
  obtain ⟨T7, X7, e7, st7⟩ := getF X4 hx hZ hown (host := "") (Or.inl (hw _ (gw 36 rfl))) Via.refl e4 F6 (g := (mkF m 11 #[.val (.ref a1), .val (.ref a1)] [(.ref a1)])) rfl rfl (hb hby d7_11)
  obtain ⟨T8, X8, e8, st8⟩ := getF X7 hx hZ hown (host := "") (Or.inl (hw _ (gw 36 rfl))) Via.refl e7 F6 (g := (mkF m 15 #[.val (.ref a1), .val (.ref a1)] [(.ref a1), (.ref a5)])) rfl rfl (hb hby d7_15)
  obtain ⟨cq10, kq10, q10a, q10b, q10c⟩ := isOf hZ e8 E_9
  obtain ⟨_, _, ⟨T10, L10, k10, n10⟩, -, X10, ⟨Lc10, hQ10, l10, y10, z10⟩, st10⟩ := X8.virtualBack hx (y := M_14) (z := M_14) hown (mvT hZ (hw _ (gw 45 rfl))) (mvT hZ (hw _ (gw 46 rfl))) (notFace_of_selects (args := #[]) (mvT hZ (hw _ (gw 48 rfl)))) (mvT hZ (hw _ (gw 48 rfl))) (mvT hZ (hw _ (gw 47 rfl))) (by decide) (backOf (W := 0) (rm8_23 l Z a0 hw [] a5 h0 n0  O0) hZ (hw _ (gw 49 rfl)) (hw _ (gw 9 rfl)) (by decide) (by decide)) q10a q10c (g := (mkF m 18 #[.val (.ref a1), .val (.ref a1)] [(.ref a5), (.ref a5)])) rfl (by rw [hml]; rfl) (Steps.refl _) (argsL := [(.ref a5)]) (rest := []) (lenOf pd_14 rfl) rfl (by show 2 * 0 + _ ≤ _; exact Nat.le_of_eq rfl) (hb hby d7_18) (fun _ _ => ⟨rfl, e8, (by decide : 0 + 0 ≤ _), (by decide : 0 + 0 ≤ _)⟩)
  dsimp only [Pt.U, Pt.locs, Pt.cells, Pt.slots] at X10 l10 y10 z10 st10 hQ10
  subst l10 y10 z10
  obtain ⟨rfl, u12, u13⟩ := hQ10
  have N10 := Fr.app N0 u12
  obtain ⟨fs, hr, hrun, hended, hW, hsame⟩ := X10.leave (v := some (.int (1 : Int32))) (fun h => by rw [Bd.returns] at h; cases h)
  refine ⟨_, _, pre0 _ ?_, hrun, hended, _, _, rfl, ?_, ⟨_, rfl⟩, hW, hsame.mono (by decide) (by decide)⟩
  · show Steps p.tables e below (s₁.setTop (mkF m 0 #[.val (.ref a1), .val (.ref a1)] [])) _
    refine XS.aloadN X0.here hx rfl (hb hby d7_0) rfl rfl ?_
    refine st3 _ ?_
    refine XS.ifNo X3.here hx rfl (hb hby d7_4) rfl ((if0 _ _).trans (feq (by decide +kernel : ¬ ((1 : Int32) = (0 : Int32)))).1) ?_
    refine XS.aloadN X3.here hx rfl (hb hby d7_7) rfl rfl ?_
    refine st4 _ ?_
    refine st7 _ ?_
    refine XS.aloadN X7.here hx rfl (hb hby d7_14) rfl rfl ?_
    refine st8 _ ?_
    refine st10.trans ?_
    show Steps p.tables e below (T10.setTop (mkF m 21 #[.val (.ref a1), .val (.ref a1)] [(.int (1 : Int32))])) _
    refine XS.ifNo X10.here hx rfl (hb hby d7_21) rfl ((if0 _ _).trans (feq (by decide +kernel : ¬ ((1 : Int32) = (0 : Int32)))).1) ?_
    refine XS.iconst X10.here hx rfl (hb hby d7_24) ?_
    refine XS.goto X10.here hx rfl (pc0 := 25) (pc' := 29) rfl (hb hby d7_25) (by decide) (by decide) ?_
    show Steps p.tables e below (T10.setTop (mkF m 29 #[.val (.ref a1), .val (.ref a1)] [(.int (1 : Int32))])) _
    exact retN X10 hx (t := .boolean) Bd.returns (by simp) (hb hby d7_29) hr
  · show Q7_22 Z _ _ h0 n0 _ T10.heap _
    rw [u13]
    exact ⟨rfl, N10, rfl⟩
theorem ef_rm17_26 (m : MethodId) (x0 : Addr) (x1 : Addr) : entryFrame m #[(.ref x0), (.ref x1)] 3 = mkF m 0 #[.val (.ref x0), .val (.ref x1), .unset] [] := by first | (simp [entryFrame, mkF, argsToLocals, Value.category]; done) | rfl
def Q17_26 (Z : State) (a1 : Addr) (a2 : Addr) (p3 : Int32) (k4 : ClassId) (k7 : ClassId) (h0 : Heap) (n0 : Nat) (v : Option Value) (h : Heap) (L : List Loc) : Prop := (v = some (.int (0 : Int32)) ∧ Fr n0 L ∧ h = h0)
set_option maxRecDepth 65536 in
set_option maxHeartbeats 40000000 in
theorem rm17_26 (l : Launch) (Z : State) (a0 : Array Value) (hw : ∀ d ∈ own_ws, d.before a0 Z = true) (ws : List Jvm.Cond) (a1 : Addr) (a2 : Addr) (p3 : Int32) (k4 : ClassId) (k7 : ClassId) (h0 : Heap) (n0 : Nat) (O0 : Old Z n0 h0) (V5 : Arv Z h0 a1 k4 .byte (1 : Int32) [(.int p3)] (.int (0 : Int32))) (V8 : Arv Z h0 a2 k7 .byte (0 : Int32) [] (.int 0)) :
    MetFree l M_13 (head1 (Jvm.Cond.code M_13 jdk_43_method_13_code 3 (some .boolean) :: ws) ({ frames := 0, cells := 0, slots := 0, locals := 0 } : Room)) (fun a U => a = #[(.ref a1), (.ref a2)] ∧ Z.Warmed39 U.vm ∧ U.heap = h0) (fun _ _ _ _ _ => True) (fun _ U o U' => ∃ v L, o = .returned v ∧ Q17_26 Z a1 a2 p3 k4 k7 h0 n0 v U'.heap L ∧ FrameEnd U o U' L ({ frames := 0, cells := 0, slots := 0, locals := 0 } : Room).cells ({ frames := 0, cells := 0, slots := 0, locals := 0 } : Room).slots) := by
  refine MetFree.of_bodySF (plainFor_of_name pn_2) hisR ?_
  intro p e s m args below meth c s₁ Bd hml0 hP hK
  obtain ⟨rfl, hZ, hh⟩ := hP
  have hx := Bd.exec
  have hby := Bd.bytes
  have hml : c.maxLocals = 3 := hml0
  have hown : s.vm.findClass "java/lang/StringLatin1" = some m.cls := findClass_of_methodNamed Bd.named
  have hnm := (name_of_methodNamed Bd.named Bd.method).1
  have X0 : Stand p l e ({ frames := 0, cells := 0, slots := 0, locals := 0 } : Room) s m #[(.ref a1), (.ref a2)] below meth c s₁ [] 0 0 := Stand.of_body Bd
  have e0 : s₁.heap = h0 := by rw [← hh, Bd.state]; rfl
  have N0 := Fr.nil n0
  have pre0 : ∀ t, Steps p.tables e below (s₁.setTop (mkF m 0 #[.val (.ref a1), .val (.ref a2), .unset] [])) t → Steps p.tables e below (s₁.setTop (entryFrame m #[(.ref a1), (.ref a2)] 3)) t := fun t k => castTop (ef_rm17_26 m a1 a2) k
  obtain ⟨cl6, Ar6, -, Sz6, Nn6, -, -⟩ := id V5
  obtain ⟨cl9, Ar9, -, Sz9, Nn9, -, -⟩ := id V8
  obtain ⟨fs, hr, hrun, hended, hW, hsame⟩ := X0.leave (v := some (.int (0 : Int32))) (fun h => by rw [Bd.returns] at h; cases h)
  refine ⟨_, _, pre0 _ ?_, hrun, hended, _, _, rfl, ?_, ⟨_, rfl⟩, hW, hsame.mono (by decide) (by decide)⟩
  · show Steps p.tables e below (s₁.setTop (mkF m 0 #[.val (.ref a1), .val (.ref a2), .unset] [])) _
    refine XS.aloadN X0.here hx rfl (hb hby d17_0) rfl rfl ?_
    refine X0.arraylength hx (by rw [e0]; exact Ar6.1) (State.isArrayOf_alike hZ.alike Ar6.2.1) (g := (mkF m 1 #[.val (.ref a1), .val (.ref a2), .unset] [(.ref a1)])) rfl rfl (hb hby d17_1) _ ?_
    rw [len_of Sz6 Nn6]
    refine XS.aloadN X0.here hx rfl (hb hby d17_2) rfl rfl ?_
    refine X0.arraylength hx (by rw [e0]; exact Ar9.1) (State.isArrayOf_alike hZ.alike Ar9.2.1) (g := (mkF m 3 #[.val (.ref a1), .val (.ref a2), .unset] [(.ref a2), (.int (1 : Int32))])) rfl rfl (hb hby d17_3) _ ?_
    rw [len_of Sz9 Nn9]
    refine XS.icmpYes X0.here hx rfl (pc0 := 4) (pc' := 34) rfl (hb hby d17_4) rfl (feq (by decide +kernel : ¬ ((1 : Int32) = (0 : Int32)))).2 (by decide) (by decide) ?_
    refine XS.iconst X0.here hx rfl (hb hby d17_34) ?_
    show Steps p.tables e below (s₁.setTop (mkF m 35 #[.val (.ref a1), .val (.ref a2), .unset] [(.int (0 : Int32))])) _
    exact retN X0 hx (t := .boolean) Bd.returns (by simp) (hb hby d17_35) hr
  · show Q17_26 Z _ _ _ _ _ h0 n0 _ s₁.heap _
    rw [e0]
    exact ⟨rfl, N0, rfl⟩
theorem ef_rm8_25 (m : MethodId) (x0 : Addr) (x1 : Addr) : entryFrame m #[(.ref x0), (.ref x1)] 3 = mkF m 0 #[.val (.ref x0), .val (.ref x1), .unset] [] := by first | (simp [entryFrame, mkF, argsToLocals, Value.category]; done) | rfl
def Q8_25 (Z : State) (a1 : Addr) (a2 : Addr) (p7 : Int32) (a15 : Addr) (a18 : Addr) (p21 : Int32) (k22 : ClassId) (k24 : ClassId) (h0 : Heap) (n0 : Nat) (v : Option Value) (h : Heap) (L : List Loc) : Prop := (v = some (.int (0 : Int32)) ∧ Fr n0 L ∧ h = h0)
set_option maxRecDepth 65536 in
set_option maxHeartbeats 40000000 in
theorem rm8_25 (l : Launch) (Z : State) (a0 : Array Value) (hw : ∀ d ∈ own_ws, d.before a0 Z = true) (ws : List Jvm.Cond) (a1 : Addr) (a2 : Addr) (p7 : Int32) (a15 : Addr) (a18 : Addr) (p21 : Int32) (k22 : ClassId) (k24 : ClassId) (h0 : Heap) (n0 : Nat) (O0 : Old Z n0 h0) (hne3 : a1 ≠ a2) (E_4 : Exa Z h0 a2 C_0) (S_8 : Sta Z Z.heap C_0 "COMPACT_STRINGS" "Z" (.int p7)) (hk10 : ¬ (p7 = (0 : Int32))) (F11 : Fld Z h0 a1 C_0 "coder" "B" (.int (0 : Int32))) (F13 : Fld Z h0 a2 C_0 "coder" "B" (.int (0 : Int32))) (F16 : Fld Z h0 a1 C_0 "value" "[B" (.ref a15)) (F19 : Fld Z h0 a2 C_0 "value" "[B" (.ref a18)) (V23 : Arv Z h0 a15 k22 .byte (1 : Int32) [(.int p21)] (.int (0 : Int32))) (V25 : Arv Z h0 a18 k24 .byte (0 : Int32) [] (.int 0)) :
    MetFree l M_14 (head1 (Jvm.Cond.code M_14 jdk_42_method_66_code 3 (some .boolean) :: ws) ({ frames := 1, cells := 0, slots := 0, locals := 14 } : Room)) (fun a U => a = #[(.ref a1), (.ref a2)] ∧ Z.Warmed39 U.vm ∧ U.heap = h0) (fun _ _ _ _ _ => True) (fun _ U o U' => ∃ v L, o = .returned v ∧ Q8_25 Z a1 a2 p7 a15 a18 p21 k22 k24 h0 n0 v U'.heap L ∧ FrameEnd U o U' L ({ frames := 1, cells := 0, slots := 0, locals := 14 } : Room).cells ({ frames := 1, cells := 0, slots := 0, locals := 14 } : Room).slots) := by
  refine MetFree.of_bodySF (plainFor_of_name pn_1) hisR ?_
  intro p e s m args below meth c s₁ Bd hml0 hP hK
  obtain ⟨rfl, hZ, hh⟩ := hP
  have hx := Bd.exec
  have hby := Bd.bytes
  have hml : c.maxLocals = 3 := hml0
  have hown : s.vm.findClass "java/lang/String" = some m.cls := findClass_of_methodNamed Bd.named
  have hnm := (name_of_methodNamed Bd.named Bd.method).1
  have X0 : Stand p l e ({ frames := 1, cells := 0, slots := 0, locals := 14 } : Room) s m #[(.ref a1), (.ref a2)] below meth c s₁ [] 0 0 := Stand.of_body Bd
  have e0 : s₁.heap = h0 := by rw [← hh, Bd.state]; rfl
  have N0 := Fr.nil n0
  have pre0 : ∀ t, Steps p.tables e below (s₁.setTop (mkF m 0 #[.val (.ref a1), .val (.ref a2), .unset] [])) t → Steps p.tables e below (s₁.setTop (entryFrame m #[(.ref a1), (.ref a2)] 3)) t := fun t k => castTop (ef_rm8_25 m a1 a2) k
  obtain ⟨T5, X5, e5, st5⟩ := instY X0 hx hZ hown (hw _ (gw 60 rfl)) e0 (Ins.self E_4) (g := (mkF m 8 #[.val (.ref a1), .val (.ref a2), .unset] [(.ref a2)])) rfl rfl (hb hby d8_8)
  obtain ⟨T6, X6, e6, st6⟩ := castY X5 hx hZ hown (hw _ (gw 60 rfl)) e5 (Ins.self E_4) (g := (mkF m 15 #[.val (.ref a1), .val (.ref a2), .unset] [(.ref a2)])) rfl rfl (hb hby d8_15)
  obtain ⟨T9, X9, e9, st9⟩ := getS2 X6 hx hZ hown (host := "") (Or.inl (hw _ (gw 55 rfl))) Via.refl e6 (Sta.ext O0.2 S_8) (g := (mkF m 19 #[.val (.ref a1), .val (.ref a2), .val (.ref a2)] [])) rfl (hb hby d8_19)
  obtain ⟨T12, X12, e12, st12⟩ := getF X9 hx hZ hown (host := "") (Or.inl (hw _ (gw 28 rfl))) Via.refl e9 F11 (g := (mkF m 26 #[.val (.ref a1), .val (.ref a2), .val (.ref a2)] [(.ref a1)])) rfl rfl (hb hby d8_26)
  obtain ⟨T14, X14, e14, st14⟩ := getF X12 hx hZ hown (host := "") (Or.inl (hw _ (gw 28 rfl))) Via.refl e12 F13 (g := (mkF m 30 #[.val (.ref a1), .val (.ref a2), .val (.ref a2)] [(.ref a2), (.int (0 : Int32))])) rfl rfl (hb hby d8_30)
  obtain ⟨T17, X17, e17, st17⟩ := getF X14 hx hZ hown (host := "") (Or.inl (hw _ (gw 27 rfl))) Via.refl e14 F16 (g := (mkF m 37 #[.val (.ref a1), .val (.ref a2), .val (.ref a2)] [(.ref a1)])) rfl rfl (hb hby d8_37)
  obtain ⟨T20, X20, e20, st20⟩ := getF X17 hx hZ hown (host := "") (Or.inl (hw _ (gw 27 rfl))) Via.refl e17 F19 (g := (mkF m 41 #[.val (.ref a1), .val (.ref a2), .val (.ref a2)] [(.ref a2), (.ref a15)])) rfl rfl (hb hby d8_41)
  obtain ⟨_, _, ⟨T26, L26, k26, n26⟩, -, X26, ⟨Lc26, hQ26, l26, y26, z26⟩, st26⟩ := Jvm.LawKit.callS X20 hx (y := M_13) hown (mvT hZ (hw _ (gw 80 rfl))) (mvT hZ (hw _ (gw 81 rfl))) (mvT hZ (hw _ (gw 58 rfl))) (mvT hZ (hw _ (gw 82 rfl))) (by decide) (backOf (W := 0) (rm17_26 l Z a0 hw [] a15 a18 p21 k22 k24 h0 n0  O0 V23 V25) hZ (hw _ (gw 82 rfl)) (hw _ (gw 58 rfl)) (by decide) (by decide)) (g := (mkF m 44 #[.val (.ref a1), .val (.ref a2), .val (.ref a2)] [(.ref a18), (.ref a15)])) rfl (by rw [hml]; rfl) (argsL := [(.ref a15), (.ref a18)]) (rest := []) (lenOf pd_13 rfl) rfl (by show 2 * 0 + _ ≤ _; exact Nat.le_of_eq rfl) (hb hby d8_44) (fun _ _ => ⟨rfl, e20, (by decide : 0 + 0 ≤ _), (by decide : 0 + 0 ≤ _)⟩)
  dsimp only [Pt.U, Pt.locs, Pt.cells, Pt.slots] at X26 l26 y26 z26 st26 hQ26
  subst l26 y26 z26
  obtain ⟨rfl, u28, u29⟩ := hQ26
  have N26 := Fr.app N0 u28
  obtain ⟨fs, hr, hrun, hended, hW, hsame⟩ := X26.leave (v := some (.int (0 : Int32))) (fun h => by rw [Bd.returns] at h; cases h)
  refine ⟨_, _, pre0 _ ?_, hrun, hended, _, _, rfl, ?_, ⟨_, rfl⟩, hW, hsame.mono (by decide) (by decide)⟩
  · show Steps p.tables e below (s₁.setTop (mkF m 0 #[.val (.ref a1), .val (.ref a2), .unset] [])) _
    refine XS.aloadN X0.here hx rfl (hb hby d8_0) rfl rfl ?_
    refine XS.aloadN X0.here hx rfl (hb hby d8_1) rfl rfl ?_
    refine Jvm.RoadKit.acmp (g := (mkF m 2 #[.val (.ref a1), .val (.ref a2), .unset] [(.ref a2), (.ref a1)])) X0 hx rfl rfl rfl (pc0 := 2) (pc' := 7) (same := false) rfl (hb hby d8_2) rfl (decide_eq_false fun q => hne3 (Value.ref.inj q)) (by decide) (by decide) ?_
    refine XS.aloadN X0.here hx rfl (hb hby d8_7) rfl rfl ?_
    refine st5 _ ?_
    refine XS.ifNo X5.here hx rfl (hb hby d8_11) rfl ((if0 _ _).trans (feq (by decide +kernel : ¬ ((1 : Int32) = (0 : Int32)))).1) ?_
    refine XS.aloadN X5.here hx rfl (hb hby d8_14) rfl rfl ?_
    refine st6 _ ?_
    refine XS.astoreN X6.here hx rfl (hb hby d8_18) rfl rfl (l' := #[.val (.ref a1), .val (.ref a2), .val (.ref a2)]) rfl ?_
    show Steps p.tables e below (T6.setTop (mkF m 19 #[.val (.ref a1), .val (.ref a2), .val (.ref a2)] [])) _
    refine st9 _ ?_
    refine XS.ifNo X9.here hx rfl (hb hby d8_22) rfl ((if0 _ _).trans (feq hk10).1) ?_
    refine XS.aloadN X9.here hx rfl (hb hby d8_25) rfl rfl ?_
    refine st12 _ ?_
    refine XS.aloadN X12.here hx rfl (hb hby d8_29) rfl rfl ?_
    refine st14 _ ?_
    refine XS.icmpNo X14.here hx rfl (hb hby d8_33) rfl (teq (by decide +kernel : (0 : Int32) = (0 : Int32))).2 ?_
    refine XS.aloadN X14.here hx rfl (hb hby d8_36) rfl rfl ?_
    refine st17 _ ?_
    show Steps p.tables e below (T17.setTop (mkF m 40 #[.val (.ref a1), .val (.ref a2), .val (.ref a2)] [(.ref a15)])) _
    refine XS.aloadN X17.here hx rfl (hb hby d8_40) rfl rfl ?_
    refine st20 _ ?_
    refine st26 _ ?_
    refine XS.ifYes X26.here hx rfl (pc0 := 47) (pc' := 54) rfl (hb hby d8_47) rfl ((if0 _ _).trans (teq (by decide +kernel : (0 : Int32) = (0 : Int32))).1) (by decide) (by decide) ?_
    refine XS.iconst X26.here hx rfl (hb hby d8_54) ?_
    show Steps p.tables e below (T26.setTop (mkF m 55 #[.val (.ref a1), .val (.ref a2), .val (.ref a2)] [(.int (0 : Int32))])) _
    exact retN X26 hx (t := .boolean) Bd.returns (by simp) (hb hby d8_55) hr
  · show Q8_25 Z _ _ _ _ _ _ _ _ h0 n0 _ T26.heap _
    rw [u29]
    exact ⟨rfl, N26, rfl⟩
theorem ef_rm7_24 (m : MethodId) (x0 : Addr) (x1 : Addr) : entryFrame m #[(.ref x0), (.ref x1)] 2 = mkF m 0 #[.val (.ref x0), .val (.ref x1)] [] := by first | (simp [entryFrame, mkF, argsToLocals, Value.category]; done) | rfl
def Q7_24 (Z : State) (a1 : Addr) (a2 : Addr) (a6 : Addr) (a9 : Addr) (p15 : Int32) (a20 : Addr) (a22 : Addr) (p24 : Int32) (k25 : ClassId) (k27 : ClassId) (h0 : Heap) (n0 : Nat) (v : Option Value) (h : Heap) (L : List Loc) : Prop := (v = some (.int (0 : Int32)) ∧ Fr n0 L ∧ h = h0)
set_option maxRecDepth 65536 in
set_option maxHeartbeats 40000000 in
theorem rm7_24 (l : Launch) (Z : State) (a0 : Array Value) (hw : ∀ d ∈ own_ws, d.before a0 Z = true) (ws : List Jvm.Cond) (a1 : Addr) (a2 : Addr) (a6 : Addr) (a9 : Addr) (p15 : Int32) (a20 : Addr) (a22 : Addr) (p24 : Int32) (k25 : ClassId) (k27 : ClassId) (h0 : Heap) (n0 : Nat) (O0 : Old Z n0 h0) (E_3 : Exa Z h0 a2 C_1) (F7 : Fld Z h0 a2 C_1 "written" C_2 (.ref a6)) (F10 : Fld Z h0 a1 C_1 "written" C_2 (.ref a9)) (E_12 : Exa Z h0 a6 C_0) (hne13 : a6 ≠ a9) (E_14 : Exa Z h0 a9 C_0) (S_16 : Sta Z Z.heap C_0 "COMPACT_STRINGS" "Z" (.int p15)) (hk17 : ¬ (p15 = (0 : Int32))) (F18 : Fld Z h0 a6 C_0 "coder" "B" (.int (0 : Int32))) (F19 : Fld Z h0 a9 C_0 "coder" "B" (.int (0 : Int32))) (F21 : Fld Z h0 a6 C_0 "value" "[B" (.ref a20)) (F23 : Fld Z h0 a9 C_0 "value" "[B" (.ref a22)) (V26 : Arv Z h0 a20 k25 .byte (1 : Int32) [(.int p24)] (.int (0 : Int32))) (V28 : Arv Z h0 a22 k27 .byte (0 : Int32) [] (.int 0)) :
    MetFree l M_15 (head1 (Jvm.Cond.code M_15 prog_67_method_3_code 2 (some .boolean) :: ws) ({ frames := 2, cells := 0, slots := 0, locals := 28 } : Room)) (fun a U => a = #[(.ref a1), (.ref a2)] ∧ Z.Warmed39 U.vm ∧ U.heap = h0) (fun _ _ _ _ _ => True) (fun _ U o U' => ∃ v L, o = .returned v ∧ Q7_24 Z a1 a2 a6 a9 p15 a20 a22 p24 k25 k27 h0 n0 v U'.heap L ∧ FrameEnd U o U' L ({ frames := 2, cells := 0, slots := 0, locals := 28 } : Room).cells ({ frames := 2, cells := 0, slots := 0, locals := 28 } : Room).slots) := by
  refine MetFree.of_bodySF (plainFor_of_name pn_4) hisR ?_
  intro p e s m args below meth c s₁ Bd hml0 hP hK
  obtain ⟨rfl, hZ, hh⟩ := hP
  have hx := Bd.exec
  have hby := Bd.bytes
  have hml : c.maxLocals = 2 := hml0
  have hown : s.vm.findClass "com/example/vestry/vestry/JsonText$Numeral" = some m.cls := findClass_of_methodNamed Bd.named
  have hnm := (name_of_methodNamed Bd.named Bd.method).1
  have X0 : Stand p l e ({ frames := 2, cells := 0, slots := 0, locals := 28 } : Room) s m #[(.ref a1), (.ref a2)] below meth c s₁ [] 0 0 := Stand.of_body Bd
  have e0 : s₁.heap = h0 := by rw [← hh, Bd.state]; rfl
  have N0 := Fr.nil n0
  have pre0 : ∀ t, Steps p.tables e below (s₁.setTop (mkF m 0 #[.val (.ref a1), .val (.ref a2)] [])) t → Steps p.tables e below (s₁.setTop (entryFrame m #[(.ref a1), (.ref a2)] 2)) t := fun t k => castTop (ef_rm7_24 m a1 a2) k
  obtain ⟨T4, X4, e4, st4⟩ := instY X0 hx hZ hown (hw _ (gw 43 rfl)) e0 (Ins.self E_3) (g := (mkF m 1 #[.val (.ref a1), .val (.ref a2)] [(.ref a2)])) rfl rfl (hb hby d7_1)
  obtain ⟨T5, X5, e5, st5⟩ := castY X4 hx hZ hown (hw _ (gw 43 rfl)) e4 (Ins.self E_3) (g := (mkF m 8 #[.val (.ref a1), .val (.ref a2)] [(.ref a2)])) rfl rfl (hb hby d7_8)
  obtain ⟨T8, X8, e8, st8⟩ := getF X5 hx hZ hown (host := "") (Or.inl (hw _ (gw 36 rfl))) Via.refl e5 F7 (g := (mkF m 11 #[.val (.ref a1), .val (.ref a2)] [(.ref a2)])) rfl rfl (hb hby d7_11)
  obtain ⟨T11, X11, e11, st11⟩ := getF X8 hx hZ hown (host := "") (Or.inl (hw _ (gw 36 rfl))) Via.refl e8 F10 (g := (mkF m 15 #[.val (.ref a1), .val (.ref a2)] [(.ref a1), (.ref a6)])) rfl rfl (hb hby d7_15)
  obtain ⟨cq29, kq29, q29a, q29b, q29c⟩ := isOf hZ e11 E_12
  obtain ⟨_, _, ⟨T29, L29, k29, n29⟩, -, X29, ⟨Lc29, hQ29, l29, y29, z29⟩, st29⟩ := X11.virtualBack hx (y := M_14) (z := M_14) hown (mvT hZ (hw _ (gw 45 rfl))) (mvT hZ (hw _ (gw 46 rfl))) (notFace_of_selects (args := #[]) (mvT hZ (hw _ (gw 48 rfl)))) (mvT hZ (hw _ (gw 48 rfl))) (mvT hZ (hw _ (gw 47 rfl))) (by decide) (backOf (W := 0) (rm8_25 l Z a0 hw [] a6 a9 p15 a20 a22 p24 k25 k27 h0 n0  O0 hne13 E_14 S_16 hk17 F18 F19 F21 F23 V26 V28) hZ (hw _ (gw 49 rfl)) (hw _ (gw 9 rfl)) (by decide) (by decide)) q29a q29c (g := (mkF m 18 #[.val (.ref a1), .val (.ref a2)] [(.ref a9), (.ref a6)])) rfl (by rw [hml]; rfl) (Steps.refl _) (argsL := [(.ref a9)]) (rest := []) (lenOf pd_14 rfl) rfl (by show 2 * 0 + _ ≤ _; exact Nat.le_of_eq rfl) (hb hby d7_18) (fun _ _ => ⟨rfl, e11, (by decide : 0 + 0 ≤ _), (by decide : 0 + 0 ≤ _)⟩)
  dsimp only [Pt.U, Pt.locs, Pt.cells, Pt.slots] at X29 l29 y29 z29 st29 hQ29
  subst l29 y29 z29
  obtain ⟨rfl, u31, u32⟩ := hQ29
  have N29 := Fr.app N0 u31
  obtain ⟨fs, hr, hrun, hended, hW, hsame⟩ := X29.leave (v := some (.int (0 : Int32))) (fun h => by rw [Bd.returns] at h; cases h)
  refine ⟨_, _, pre0 _ ?_, hrun, hended, _, _, rfl, ?_, ⟨_, rfl⟩, hW, hsame.mono (by decide) (by decide)⟩
  · show Steps p.tables e below (s₁.setTop (mkF m 0 #[.val (.ref a1), .val (.ref a2)] [])) _
    refine XS.aloadN X0.here hx rfl (hb hby d7_0) rfl rfl ?_
    refine st4 _ ?_
    refine XS.ifNo X4.here hx rfl (hb hby d7_4) rfl ((if0 _ _).trans (feq (by decide +kernel : ¬ ((1 : Int32) = (0 : Int32)))).1) ?_
    refine XS.aloadN X4.here hx rfl (hb hby d7_7) rfl rfl ?_
    refine st5 _ ?_
    refine st8 _ ?_
    refine XS.aloadN X8.here hx rfl (hb hby d7_14) rfl rfl ?_
    refine st11 _ ?_
    refine st29.trans ?_
    show Steps p.tables e below (T29.setTop (mkF m 21 #[.val (.ref a1), .val (.ref a2)] [(.int (0 : Int32))])) _
    refine XS.ifYes X29.here hx rfl (pc0 := 21) (pc' := 28) rfl (hb hby d7_21) rfl ((if0 _ _).trans (teq (by decide +kernel : (0 : Int32) = (0 : Int32))).1) (by decide) (by decide) ?_
    refine XS.iconst X29.here hx rfl (hb hby d7_28) ?_
    show Steps p.tables e below (T29.setTop (mkF m 29 #[.val (.ref a1), .val (.ref a2)] [(.int (0 : Int32))])) _
    exact retN X29 hx (t := .boolean) Bd.returns (by simp) (hb hby d7_29) hr
  · show Q7_24 Z _ _ _ _ _ _ _ _ _ _ h0 n0 _ T29.heap _
    rw [u32]
    exact ⟨rfl, N29, rfl⟩
theorem ef_rm17_29 (m : MethodId) (x0 : Addr) (x1 : Addr) : entryFrame m #[(.ref x0), (.ref x1)] 3 = mkF m 0 #[.val (.ref x0), .val (.ref x1), .unset] [] := by first | (simp [entryFrame, mkF, argsToLocals, Value.category]; done) | rfl
def Q17_29 (Z : State) (a1 : Addr) (a2 : Addr) (k3 : ClassId) (p6 : Int32) (k7 : ClassId) (h0 : Heap) (n0 : Nat) (v : Option Value) (h : Heap) (L : List Loc) : Prop := (v = some (.int (0 : Int32)) ∧ Fr n0 L ∧ h = h0)
set_option maxRecDepth 65536 in
set_option maxHeartbeats 40000000 in
theorem rm17_29 (l : Launch) (Z : State) (a0 : Array Value) (hw : ∀ d ∈ own_ws, d.before a0 Z = true) (ws : List Jvm.Cond) (a1 : Addr) (a2 : Addr) (k3 : ClassId) (p6 : Int32) (k7 : ClassId) (h0 : Heap) (n0 : Nat) (O0 : Old Z n0 h0) (V4 : Arv Z h0 a1 k3 .byte (0 : Int32) [] (.int 0)) (V8 : Arv Z h0 a2 k7 .byte (1 : Int32) [(.int p6)] (.int (0 : Int32))) :
    MetFree l M_13 (head1 (Jvm.Cond.code M_13 jdk_43_method_13_code 3 (some .boolean) :: ws) ({ frames := 0, cells := 0, slots := 0, locals := 0 } : Room)) (fun a U => a = #[(.ref a1), (.ref a2)] ∧ Z.Warmed39 U.vm ∧ U.heap = h0) (fun _ _ _ _ _ => True) (fun _ U o U' => ∃ v L, o = .returned v ∧ Q17_29 Z a1 a2 k3 p6 k7 h0 n0 v U'.heap L ∧ FrameEnd U o U' L ({ frames := 0, cells := 0, slots := 0, locals := 0 } : Room).cells ({ frames := 0, cells := 0, slots := 0, locals := 0 } : Room).slots) := by
  refine MetFree.of_bodySF (plainFor_of_name pn_2) hisR ?_
  intro p e s m args below meth c s₁ Bd hml0 hP hK
  obtain ⟨rfl, hZ, hh⟩ := hP
  have hx := Bd.exec
  have hby := Bd.bytes
  have hml : c.maxLocals = 3 := hml0
  have hown : s.vm.findClass "java/lang/StringLatin1" = some m.cls := findClass_of_methodNamed Bd.named
  have hnm := (name_of_methodNamed Bd.named Bd.method).1
  have X0 : Stand p l e ({ frames := 0, cells := 0, slots := 0, locals := 0 } : Room) s m #[(.ref a1), (.ref a2)] below meth c s₁ [] 0 0 := Stand.of_body Bd
  have e0 : s₁.heap = h0 := by rw [← hh, Bd.state]; rfl
  have N0 := Fr.nil n0
  have pre0 : ∀ t, Steps p.tables e below (s₁.setTop (mkF m 0 #[.val (.ref a1), .val (.ref a2), .unset] [])) t → Steps p.tables e below (s₁.setTop (entryFrame m #[(.ref a1), (.ref a2)] 3)) t := fun t k => castTop (ef_rm17_29 m a1 a2) k
  obtain ⟨cl5, Ar5, -, Sz5, Nn5, -, -⟩ := id V4
  obtain ⟨cl9, Ar9, -, Sz9, Nn9, -, -⟩ := id V8
  obtain ⟨fs, hr, hrun, hended, hW, hsame⟩ := X0.leave (v := some (.int (0 : Int32))) (fun h => by rw [Bd.returns] at h; cases h)
  refine ⟨_, _, pre0 _ ?_, hrun, hended, _, _, rfl, ?_, ⟨_, rfl⟩, hW, hsame.mono (by decide) (by decide)⟩
  · show Steps p.tables e below (s₁.setTop (mkF m 0 #[.val (.ref a1), .val (.ref a2), .unset] [])) _
    refine XS.aloadN X0.here hx rfl (hb hby d17_0) rfl rfl ?_
    refine X0.arraylength hx (by rw [e0]; exact Ar5.1) (State.isArrayOf_alike hZ.alike Ar5.2.1) (g := (mkF m 1 #[.val (.ref a1), .val (.ref a2), .unset] [(.ref a1)])) rfl rfl (hb hby d17_1) _ ?_
    rw [len_of Sz5 Nn5]
    refine XS.aloadN X0.here hx rfl (hb hby d17_2) rfl rfl ?_
    refine X0.arraylength hx (by rw [e0]; exact Ar9.1) (State.isArrayOf_alike hZ.alike Ar9.2.1) (g := (mkF m 3 #[.val (.ref a1), .val (.ref a2), .unset] [(.ref a2), (.int (0 : Int32))])) rfl rfl (hb hby d17_3) _ ?_
    rw [len_of Sz9 Nn9]
    refine XS.icmpYes X0.here hx rfl (pc0 := 4) (pc' := 34) rfl (hb hby d17_4) rfl (feq (by decide +kernel : ¬ ((0 : Int32) = (1 : Int32)))).2 (by decide) (by decide) ?_
    refine XS.iconst X0.here hx rfl (hb hby d17_34) ?_
    show Steps p.tables e below (s₁.setTop (mkF m 35 #[.val (.ref a1), .val (.ref a2), .unset] [(.int (0 : Int32))])) _
    exact retN X0 hx (t := .boolean) Bd.returns (by simp) (hb hby d17_35) hr
  · show Q17_29 Z _ _ _ _ _ h0 n0 _ s₁.heap _
    rw [e0]
    exact ⟨rfl, N0, rfl⟩
theorem ef_rm8_28 (m : MethodId) (x0 : Addr) (x1 : Addr) : entryFrame m #[(.ref x0), (.ref x1)] 3 = mkF m 0 #[.val (.ref x0), .val (.ref x1), .unset] [] := by first | (simp [entryFrame, mkF, argsToLocals, Value.category]; done) | rfl
def Q8_28 (Z : State) (a1 : Addr) (a2 : Addr) (p7 : Int32) (a15 : Addr) (a18 : Addr) (k21 : ClassId) (p23 : Int32) (k24 : ClassId) (h0 : Heap) (n0 : Nat) (v : Option Value) (h : Heap) (L : List Loc) : Prop := (v = some (.int (0 : Int32)) ∧ Fr n0 L ∧ h = h0)
set_option maxRecDepth 65536 in
set_option maxHeartbeats 40000000 in
theorem rm8_28 (l : Launch) (Z : State) (a0 : Array Value) (hw : ∀ d ∈ own_ws, d.before a0 Z = true) (ws : List Jvm.Cond) (a1 : Addr) (a2 : Addr) (p7 : Int32) (a15 : Addr) (a18 : Addr) (k21 : ClassId) (p23 : Int32) (k24 : ClassId) (h0 : Heap) (n0 : Nat) (O0 : Old Z n0 h0) (hne3 : a1 ≠ a2) (E_4 : Exa Z h0 a2 C_0) (S_8 : Sta Z Z.heap C_0 "COMPACT_STRINGS" "Z" (.int p7)) (hk10 : ¬ (p7 = (0 : Int32))) (F11 : Fld Z h0 a1 C_0 "coder" "B" (.int (0 : Int32))) (F13 : Fld Z h0 a2 C_0 "coder" "B" (.int (0 : Int32))) (F16 : Fld Z h0 a1 C_0 "value" "[B" (.ref a15)) (F19 : Fld Z h0 a2 C_0 "value" "[B" (.ref a18)) (V22 : Arv Z h0 a15 k21 .byte (0 : Int32) [] (.int 0)) (V25 : Arv Z h0 a18 k24 .byte (1 : Int32) [(.int p23)] (.int (0 : Int32))) :
    MetFree l M_14 (head1 (Jvm.Cond.code M_14 jdk_42_method_66_code 3 (some .boolean) :: ws) ({ frames := 1, cells := 0, slots := 0, locals := 14 } : Room)) (fun a U => a = #[(.ref a1), (.ref a2)] ∧ Z.Warmed39 U.vm ∧ U.heap = h0) (fun _ _ _ _ _ => True) (fun _ U o U' => ∃ v L, o = .returned v ∧ Q8_28 Z a1 a2 p7 a15 a18 k21 p23 k24 h0 n0 v U'.heap L ∧ FrameEnd U o U' L ({ frames := 1, cells := 0, slots := 0, locals := 14 } : Room).cells ({ frames := 1, cells := 0, slots := 0, locals := 14 } : Room).slots) := by
  refine MetFree.of_bodySF (plainFor_of_name pn_1) hisR ?_
  intro p e s m args below meth c s₁ Bd hml0 hP hK
  obtain ⟨rfl, hZ, hh⟩ := hP
  have hx := Bd.exec
  have hby := Bd.bytes
  have hml : c.maxLocals = 3 := hml0
  have hown : s.vm.findClass "java/lang/String" = some m.cls := findClass_of_methodNamed Bd.named
  have hnm := (name_of_methodNamed Bd.named Bd.method).1
  have X0 : Stand p l e ({ frames := 1, cells := 0, slots := 0, locals := 14 } : Room) s m #[(.ref a1), (.ref a2)] below meth c s₁ [] 0 0 := Stand.of_body Bd
  have e0 : s₁.heap = h0 := by rw [← hh, Bd.state]; rfl
  have N0 := Fr.nil n0
  have pre0 : ∀ t, Steps p.tables e below (s₁.setTop (mkF m 0 #[.val (.ref a1), .val (.ref a2), .unset] [])) t → Steps p.tables e below (s₁.setTop (entryFrame m #[(.ref a1), (.ref a2)] 3)) t := fun t k => castTop (ef_rm8_28 m a1 a2) k
  obtain ⟨T5, X5, e5, st5⟩ := instY X0 hx hZ hown (hw _ (gw 60 rfl)) e0 (Ins.self E_4) (g := (mkF m 8 #[.val (.ref a1), .val (.ref a2), .unset] [(.ref a2)])) rfl rfl (hb hby d8_8)
  obtain ⟨T6, X6, e6, st6⟩ := castY X5 hx hZ hown (hw _ (gw 60 rfl)) e5 (Ins.self E_4) (g := (mkF m 15 #[.val (.ref a1), .val (.ref a2), .unset] [(.ref a2)])) rfl rfl (hb hby d8_15)
  obtain ⟨T9, X9, e9, st9⟩ := getS2 X6 hx hZ hown (host := "") (Or.inl (hw _ (gw 55 rfl))) Via.refl e6 (Sta.ext O0.2 S_8) (g := (mkF m 19 #[.val (.ref a1), .val (.ref a2), .val (.ref a2)] [])) rfl (hb hby d8_19)
  obtain ⟨T12, X12, e12, st12⟩ := getF X9 hx hZ hown (host := "") (Or.inl (hw _ (gw 28 rfl))) Via.refl e9 F11 (g := (mkF m 26 #[.val (.ref a1), .val (.ref a2), .val (.ref a2)] [(.ref a1)])) rfl rfl (hb hby d8_26)
  obtain ⟨T14, X14, e14, st14⟩ := getF X12 hx hZ hown (host := "") (Or.inl (hw _ (gw 28 rfl))) Via.refl e12 F13 (g := (mkF m 30 #[.val (.ref a1), .val (.ref a2), .val (.ref a2)] [(.ref a2), (.int (0 : Int32))])) rfl rfl (hb hby d8_30)
  obtain ⟨T17, X17, e17, st17⟩ := getF X14 hx hZ hown (host := "") (Or.inl (hw _ (gw 27 rfl))) Via.refl e14 F16 (g := (mkF m 37 #[.val (.ref a1), .val (.ref a2), .val (.ref a2)] [(.ref a1)])) rfl rfl (hb hby d8_37)
  obtain ⟨T20, X20, e20, st20⟩ := getF X17 hx hZ hown (host := "") (Or.inl (hw _ (gw 27 rfl))) Via.refl e17 F19 (g := (mkF m 41 #[.val (.ref a1), .val (.ref a2), .val (.ref a2)] [(.ref a2), (.ref a15)])) rfl rfl (hb hby d8_41)
  obtain ⟨_, _, ⟨T26, L26, k26, n26⟩, -, X26, ⟨Lc26, hQ26, l26, y26, z26⟩, st26⟩ := Jvm.LawKit.callS X20 hx (y := M_13) hown (mvT hZ (hw _ (gw 80 rfl))) (mvT hZ (hw _ (gw 81 rfl))) (mvT hZ (hw _ (gw 58 rfl))) (mvT hZ (hw _ (gw 82 rfl))) (by decide) (backOf (W := 0) (rm17_29 l Z a0 hw [] a15 a18 k21 p23 k24 h0 n0  O0 V22 V25) hZ (hw _ (gw 82 rfl)) (hw _ (gw 58 rfl)) (by decide) (by decide)) (g := (mkF m 44 #[.val (.ref a1), .val (.ref a2), .val (.ref a2)] [(.ref a18), (.ref a15)])) rfl (by rw [hml]; rfl) (argsL := [(.ref a15), (.ref a18)]) (rest := []) (lenOf pd_13 rfl) rfl (by show 2 * 0 + _ ≤ _; exact Nat.le_of_eq rfl) (hb hby d8_44) (fun _ _ => ⟨rfl, e20, (by decide : 0 + 0 ≤ _), (by decide : 0 + 0 ≤ _)⟩)
  dsimp only [Pt.U, Pt.locs, Pt.cells, Pt.slots] at X26 l26 y26 z26 st26 hQ26
  subst l26 y26 z26
  obtain ⟨rfl, u28, u29⟩ := hQ26
  have N26 := Fr.app N0 u28
  obtain ⟨fs, hr, hrun, hended, hW, hsame⟩ := X26.leave (v := some (.int (0 : Int32))) (fun h => by rw [Bd.returns] at h; cases h)
  refine ⟨_, _, pre0 _ ?_, hrun, hended, _, _, rfl, ?_, ⟨_, rfl⟩, hW, hsame.mono (by decide) (by decide)⟩
  · show Steps p.tables e below (s₁.setTop (mkF m 0 #[.val (.ref a1), .val (.ref a2), .unset] [])) _
    refine XS.aloadN X0.here hx rfl (hb hby d8_0) rfl rfl ?_
    refine XS.aloadN X0.here hx rfl (hb hby d8_1) rfl rfl ?_
    refine Jvm.RoadKit.acmp (g := (mkF m 2 #[.val (.ref a1), .val (.ref a2), .unset] [(.ref a2), (.ref a1)])) X0 hx rfl rfl rfl (pc0 := 2) (pc' := 7) (same := false) rfl (hb hby d8_2) rfl (decide_eq_false fun q => hne3 (Value.ref.inj q)) (by decide) (by decide) ?_
    refine XS.aloadN X0.here hx rfl (hb hby d8_7) rfl rfl ?_
    refine st5 _ ?_
    refine XS.ifNo X5.here hx rfl (hb hby d8_11) rfl ((if0 _ _).trans (feq (by decide +kernel : ¬ ((1 : Int32) = (0 : Int32)))).1) ?_
    refine XS.aloadN X5.here hx rfl (hb hby d8_14) rfl rfl ?_
    refine st6 _ ?_
    refine XS.astoreN X6.here hx rfl (hb hby d8_18) rfl rfl (l' := #[.val (.ref a1), .val (.ref a2), .val (.ref a2)]) rfl ?_
    show Steps p.tables e below (T6.setTop (mkF m 19 #[.val (.ref a1), .val (.ref a2), .val (.ref a2)] [])) _
    refine st9 _ ?_
    refine XS.ifNo X9.here hx rfl (hb hby d8_22) rfl ((if0 _ _).trans (feq hk10).1) ?_
    refine XS.aloadN X9.here hx rfl (hb hby d8_25) rfl rfl ?_
    refine st12 _ ?_
    refine XS.aloadN X12.here hx rfl (hb hby d8_29) rfl rfl ?_
    refine st14 _ ?_
    refine XS.icmpNo X14.here hx rfl (hb hby d8_33) rfl (teq (by decide +kernel : (0 : Int32) = (0 : Int32))).2 ?_
    refine XS.aloadN X14.here hx rfl (hb hby d8_36) rfl rfl ?_
    refine st17 _ ?_
    show Steps p.tables e below (T17.setTop (mkF m 40 #[.val (.ref a1), .val (.ref a2), .val (.ref a2)] [(.ref a15)])) _
    refine XS.aloadN X17.here hx rfl (hb hby d8_40) rfl rfl ?_
    refine st20 _ ?_
    refine st26 _ ?_
    refine XS.ifYes X26.here hx rfl (pc0 := 47) (pc' := 54) rfl (hb hby d8_47) rfl ((if0 _ _).trans (teq (by decide +kernel : (0 : Int32) = (0 : Int32))).1) (by decide) (by decide) ?_
    refine XS.iconst X26.here hx rfl (hb hby d8_54) ?_
    show Steps p.tables e below (T26.setTop (mkF m 55 #[.val (.ref a1), .val (.ref a2), .val (.ref a2)] [(.int (0 : Int32))])) _
    exact retN X26 hx (t := .boolean) Bd.returns (by simp) (hb hby d8_55) hr
  · show Q8_28 Z _ _ _ _ _ _ _ _ h0 n0 _ T26.heap _
    rw [u29]
    exact ⟨rfl, N26, rfl⟩
theorem ef_rm7_27 (m : MethodId) (x0 : Addr) (x1 : Addr) : entryFrame m #[(.ref x0), (.ref x1)] 2 = mkF m 0 #[.val (.ref x0), .val (.ref x1)] [] := by first | (simp [entryFrame, mkF, argsToLocals, Value.category]; done) | rfl
def Q7_27 (Z : State) (a1 : Addr) (a2 : Addr) (a6 : Addr) (a9 : Addr) (p15 : Int32) (a20 : Addr) (a22 : Addr) (k24 : ClassId) (p26 : Int32) (k27 : ClassId) (h0 : Heap) (n0 : Nat) (v : Option Value) (h : Heap) (L : List Loc) : Prop := (v = some (.int (0 : Int32)) ∧ Fr n0 L ∧ h = h0)
set_option maxRecDepth 65536 in
set_option maxHeartbeats 40000000 in
theorem rm7_27 (l : Launch) (Z : State) (a0 : Array Value) (hw : ∀ d ∈ own_ws, d.before a0 Z = true) (ws : List Jvm.Cond) (a1 : Addr) (a2 : Addr) (a6 : Addr) (a9 : Addr) (p15 : Int32) (a20 : Addr) (a22 : Addr) (k24 : ClassId) (p26 : Int32) (k27 : ClassId) (h0 : Heap) (n0 : Nat) (O0 : Old Z n0 h0) (E_3 : Exa Z h0 a2 C_1) (F7 : Fld Z h0 a2 C_1 "written" C_2 (.ref a6)) (F10 : Fld Z h0 a1 C_1 "written" C_2 (.ref a9)) (E_12 : Exa Z h0 a6 C_0) (hne13 : a6 ≠ a9) (E_14 : Exa Z h0 a9 C_0) (S_16 : Sta Z Z.heap C_0 "COMPACT_STRINGS" "Z" (.int p15)) (hk17 : ¬ (p15 = (0 : Int32))) (F18 : Fld Z h0 a6 C_0 "coder" "B" (.int (0 : Int32))) (F19 : Fld Z h0 a9 C_0 "coder" "B" (.int (0 : Int32))) (F21 : Fld Z h0 a6 C_0 "value" "[B" (.ref a20)) (F23 : Fld Z h0 a9 C_0 "value" "[B" (.ref a22)) (V25 : Arv Z h0 a20 k24 .byte (0 : Int32) [] (.int 0)) (V28 : Arv Z h0 a22 k27 .byte (1 : Int32) [(.int p26)] (.int (0 : Int32))) :
    MetFree l M_15 (head1 (Jvm.Cond.code M_15 prog_67_method_3_code 2 (some .boolean) :: ws) ({ frames := 2, cells := 0, slots := 0, locals := 28 } : Room)) (fun a U => a = #[(.ref a1), (.ref a2)] ∧ Z.Warmed39 U.vm ∧ U.heap = h0) (fun _ _ _ _ _ => True) (fun _ U o U' => ∃ v L, o = .returned v ∧ Q7_27 Z a1 a2 a6 a9 p15 a20 a22 k24 p26 k27 h0 n0 v U'.heap L ∧ FrameEnd U o U' L ({ frames := 2, cells := 0, slots := 0, locals := 28 } : Room).cells ({ frames := 2, cells := 0, slots := 0, locals := 28 } : Room).slots) := by
  refine MetFree.of_bodySF (plainFor_of_name pn_4) hisR ?_
  intro p e s m args below meth c s₁ Bd hml0 hP hK
  obtain ⟨rfl, hZ, hh⟩ := hP
  have hx := Bd.exec
  have hby := Bd.bytes
  have hml : c.maxLocals = 2 := hml0
  have hown : s.vm.findClass "com/example/vestry/vestry/JsonText$Numeral" = some m.cls := findClass_of_methodNamed Bd.named
  have hnm := (name_of_methodNamed Bd.named Bd.method).1
  have X0 : Stand p l e ({ frames := 2, cells := 0, slots := 0, locals := 28 } : Room) s m #[(.ref a1), (.ref a2)] below meth c s₁ [] 0 0 := Stand.of_body Bd
  have e0 : s₁.heap = h0 := by rw [← hh, Bd.state]; rfl
  have N0 := Fr.nil n0
  have pre0 : ∀ t, Steps p.tables e below (s₁.setTop (mkF m 0 #[.val (.ref a1), .val (.ref a2)] [])) t → Steps p.tables e below (s₁.setTop (entryFrame m #[(.ref a1), (.ref a2)] 2)) t := fun t k => castTop (ef_rm7_27 m a1 a2) k
  obtain ⟨T4, X4, e4, st4⟩ := instY X0 hx hZ hown (hw _ (gw 43 rfl)) e0 (Ins.self E_3) (g := (mkF m 1 #[.val (.ref a1), .val (.ref a2)] [(.ref a2)])) rfl rfl (hb hby d7_1)
  obtain ⟨T5, X5, e5, st5⟩ := castY X4 hx hZ hown (hw _ (gw 43 rfl)) e4 (Ins.self E_3) (g := (mkF m 8 #[.val (.ref a1), .val (.ref a2)] [(.ref a2)])) rfl rfl (hb hby d7_8)
  obtain ⟨T8, X8, e8, st8⟩ := getF X5 hx hZ hown (host := "") (Or.inl (hw _ (gw 36 rfl))) Via.refl e5 F7 (g := (mkF m 11 #[.val (.ref a1), .val (.ref a2)] [(.ref a2)])) rfl rfl (hb hby d7_11)
  obtain ⟨T11, X11, e11, st11⟩ := getF X8 hx hZ hown (host := "") (Or.inl (hw _ (gw 36 rfl))) Via.refl e8 F10 (g := (mkF m 15 #[.val (.ref a1), .val (.ref a2)] [(.ref a1), (.ref a6)])) rfl rfl (hb hby d7_15)
  obtain ⟨cq29, kq29, q29a, q29b, q29c⟩ := isOf hZ e11 E_12
  obtain ⟨_, _, ⟨T29, L29, k29, n29⟩, -, X29, ⟨Lc29, hQ29, l29, y29, z29⟩, st29⟩ := X11.virtualBack hx (y := M_14) (z := M_14) hown (mvT hZ (hw _ (gw 45 rfl))) (mvT hZ (hw _ (gw 46 rfl))) (notFace_of_selects (args := #[]) (mvT hZ (hw _ (gw 48 rfl)))) (mvT hZ (hw _ (gw 48 rfl))) (mvT hZ (hw _ (gw 47 rfl))) (by decide) (backOf (W := 0) (rm8_28 l Z a0 hw [] a6 a9 p15 a20 a22 k24 p26 k27 h0 n0  O0 hne13 E_14 S_16 hk17 F18 F19 F21 F23 V25 V28) hZ (hw _ (gw 49 rfl)) (hw _ (gw 9 rfl)) (by decide) (by decide)) q29a q29c (g := (mkF m 18 #[.val (.ref a1), .val (.ref a2)] [(.ref a9), (.ref a6)])) rfl (by rw [hml]; rfl) (Steps.refl _) (argsL := [(.ref a9)]) (rest := []) (lenOf pd_14 rfl) rfl (by show 2 * 0 + _ ≤ _; exact Nat.le_of_eq rfl) (hb hby d7_18) (fun _ _ => ⟨rfl, e11, (by decide : 0 + 0 ≤ _), (by decide : 0 + 0 ≤ _)⟩)
  dsimp only [Pt.U, Pt.locs, Pt.cells, Pt.slots] at X29 l29 y29 z29 st29 hQ29
  subst l29 y29 z29
  obtain ⟨rfl, u31, u32⟩ := hQ29
  have N29 := Fr.app N0 u31
  obtain ⟨fs, hr, hrun, hended, hW, hsame⟩ := X29.leave (v := some (.int (0 : Int32))) (fun h => by rw [Bd.returns] at h; cases h)
  refine ⟨_, _, pre0 _ ?_, hrun, hended, _, _, rfl, ?_, ⟨_, rfl⟩, hW, hsame.mono (by decide) (by decide)⟩
  · show Steps p.tables e below (s₁.setTop (mkF m 0 #[.val (.ref a1), .val (.ref a2)] [])) _
    refine XS.aloadN X0.here hx rfl (hb hby d7_0) rfl rfl ?_
    refine st4 _ ?_
    refine XS.ifNo X4.here hx rfl (hb hby d7_4) rfl ((if0 _ _).trans (feq (by decide +kernel : ¬ ((1 : Int32) = (0 : Int32)))).1) ?_
    refine XS.aloadN X4.here hx rfl (hb hby d7_7) rfl rfl ?_
    refine st5 _ ?_
    refine st8 _ ?_
    refine XS.aloadN X8.here hx rfl (hb hby d7_14) rfl rfl ?_
    refine st11 _ ?_
    refine st29.trans ?_
    show Steps p.tables e below (T29.setTop (mkF m 21 #[.val (.ref a1), .val (.ref a2)] [(.int (0 : Int32))])) _
    refine XS.ifYes X29.here hx rfl (pc0 := 21) (pc' := 28) rfl (hb hby d7_21) rfl ((if0 _ _).trans (teq (by decide +kernel : (0 : Int32) = (0 : Int32))).1) (by decide) (by decide) ?_
    refine XS.iconst X29.here hx rfl (hb hby d7_28) ?_
    show Steps p.tables e below (T29.setTop (mkF m 29 #[.val (.ref a1), .val (.ref a2)] [(.int (0 : Int32))])) _
    exact retN X29 hx (t := .boolean) Bd.returns (by simp) (hb hby d7_29) hr
  · show Q7_27 Z _ _ _ _ _ _ _ _ _ _ h0 n0 _ T29.heap _
    rw [u32]
    exact ⟨rfl, N29, rfl⟩
theorem ef_rm17_32 (m : MethodId) (x0 : Addr) (x1 : Addr) : entryFrame m #[(.ref x0), (.ref x1)] 3 = mkF m 0 #[.val (.ref x0), .val (.ref x1), .unset] [] := by first | (simp [entryFrame, mkF, argsToLocals, Value.category]; done) | rfl
def Q17_32 (Z : State) (a1 : Addr) (a2 : Addr) (p3 : Int32) (p4 : Int32) (k5 : ClassId) (k8 : ClassId) (h0 : Heap) (n0 : Nat) (v : Option Value) (h : Heap) (L : List Loc) : Prop := (v = some (.int (0 : Int32)) ∧ Fr n0 L ∧ h = h0)
set_option maxRecDepth 65536 in
set_option maxHeartbeats 40000000 in
theorem rm17_32 (l : Launch) (Z : State) (a0 : Array Value) (hw : ∀ d ∈ own_ws, d.before a0 Z = true) (ws : List Jvm.Cond) (a1 : Addr) (a2 : Addr) (p3 : Int32) (p4 : Int32) (k5 : ClassId) (k8 : ClassId) (h0 : Heap) (n0 : Nat) (O0 : Old Z n0 h0) (V6 : Arv Z h0 a1 k5 .byte (2 : Int32) [(.int p3), (.int p4)] (.int (0 : Int32))) (V9 : Arv Z h0 a2 k8 .byte (0 : Int32) [] (.int 0)) :
    MetFree l M_13 (head1 (Jvm.Cond.code M_13 jdk_43_method_13_code 3 (some .boolean) :: ws) ({ frames := 0, cells := 0, slots := 0, locals := 0 } : Room)) (fun a U => a = #[(.ref a1), (.ref a2)] ∧ Z.Warmed39 U.vm ∧ U.heap = h0) (fun _ _ _ _ _ => True) (fun _ U o U' => ∃ v L, o = .returned v ∧ Q17_32 Z a1 a2 p3 p4 k5 k8 h0 n0 v U'.heap L ∧ FrameEnd U o U' L ({ frames := 0, cells := 0, slots := 0, locals := 0 } : Room).cells ({ frames := 0, cells := 0, slots := 0, locals := 0 } : Room).slots) := by
  refine MetFree.of_bodySF (plainFor_of_name pn_2) hisR ?_
  intro p e s m args below meth c s₁ Bd hml0 hP hK
  obtain ⟨rfl, hZ, hh⟩ := hP
  have hx := Bd.exec
  have hby := Bd.bytes
  have hml : c.maxLocals = 3 := hml0
  have hown : s.vm.findClass "java/lang/StringLatin1" = some m.cls := findClass_of_methodNamed Bd.named
  have hnm := (name_of_methodNamed Bd.named Bd.method).1
  have X0 : Stand p l e ({ frames := 0, cells := 0, slots := 0, locals := 0 } : Room) s m #[(.ref a1), (.ref a2)] below meth c s₁ [] 0 0 := Stand.of_body Bd
  have e0 : s₁.heap = h0 := by rw [← hh, Bd.state]; rfl
  have N0 := Fr.nil n0
  have pre0 : ∀ t, Steps p.tables e below (s₁.setTop (mkF m 0 #[.val (.ref a1), .val (.ref a2), .unset] [])) t → Steps p.tables e below (s₁.setTop (entryFrame m #[(.ref a1), (.ref a2)] 3)) t := fun t k => castTop (ef_rm17_32 m a1 a2) k
  obtain ⟨cl7, Ar7, -, Sz7, Nn7, -, -⟩ := id V6
  obtain ⟨cl10, Ar10, -, Sz10, Nn10, -, -⟩ := id V9
  obtain ⟨fs, hr, hrun, hended, hW, hsame⟩ := X0.leave (v := some (.int (0 : Int32))) (fun h => by rw [Bd.returns] at h; cases h)
  refine ⟨_, _, pre0 _ ?_, hrun, hended, _, _, rfl, ?_, ⟨_, rfl⟩, hW, hsame.mono (by decide) (by decide)⟩
  · show Steps p.tables e below (s₁.setTop (mkF m 0 #[.val (.ref a1), .val (.ref a2), .unset] [])) _
    refine XS.aloadN X0.here hx rfl (hb hby d17_0) rfl rfl ?_
    refine X0.arraylength hx (by rw [e0]; exact Ar7.1) (State.isArrayOf_alike hZ.alike Ar7.2.1) (g := (mkF m 1 #[.val (.ref a1), .val (.ref a2), .unset] [(.ref a1)])) rfl rfl (hb hby d17_1) _ ?_
    rw [len_of Sz7 Nn7]
    refine XS.aloadN X0.here hx rfl (hb hby d17_2) rfl rfl ?_
    refine X0.arraylength hx (by rw [e0]; exact Ar10.1) (State.isArrayOf_alike hZ.alike Ar10.2.1) (g := (mkF m 3 #[.val (.ref a1), .val (.ref a2), .unset] [(.ref a2), (.int (2 : Int32))])) rfl rfl (hb hby d17_3) _ ?_
    rw [len_of Sz10 Nn10]
    refine XS.icmpYes X0.here hx rfl (pc0 := 4) (pc' := 34) rfl (hb hby d17_4) rfl (feq (by decide +kernel : ¬ ((2 : Int32) = (0 : Int32)))).2 (by decide) (by decide) ?_
    refine XS.iconst X0.here hx rfl (hb hby d17_34) ?_
    show Steps p.tables e below (s₁.setTop (mkF m 35 #[.val (.ref a1), .val (.ref a2), .unset] [(.int (0 : Int32))])) _
    exact retN X0 hx (t := .boolean) Bd.returns (by simp) (hb hby d17_35) hr
  · show Q17_32 Z _ _ _ _ _ _ h0 n0 _ s₁.heap _
    rw [e0]
    exact ⟨rfl, N0, rfl⟩
theorem ef_rm8_31 (m : MethodId) (x0 : Addr) (x1 : Addr) : entryFrame m #[(.ref x0), (.ref x1)] 3 = mkF m 0 #[.val (.ref x0), .val (.ref x1), .unset] [] := by first | (simp [entryFrame, mkF, argsToLocals, Value.category]; done) | rfl
def Q8_31 (Z : State) (a1 : Addr) (a2 : Addr) (p7 : Int32) (a15 : Addr) (a18 : Addr) (p21 : Int32) (p22 : Int32) (k23 : ClassId) (k25 : ClassId) (h0 : Heap) (n0 : Nat) (v : Option Value) (h : Heap) (L : List Loc) : Prop := (v = some (.int (0 : Int32)) ∧ Fr n0 L ∧ h = h0)
set_option maxRecDepth 65536 in
set_option maxHeartbeats 40000000 in
theorem rm8_31 (l : Launch) (Z : State) (a0 : Array Value) (hw : ∀ d ∈ own_ws, d.before a0 Z = true) (ws : List Jvm.Cond) (a1 : Addr) (a2 : Addr) (p7 : Int32) (a15 : Addr) (a18 : Addr) (p21 : Int32) (p22 : Int32) (k23 : ClassId) (k25 : ClassId) (h0 : Heap) (n0 : Nat) (O0 : Old Z n0 h0) (hne3 : a1 ≠ a2) (E_4 : Exa Z h0 a2 C_0) (S_8 : Sta Z Z.heap C_0 "COMPACT_STRINGS" "Z" (.int p7)) (hk10 : ¬ (p7 = (0 : Int32))) (F11 : Fld Z h0 a1 C_0 "coder" "B" (.int (0 : Int32))) (F13 : Fld Z h0 a2 C_0 "coder" "B" (.int (0 : Int32))) (F16 : Fld Z h0 a1 C_0 "value" "[B" (.ref a15)) (F19 : Fld Z h0 a2 C_0 "value" "[B" (.ref a18)) (V24 : Arv Z h0 a15 k23 .byte (2 : Int32) [(.int p21), (.int p22)] (.int (0 : Int32))) (V26 : Arv Z h0 a18 k25 .byte (0 : Int32) [] (.int 0)) :
    MetFree l M_14 (head1 (Jvm.Cond.code M_14 jdk_42_method_66_code 3 (some .boolean) :: ws) ({ frames := 1, cells := 0, slots := 0, locals := 14 } : Room)) (fun a U => a = #[(.ref a1), (.ref a2)] ∧ Z.Warmed39 U.vm ∧ U.heap = h0) (fun _ _ _ _ _ => True) (fun _ U o U' => ∃ v L, o = .returned v ∧ Q8_31 Z a1 a2 p7 a15 a18 p21 p22 k23 k25 h0 n0 v U'.heap L ∧ FrameEnd U o U' L ({ frames := 1, cells := 0, slots := 0, locals := 14 } : Room).cells ({ frames := 1, cells := 0, slots := 0, locals := 14 } : Room).slots) := by
  refine MetFree.of_bodySF (plainFor_of_name pn_1) hisR ?_
  intro p e s m args below meth c s₁ Bd hml0 hP hK
  obtain ⟨rfl, hZ, hh⟩ := hP
  have hx := Bd.exec
  have hby := Bd.bytes
  have hml : c.maxLocals = 3 := hml0
  have hown : s.vm.findClass "java/lang/String" = some m.cls := findClass_of_methodNamed Bd.named
  have hnm := (name_of_methodNamed Bd.named Bd.method).1
  have X0 : Stand p l e ({ frames := 1, cells := 0, slots := 0, locals := 14 } : Room) s m #[(.ref a1), (.ref a2)] below meth c s₁ [] 0 0 := Stand.of_body Bd
  have e0 : s₁.heap = h0 := by rw [← hh, Bd.state]; rfl
  have N0 := Fr.nil n0
  have pre0 : ∀ t, Steps p.tables e below (s₁.setTop (mkF m 0 #[.val (.ref a1), .val (.ref a2), .unset] [])) t → Steps p.tables e below (s₁.setTop (entryFrame m #[(.ref a1), (.ref a2)] 3)) t := fun t k => castTop (ef_rm8_31 m a1 a2) k
  obtain ⟨T5, X5, e5, st5⟩ := instY X0 hx hZ hown (hw _ (gw 60 rfl)) e0 (Ins.self E_4) (g := (mkF m 8 #[.val (.ref a1), .val (.ref a2), .unset] [(.ref a2)])) rfl rfl (hb hby d8_8)
  obtain ⟨T6, X6, e6, st6⟩ := castY X5 hx hZ hown (hw _ (gw 60 rfl)) e5 (Ins.self E_4) (g := (mkF m 15 #[.val (.ref a1), .val (.ref a2), .unset] [(.ref a2)])) rfl rfl (hb hby d8_15)
  obtain ⟨T9, X9, e9, st9⟩ := getS2 X6 hx hZ hown (host := "") (Or.inl (hw _ (gw 55 rfl))) Via.refl e6 (Sta.ext O0.2 S_8) (g := (mkF m 19 #[.val (.ref a1), .val (.ref a2), .val (.ref a2)] [])) rfl (hb hby d8_19)
  obtain ⟨T12, X12, e12, st12⟩ := getF X9 hx hZ hown (host := "") (Or.inl (hw _ (gw 28 rfl))) Via.refl e9 F11 (g := (mkF m 26 #[.val (.ref a1), .val (.ref a2), .val (.ref a2)] [(.ref a1)])) rfl rfl (hb hby d8_26)
  obtain ⟨T14, X14, e14, st14⟩ := getF X12 hx hZ hown (host := "") (Or.inl (hw _ (gw 28 rfl))) Via.refl e12 F13 (g := (mkF m 30 #[.val (.ref a1), .val (.ref a2), .val (.ref a2)] [(.ref a2), (.int (0 : Int32))])) rfl rfl (hb hby d8_30)
  obtain ⟨T17, X17, e17, st17⟩ := getF X14 hx hZ hown (host := "") (Or.inl (hw _ (gw 27 rfl))) Via.refl e14 F16 (g := (mkF m 37 #[.val (.ref a1), .val (.ref a2), .val (.ref a2)] [(.ref a1)])) rfl rfl (hb hby d8_37)
  obtain ⟨T20, X20, e20, st20⟩ := getF X17 hx hZ hown (host := "") (Or.inl (hw _ (gw 27 rfl))) Via.refl e17 F19 (g := (mkF m 41 #[.val (.ref a1), .val (.ref a2), .val (.ref a2)] [(.ref a2), (.ref a15)])) rfl rfl (hb hby d8_41)
  obtain ⟨_, _, ⟨T27, L27, k27, n27⟩, -, X27, ⟨Lc27, hQ27, l27, y27, z27⟩, st27⟩ := Jvm.LawKit.callS X20 hx (y := M_13) hown (mvT hZ (hw _ (gw 80 rfl))) (mvT hZ (hw _ (gw 81 rfl))) (mvT hZ (hw _ (gw 58 rfl))) (mvT hZ (hw _ (gw 82 rfl))) (by decide) (backOf (W := 0) (rm17_32 l Z a0 hw [] a15 a18 p21 p22 k23 k25 h0 n0  O0 V24 V26) hZ (hw _ (gw 82 rfl)) (hw _ (gw 58 rfl)) (by decide) (by decide)) (g := (mkF m 44 #[.val (.ref a1), .val (.ref a2), .val (.ref a2)] [(.ref a18), (.ref a15)])) rfl (by rw [hml]; rfl) (argsL := [(.ref a15), (.ref a18)]) (rest := []) (lenOf pd_13 rfl) rfl (by show 2 * 0 + _ ≤ _; exact Nat.le_of_eq rfl) (hb hby d8_44) (fun _ _ => ⟨rfl, e20, (by decide : 0 + 0 ≤ _), (by decide : 0 + 0 ≤ _)⟩)
  dsimp only [Pt.U, Pt.locs, Pt.cells, Pt.slots] at X27 l27 y27 z27 st27 hQ27
  subst l27 y27 z27
  obtain ⟨rfl, u29, u30⟩ := hQ27
  have N27 := Fr.app N0 u29
  obtain ⟨fs, hr, hrun, hended, hW, hsame⟩ := X27.leave (v := some (.int (0 : Int32))) (fun h => by rw [Bd.returns] at h; cases h)
  refine ⟨_, _, pre0 _ ?_, hrun, hended, _, _, rfl, ?_, ⟨_, rfl⟩, hW, hsame.mono (by decide) (by decide)⟩
  · show Steps p.tables e below (s₁.setTop (mkF m 0 #[.val (.ref a1), .val (.ref a2), .unset] [])) _
    refine XS.aloadN X0.here hx rfl (hb hby d8_0) rfl rfl ?_
    refine XS.aloadN X0.here hx rfl (hb hby d8_1) rfl rfl ?_
    refine Jvm.RoadKit.acmp (g := (mkF m 2 #[.val (.ref a1), .val (.ref a2), .unset] [(.ref a2), (.ref a1)])) X0 hx rfl rfl rfl (pc0 := 2) (pc' := 7) (same := false) rfl (hb hby d8_2) rfl (decide_eq_false fun q => hne3 (Value.ref.inj q)) (by decide) (by decide) ?_
    refine XS.aloadN X0.here hx rfl (hb hby d8_7) rfl rfl ?_
    refine st5 _ ?_
    refine XS.ifNo X5.here hx rfl (hb hby d8_11) rfl ((if0 _ _).trans (feq (by decide +kernel : ¬ ((1 : Int32) = (0 : Int32)))).1) ?_
    refine XS.aloadN X5.here hx rfl (hb hby d8_14) rfl rfl ?_
    refine st6 _ ?_
    refine XS.astoreN X6.here hx rfl (hb hby d8_18) rfl rfl (l' := #[.val (.ref a1), .val (.ref a2), .val (.ref a2)]) rfl ?_
    show Steps p.tables e below (T6.setTop (mkF m 19 #[.val (.ref a1), .val (.ref a2), .val (.ref a2)] [])) _
    refine st9 _ ?_
    refine XS.ifNo X9.here hx rfl (hb hby d8_22) rfl ((if0 _ _).trans (feq hk10).1) ?_
    refine XS.aloadN X9.here hx rfl (hb hby d8_25) rfl rfl ?_
    refine st12 _ ?_
    refine XS.aloadN X12.here hx rfl (hb hby d8_29) rfl rfl ?_
    refine st14 _ ?_
    refine XS.icmpNo X14.here hx rfl (hb hby d8_33) rfl (teq (by decide +kernel : (0 : Int32) = (0 : Int32))).2 ?_
    refine XS.aloadN X14.here hx rfl (hb hby d8_36) rfl rfl ?_
    refine st17 _ ?_
    show Steps p.tables e below (T17.setTop (mkF m 40 #[.val (.ref a1), .val (.ref a2), .val (.ref a2)] [(.ref a15)])) _
    refine XS.aloadN X17.here hx rfl (hb hby d8_40) rfl rfl ?_
    refine st20 _ ?_
    refine st27 _ ?_
    refine XS.ifYes X27.here hx rfl (pc0 := 47) (pc' := 54) rfl (hb hby d8_47) rfl ((if0 _ _).trans (teq (by decide +kernel : (0 : Int32) = (0 : Int32))).1) (by decide) (by decide) ?_
    refine XS.iconst X27.here hx rfl (hb hby d8_54) ?_
    show Steps p.tables e below (T27.setTop (mkF m 55 #[.val (.ref a1), .val (.ref a2), .val (.ref a2)] [(.int (0 : Int32))])) _
    exact retN X27 hx (t := .boolean) Bd.returns (by simp) (hb hby d8_55) hr
  · show Q8_31 Z _ _ _ _ _ _ _ _ _ h0 n0 _ T27.heap _
    rw [u30]
    exact ⟨rfl, N27, rfl⟩
theorem ef_rm7_30 (m : MethodId) (x0 : Addr) (x1 : Addr) : entryFrame m #[(.ref x0), (.ref x1)] 2 = mkF m 0 #[.val (.ref x0), .val (.ref x1)] [] := by first | (simp [entryFrame, mkF, argsToLocals, Value.category]; done) | rfl
def Q7_30 (Z : State) (a1 : Addr) (a2 : Addr) (a6 : Addr) (a9 : Addr) (p15 : Int32) (a20 : Addr) (a22 : Addr) (p24 : Int32) (p25 : Int32) (k26 : ClassId) (k28 : ClassId) (h0 : Heap) (n0 : Nat) (v : Option Value) (h : Heap) (L : List Loc) : Prop := (v = some (.int (0 : Int32)) ∧ Fr n0 L ∧ h = h0)
set_option maxRecDepth 65536 in
set_option maxHeartbeats 40000000 in
theorem rm7_30 (l : Launch) (Z : State) (a0 : Array Value) (hw : ∀ d ∈ own_ws, d.before a0 Z = true) (ws : List Jvm.Cond) (a1 : Addr) (a2 : Addr) (a6 : Addr) (a9 : Addr) (p15 : Int32) (a20 : Addr) (a22 : Addr) (p24 : Int32) (p25 : Int32) (k26 : ClassId) (k28 : ClassId) (h0 : Heap) (n0 : Nat) (O0 : Old Z n0 h0) (E_3 : Exa Z h0 a2 C_1) (F7 : Fld Z h0 a2 C_1 "written" C_2 (.ref a6)) (F10 : Fld Z h0 a1 C_1 "written" C_2 (.ref a9)) (E_12 : Exa Z h0 a6 C_0) (hne13 : a6 ≠ a9) (E_14 : Exa Z h0 a9 C_0) (S_16 : Sta Z Z.heap C_0 "COMPACT_STRINGS" "Z" (.int p15)) (hk17 : ¬ (p15 = (0 : Int32))) (F18 : Fld Z h0 a6 C_0 "coder" "B" (.int (0 : Int32))) (F19 : Fld Z h0 a9 C_0 "coder" "B" (.int (0 : Int32))) (F21 : Fld Z h0 a6 C_0 "value" "[B" (.ref a20)) (F23 : Fld Z h0 a9 C_0 "value" "[B" (.ref a22)) (V27 : Arv Z h0 a20 k26 .byte (2 : Int32) [(.int p24), (.int p25)] (.int (0 : Int32))) (V29 : Arv Z h0 a22 k28 .byte (0 : Int32) [] (.int 0)) :
    MetFree l M_15 (head1 (Jvm.Cond.code M_15 prog_67_method_3_code 2 (some .boolean) :: ws) ({ frames := 2, cells := 0, slots := 0, locals := 28 } : Room)) (fun a U => a = #[(.ref a1), (.ref a2)] ∧ Z.Warmed39 U.vm ∧ U.heap = h0) (fun _ _ _ _ _ => True) (fun _ U o U' => ∃ v L, o = .returned v ∧ Q7_30 Z a1 a2 a6 a9 p15 a20 a22 p24 p25 k26 k28 h0 n0 v U'.heap L ∧ FrameEnd U o U' L ({ frames := 2, cells := 0, slots := 0, locals := 28 } : Room).cells ({ frames := 2, cells := 0, slots := 0, locals := 28 } : Room).slots) := by
  refine MetFree.of_bodySF (plainFor_of_name pn_4) hisR ?_
  intro p e s m args below meth c s₁ Bd hml0 hP hK
  obtain ⟨rfl, hZ, hh⟩ := hP
  have hx := Bd.exec
  have hby := Bd.bytes
  have hml : c.maxLocals = 2 := hml0
  have hown : s.vm.findClass "com/example/vestry/vestry/JsonText$Numeral" = some m.cls := findClass_of_methodNamed Bd.named
  have hnm := (name_of_methodNamed Bd.named Bd.method).1
  have X0 : Stand p l e ({ frames := 2, cells := 0, slots := 0, locals := 28 } : Room) s m #[(.ref a1), (.ref a2)] below meth c s₁ [] 0 0 := Stand.of_body Bd
  have e0 : s₁.heap = h0 := by rw [← hh, Bd.state]; rfl
  have N0 := Fr.nil n0
  have pre0 : ∀ t, Steps p.tables e below (s₁.setTop (mkF m 0 #[.val (.ref a1), .val (.ref a2)] [])) t → Steps p.tables e below (s₁.setTop (entryFrame m #[(.ref a1), (.ref a2)] 2)) t := fun t k => castTop (ef_rm7_30 m a1 a2) k
  obtain ⟨T4, X4, e4, st4⟩ := instY X0 hx hZ hown (hw _ (gw 43 rfl)) e0 (Ins.self E_3) (g := (mkF m 1 #[.val (.ref a1), .val (.ref a2)] [(.ref a2)])) rfl rfl (hb hby d7_1)
  obtain ⟨T5, X5, e5, st5⟩ := castY X4 hx hZ hown (hw _ (gw 43 rfl)) e4 (Ins.self E_3) (g := (mkF m 8 #[.val (.ref a1), .val (.ref a2)] [(.ref a2)])) rfl rfl (hb hby d7_8)
  obtain ⟨T8, X8, e8, st8⟩ := getF X5 hx hZ hown (host := "") (Or.inl (hw _ (gw 36 rfl))) Via.refl e5 F7 (g := (mkF m 11 #[.val (.ref a1), .val (.ref a2)] [(.ref a2)])) rfl rfl (hb hby d7_11)
  obtain ⟨T11, X11, e11, st11⟩ := getF X8 hx hZ hown (host := "") (Or.inl (hw _ (gw 36 rfl))) Via.refl e8 F10 (g := (mkF m 15 #[.val (.ref a1), .val (.ref a2)] [(.ref a1), (.ref a6)])) rfl rfl (hb hby d7_15)
  obtain ⟨cq30, kq30, q30a, q30b, q30c⟩ := isOf hZ e11 E_12
  obtain ⟨_, _, ⟨T30, L30, k30, n30⟩, -, X30, ⟨Lc30, hQ30, l30, y30, z30⟩, st30⟩ := X11.virtualBack hx (y := M_14) (z := M_14) hown (mvT hZ (hw _ (gw 45 rfl))) (mvT hZ (hw _ (gw 46 rfl))) (notFace_of_selects (args := #[]) (mvT hZ (hw _ (gw 48 rfl)))) (mvT hZ (hw _ (gw 48 rfl))) (mvT hZ (hw _ (gw 47 rfl))) (by decide) (backOf (W := 0) (rm8_31 l Z a0 hw [] a6 a9 p15 a20 a22 p24 p25 k26 k28 h0 n0  O0 hne13 E_14 S_16 hk17 F18 F19 F21 F23 V27 V29) hZ (hw _ (gw 49 rfl)) (hw _ (gw 9 rfl)) (by decide) (by decide)) q30a q30c (g := (mkF m 18 #[.val (.ref a1), .val (.ref a2)] [(.ref a9), (.ref a6)])) rfl (by rw [hml]; rfl) (Steps.refl _) (argsL := [(.ref a9)]) (rest := []) (lenOf pd_14 rfl) rfl (by show 2 * 0 + _ ≤ _; exact Nat.le_of_eq rfl) (hb hby d7_18) (fun _ _ => ⟨rfl, e11, (by decide : 0 + 0 ≤ _), (by decide : 0 + 0 ≤ _)⟩)
  dsimp only [Pt.U, Pt.locs, Pt.cells, Pt.slots] at X30 l30 y30 z30 st30 hQ30
  subst l30 y30 z30
  obtain ⟨rfl, u32, u33⟩ := hQ30
  have N30 := Fr.app N0 u32
  obtain ⟨fs, hr, hrun, hended, hW, hsame⟩ := X30.leave (v := some (.int (0 : Int32))) (fun h => by rw [Bd.returns] at h; cases h)
  refine ⟨_, _, pre0 _ ?_, hrun, hended, _, _, rfl, ?_, ⟨_, rfl⟩, hW, hsame.mono (by decide) (by decide)⟩
  · show Steps p.tables e below (s₁.setTop (mkF m 0 #[.val (.ref a1), .val (.ref a2)] [])) _
    refine XS.aloadN X0.here hx rfl (hb hby d7_0) rfl rfl ?_
    refine st4 _ ?_
    refine XS.ifNo X4.here hx rfl (hb hby d7_4) rfl ((if0 _ _).trans (feq (by decide +kernel : ¬ ((1 : Int32) = (0 : Int32)))).1) ?_
    refine XS.aloadN X4.here hx rfl (hb hby d7_7) rfl rfl ?_
    refine st5 _ ?_
    refine st8 _ ?_
    refine XS.aloadN X8.here hx rfl (hb hby d7_14) rfl rfl ?_
    refine st11 _ ?_
    refine st30.trans ?_
    show Steps p.tables e below (T30.setTop (mkF m 21 #[.val (.ref a1), .val (.ref a2)] [(.int (0 : Int32))])) _
    refine XS.ifYes X30.here hx rfl (pc0 := 21) (pc' := 28) rfl (hb hby d7_21) rfl ((if0 _ _).trans (teq (by decide +kernel : (0 : Int32) = (0 : Int32))).1) (by decide) (by decide) ?_
    refine XS.iconst X30.here hx rfl (hb hby d7_28) ?_
    show Steps p.tables e below (T30.setTop (mkF m 29 #[.val (.ref a1), .val (.ref a2)] [(.int (0 : Int32))])) _
    exact retN X30 hx (t := .boolean) Bd.returns (by simp) (hb hby d7_29) hr
  · show Q7_30 Z _ _ _ _ _ _ _ _ _ _ _ h0 n0 _ T30.heap _
    rw [u33]
    exact ⟨rfl, N30, rfl⟩
theorem ef_rm17_35 (m : MethodId) (x0 : Addr) (x1 : Addr) : entryFrame m #[(.ref x0), (.ref x1)] 3 = mkF m 0 #[.val (.ref x0), .val (.ref x1), .unset] [] := by first | (simp [entryFrame, mkF, argsToLocals, Value.category]; done) | rfl
def Q17_35 (Z : State) (a1 : Addr) (a2 : Addr) (k3 : ClassId) (p6 : Int32) (p7 : Int32) (k8 : ClassId) (h0 : Heap) (n0 : Nat) (v : Option Value) (h : Heap) (L : List Loc) : Prop := (v = some (.int (0 : Int32)) ∧ Fr n0 L ∧ h = h0)
set_option maxRecDepth 65536 in
set_option maxHeartbeats 40000000 in
theorem rm17_35 (l : Launch) (Z : State) (a0 : Array Value) (hw : ∀ d ∈ own_ws, d.before a0 Z = true) (ws : List Jvm.Cond) (a1 : Addr) (a2 : Addr) (k3 : ClassId) (p6 : Int32) (p7 : Int32) (k8 : ClassId) (h0 : Heap) (n0 : Nat) (O0 : Old Z n0 h0) (V4 : Arv Z h0 a1 k3 .byte (0 : Int32) [] (.int 0)) (V9 : Arv Z h0 a2 k8 .byte (2 : Int32) [(.int p6), (.int p7)] (.int (0 : Int32))) :
    MetFree l M_13 (head1 (Jvm.Cond.code M_13 jdk_43_method_13_code 3 (some .boolean) :: ws) ({ frames := 0, cells := 0, slots := 0, locals := 0 } : Room)) (fun a U => a = #[(.ref a1), (.ref a2)] ∧ Z.Warmed39 U.vm ∧ U.heap = h0) (fun _ _ _ _ _ => True) (fun _ U o U' => ∃ v L, o = .returned v ∧ Q17_35 Z a1 a2 k3 p6 p7 k8 h0 n0 v U'.heap L ∧ FrameEnd U o U' L ({ frames := 0, cells := 0, slots := 0, locals := 0 } : Room).cells ({ frames := 0, cells := 0, slots := 0, locals := 0 } : Room).slots) := by
  refine MetFree.of_bodySF (plainFor_of_name pn_2) hisR ?_
  intro p e s m args below meth c s₁ Bd hml0 hP hK
  obtain ⟨rfl, hZ, hh⟩ := hP
  have hx := Bd.exec
  have hby := Bd.bytes
  have hml : c.maxLocals = 3 := hml0
  have hown : s.vm.findClass "java/lang/StringLatin1" = some m.cls := findClass_of_methodNamed Bd.named
  have hnm := (name_of_methodNamed Bd.named Bd.method).1
  have X0 : Stand p l e ({ frames := 0, cells := 0, slots := 0, locals := 0 } : Room) s m #[(.ref a1), (.ref a2)] below meth c s₁ [] 0 0 := Stand.of_body Bd
  have e0 : s₁.heap = h0 := by rw [← hh, Bd.state]; rfl
  have N0 := Fr.nil n0
  have pre0 : ∀ t, Steps p.tables e below (s₁.setTop (mkF m 0 #[.val (.ref a1), .val (.ref a2), .unset] [])) t → Steps p.tables e below (s₁.setTop (entryFrame m #[(.ref a1), (.ref a2)] 3)) t := fun t k => castTop (ef_rm17_35 m a1 a2) k
  obtain ⟨cl5, Ar5, -, Sz5, Nn5, -, -⟩ := id V4
  obtain ⟨cl10, Ar10, -, Sz10, Nn10, -, -⟩ := id V9
  obtain ⟨fs, hr, hrun, hended, hW, hsame⟩ := X0.leave (v := some (.int (0 : Int32))) (fun h => by rw [Bd.returns] at h; cases h)
  refine ⟨_, _, pre0 _ ?_, hrun, hended, _, _, rfl, ?_, ⟨_, rfl⟩, hW, hsame.mono (by decide) (by decide)⟩
  · show Steps p.tables e below (s₁.setTop (mkF m 0 #[.val (.ref a1), .val (.ref a2), .unset] [])) _
    refine XS.aloadN X0.here hx rfl (hb hby d17_0) rfl rfl ?_
    refine X0.arraylength hx (by rw [e0]; exact Ar5.1) (State.isArrayOf_alike hZ.alike Ar5.2.1) (g := (mkF m 1 #[.val (.ref a1), .val (.ref a2), .unset] [(.ref a1)])) rfl rfl (hb hby d17_1) _ ?_
    rw [len_of Sz5 Nn5]
    refine XS.aloadN X0.here hx rfl (hb hby d17_2) rfl rfl ?_
    refine X0.arraylength hx (by rw [e0]; exact Ar10.1) (State.isArrayOf_alike hZ.alike Ar10.2.1) (g := (mkF m 3 #[.val (.ref a1), .val (.ref a2), .unset] [(.ref a2), (.int (0 : Int32))])) rfl rfl (hb hby d17_3) _ ?_
    rw [len_of Sz10 Nn10]
    refine XS.icmpYes X0.here hx rfl (pc0 := 4) (pc' := 34) rfl (hb hby d17_4) rfl (feq (by decide +kernel : ¬ ((0 : Int32) = (2 : Int32)))).2 (by decide) (by decide) ?_
    refine XS.iconst X0.here hx rfl (hb hby d17_34) ?_
    show Steps p.tables e below (s₁.setTop (mkF m 35 #[.val (.ref a1), .val (.ref a2), .unset] [(.int (0 : Int32))])) _
    exact retN X0 hx (t := .boolean) Bd.returns (by simp) (hb hby d17_35) hr
  · show Q17_35 Z _ _ _ _ _ _ h0 n0 _ s₁.heap _
    rw [e0]
    exact ⟨rfl, N0, rfl⟩
theorem ef_rm8_34 (m : MethodId) (x0 : Addr) (x1 : Addr) : entryFrame m #[(.ref x0), (.ref x1)] 3 = mkF m 0 #[.val (.ref x0), .val (.ref x1), .unset] [] := by first | (simp [entryFrame, mkF, argsToLocals, Value.category]; done) | rfl
def Q8_34 (Z : State) (a1 : Addr) (a2 : Addr) (p7 : Int32) (a15 : Addr) (a18 : Addr) (k21 : ClassId) (p23 : Int32) (p24 : Int32) (k25 : ClassId) (h0 : Heap) (n0 : Nat) (v : Option Value) (h : Heap) (L : List Loc) : Prop := (v = some (.int (0 : Int32)) ∧ Fr n0 L ∧ h = h0)
set_option maxRecDepth 65536 in
set_option maxHeartbeats 40000000 in
theorem rm8_34 (l : Launch) (Z : State) (a0 : Array Value) (hw : ∀ d ∈ own_ws, d.before a0 Z = true) (ws : List Jvm.Cond) (a1 : Addr) (a2 : Addr) (p7 : Int32) (a15 : Addr) (a18 : Addr) (k21 : ClassId) (p23 : Int32) (p24 : Int32) (k25 : ClassId) (h0 : Heap) (n0 : Nat) (O0 : Old Z n0 h0) (hne3 : a1 ≠ a2) (E_4 : Exa Z h0 a2 C_0) (S_8 : Sta Z Z.heap C_0 "COMPACT_STRINGS" "Z" (.int p7)) (hk10 : ¬ (p7 = (0 : Int32))) (F11 : Fld Z h0 a1 C_0 "coder" "B" (.int (0 : Int32))) (F13 : Fld Z h0 a2 C_0 "coder" "B" (.int (0 : Int32))) (F16 : Fld Z h0 a1 C_0 "value" "[B" (.ref a15)) (F19 : Fld Z h0 a2 C_0 "value" "[B" (.ref a18)) (V22 : Arv Z h0 a15 k21 .byte (0 : Int32) [] (.int 0)) (V26 : Arv Z h0 a18 k25 .byte (2 : Int32) [(.int p23), (.int p24)] (.int (0 : Int32))) :
    MetFree l M_14 (head1 (Jvm.Cond.code M_14 jdk_42_method_66_code 3 (some .boolean) :: ws) ({ frames := 1, cells := 0, slots := 0, locals := 14 } : Room)) (fun a U => a = #[(.ref a1), (.ref a2)] ∧ Z.Warmed39 U.vm ∧ U.heap = h0) (fun _ _ _ _ _ => True) (fun _ U o U' => ∃ v L, o = .returned v ∧ Q8_34 Z a1 a2 p7 a15 a18 k21 p23 p24 k25 h0 n0 v U'.heap L ∧ FrameEnd U o U' L ({ frames := 1, cells := 0, slots := 0, locals := 14 } : Room).cells ({ frames := 1, cells := 0, slots := 0, locals := 14 } : Room).slots) := by
  refine MetFree.of_bodySF (plainFor_of_name pn_1) hisR ?_
  intro p e s m args below meth c s₁ Bd hml0 hP hK
  obtain ⟨rfl, hZ, hh⟩ := hP
  have hx := Bd.exec
  have hby := Bd.bytes
  have hml : c.maxLocals = 3 := hml0
  have hown : s.vm.findClass "java/lang/String" = some m.cls := findClass_of_methodNamed Bd.named
  have hnm := (name_of_methodNamed Bd.named Bd.method).1
  have X0 : Stand p l e ({ frames := 1, cells := 0, slots := 0, locals := 14 } : Room) s m #[(.ref a1), (.ref a2)] below meth c s₁ [] 0 0 := Stand.of_body Bd
  have e0 : s₁.heap = h0 := by rw [← hh, Bd.state]; rfl
  have N0 := Fr.nil n0
  have pre0 : ∀ t, Steps p.tables e below (s₁.setTop (mkF m 0 #[.val (.ref a1), .val (.ref a2), .unset] [])) t → Steps p.tables e below (s₁.setTop (entryFrame m #[(.ref a1), (.ref a2)] 3)) t := fun t k => castTop (ef_rm8_34 m a1 a2) k
  obtain ⟨T5, X5, e5, st5⟩ := instY X0 hx hZ hown (hw _ (gw 60 rfl)) e0 (Ins.self E_4) (g := (mkF m 8 #[.val (.ref a1), .val (.ref a2), .unset] [(.ref a2)])) rfl rfl (hb hby d8_8)
  obtain ⟨T6, X6, e6, st6⟩ := castY X5 hx hZ hown (hw _ (gw 60 rfl)) e5 (Ins.self E_4) (g := (mkF m 15 #[.val (.ref a1), .val (.ref a2), .unset] [(.ref a2)])) rfl rfl (hb hby d8_15)
  obtain ⟨T9, X9, e9, st9⟩ := getS2 X6 hx hZ hown (host := "") (Or.inl (hw _ (gw 55 rfl))) Via.refl e6 (Sta.ext O0.2 S_8) (g := (mkF m 19 #[.val (.ref a1), .val (.ref a2), .val (.ref a2)] [])) rfl (hb hby d8_19)
  obtain ⟨T12, X12, e12, st12⟩ := getF X9 hx hZ hown (host := "") (Or.inl (hw _ (gw 28 rfl))) Via.refl e9 F11 (g := (mkF m 26 #[.val (.ref a1), .val (.ref a2), .val (.ref a2)] [(.ref a1)])) rfl rfl (hb hby d8_26)
  obtain ⟨T14, X14, e14, st14⟩ := getF X12 hx hZ hown (host := "") (Or.inl (hw _ (gw 28 rfl))) Via.refl e12 F13 (g := (mkF m 30 #[.val (.ref a1), .val (.ref a2), .val (.ref a2)] [(.ref a2), (.int (0 : Int32))])) rfl rfl (hb hby d8_30)
  obtain ⟨T17, X17, e17, st17⟩ := getF X14 hx hZ hown (host := "") (Or.inl (hw _ (gw 27 rfl))) Via.refl e14 F16 (g := (mkF m 37 #[.val (.ref a1), .val (.ref a2), .val (.ref a2)] [(.ref a1)])) rfl rfl (hb hby d8_37)
  obtain ⟨T20, X20, e20, st20⟩ := getF X17 hx hZ hown (host := "") (Or.inl (hw _ (gw 27 rfl))) Via.refl e17 F19 (g := (mkF m 41 #[.val (.ref a1), .val (.ref a2), .val (.ref a2)] [(.ref a2), (.ref a15)])) rfl rfl (hb hby d8_41)
  obtain ⟨_, _, ⟨T27, L27, k27, n27⟩, -, X27, ⟨Lc27, hQ27, l27, y27, z27⟩, st27⟩ := Jvm.LawKit.callS X20 hx (y := M_13) hown (mvT hZ (hw _ (gw 80 rfl))) (mvT hZ (hw _ (gw 81 rfl))) (mvT hZ (hw _ (gw 58 rfl))) (mvT hZ (hw _ (gw 82 rfl))) (by decide) (backOf (W := 0) (rm17_35 l Z a0 hw [] a15 a18 k21 p23 p24 k25 h0 n0  O0 V22 V26) hZ (hw _ (gw 82 rfl)) (hw _ (gw 58 rfl)) (by decide) (by decide)) (g := (mkF m 44 #[.val (.ref a1), .val (.ref a2), .val (.ref a2)] [(.ref a18), (.ref a15)])) rfl (by rw [hml]; rfl) (argsL := [(.ref a15), (.ref a18)]) (rest := []) (lenOf pd_13 rfl) rfl (by show 2 * 0 + _ ≤ _; exact Nat.le_of_eq rfl) (hb hby d8_44) (fun _ _ => ⟨rfl, e20, (by decide : 0 + 0 ≤ _), (by decide : 0 + 0 ≤ _)⟩)
  dsimp only [Pt.U, Pt.locs, Pt.cells, Pt.slots] at X27 l27 y27 z27 st27 hQ27
  subst l27 y27 z27
  obtain ⟨rfl, u29, u30⟩ := hQ27
  have N27 := Fr.app N0 u29
  obtain ⟨fs, hr, hrun, hended, hW, hsame⟩ := X27.leave (v := some (.int (0 : Int32))) (fun h => by rw [Bd.returns] at h; cases h)
  refine ⟨_, _, pre0 _ ?_, hrun, hended, _, _, rfl, ?_, ⟨_, rfl⟩, hW, hsame.mono (by decide) (by decide)⟩
  · show Steps p.tables e below (s₁.setTop (mkF m 0 #[.val (.ref a1), .val (.ref a2), .unset] [])) _
    refine XS.aloadN X0.here hx rfl (hb hby d8_0) rfl rfl ?_
    refine XS.aloadN X0.here hx rfl (hb hby d8_1) rfl rfl ?_
    refine Jvm.RoadKit.acmp (g := (mkF m 2 #[.val (.ref a1), .val (.ref a2), .unset] [(.ref a2), (.ref a1)])) X0 hx rfl rfl rfl (pc0 := 2) (pc' := 7) (same := false) rfl (hb hby d8_2) rfl (decide_eq_false fun q => hne3 (Value.ref.inj q)) (by decide) (by decide) ?_
    refine XS.aloadN X0.here hx rfl (hb hby d8_7) rfl rfl ?_
    refine st5 _ ?_
    refine XS.ifNo X5.here hx rfl (hb hby d8_11) rfl ((if0 _ _).trans (feq (by decide +kernel : ¬ ((1 : Int32) = (0 : Int32)))).1) ?_
    refine XS.aloadN X5.here hx rfl (hb hby d8_14) rfl rfl ?_
    refine st6 _ ?_
    refine XS.astoreN X6.here hx rfl (hb hby d8_18) rfl rfl (l' := #[.val (.ref a1), .val (.ref a2), .val (.ref a2)]) rfl ?_
    show Steps p.tables e below (T6.setTop (mkF m 19 #[.val (.ref a1), .val (.ref a2), .val (.ref a2)] [])) _
    refine st9 _ ?_
    refine XS.ifNo X9.here hx rfl (hb hby d8_22) rfl ((if0 _ _).trans (feq hk10).1) ?_
    refine XS.aloadN X9.here hx rfl (hb hby d8_25) rfl rfl ?_
    refine st12 _ ?_
    refine XS.aloadN X12.here hx rfl (hb hby d8_29) rfl rfl ?_
    refine st14 _ ?_
    refine XS.icmpNo X14.here hx rfl (hb hby d8_33) rfl (teq (by decide +kernel : (0 : Int32) = (0 : Int32))).2 ?_
    refine XS.aloadN X14.here hx rfl (hb hby d8_36) rfl rfl ?_
    refine st17 _ ?_
    show Steps p.tables e below (T17.setTop (mkF m 40 #[.val (.ref a1), .val (.ref a2), .val (.ref a2)] [(.ref a15)])) _
    refine XS.aloadN X17.here hx rfl (hb hby d8_40) rfl rfl ?_
    refine st20 _ ?_
    refine st27 _ ?_
    refine XS.ifYes X27.here hx rfl (pc0 := 47) (pc' := 54) rfl (hb hby d8_47) rfl ((if0 _ _).trans (teq (by decide +kernel : (0 : Int32) = (0 : Int32))).1) (by decide) (by decide) ?_
    refine XS.iconst X27.here hx rfl (hb hby d8_54) ?_
    show Steps p.tables e below (T27.setTop (mkF m 55 #[.val (.ref a1), .val (.ref a2), .val (.ref a2)] [(.int (0 : Int32))])) _
    exact retN X27 hx (t := .boolean) Bd.returns (by simp) (hb hby d8_55) hr
  · show Q8_34 Z _ _ _ _ _ _ _ _ _ h0 n0 _ T27.heap _
    rw [u30]
    exact ⟨rfl, N27, rfl⟩
theorem ef_rm7_33 (m : MethodId) (x0 : Addr) (x1 : Addr) : entryFrame m #[(.ref x0), (.ref x1)] 2 = mkF m 0 #[.val (.ref x0), .val (.ref x1)] [] := by first | (simp [entryFrame, mkF, argsToLocals, Value.category]; done) | rfl
def Q7_33 (Z : State) (a1 : Addr) (a2 : Addr) (a6 : Addr) (a9 : Addr) (p15 : Int32) (a20 : Addr) (a22 : Addr) (k24 : ClassId) (p26 : Int32) (p27 : Int32) (k28 : ClassId) (h0 : Heap) (n0 : Nat) (v : Option Value) (h : Heap) (L : List Loc) : Prop := (v = some (.int (0 : Int32)) ∧ Fr n0 L ∧ h = h0)
set_option maxRecDepth 65536 in
set_option maxHeartbeats 40000000 in
theorem rm7_33 (l : Launch) (Z : State) (a0 : Array Value) (hw : ∀ d ∈ own_ws, d.before a0 Z = true) (ws : List Jvm.Cond) (a1 : Addr) (a2 : Addr) (a6 : Addr) (a9 : Addr) (p15 : Int32) (a20 : Addr) (a22 : Addr) (k24 : ClassId) (p26 : Int32) (p27 : Int32) (k28 : ClassId) (h0 : Heap) (n0 : Nat) (O0 : Old Z n0 h0) (E_3 : Exa Z h0 a2 C_1) (F7 : Fld Z h0 a2 C_1 "written" C_2 (.ref a6)) (F10 : Fld Z h0 a1 C_1 "written" C_2 (.ref a9)) (E_12 : Exa Z h0 a6 C_0) (hne13 : a6 ≠ a9) (E_14 : Exa Z h0 a9 C_0) (S_16 : Sta Z Z.heap C_0 "COMPACT_STRINGS" "Z" (.int p15)) (hk17 : ¬ (p15 = (0 : Int32))) (F18 : Fld Z h0 a6 C_0 "coder" "B" (.int (0 : Int32))) (F19 : Fld Z h0 a9 C_0 "coder" "B" (.int (0 : Int32))) (F21 : Fld Z h0 a6 C_0 "value" "[B" (.ref a20)) (F23 : Fld Z h0 a9 C_0 "value" "[B" (.ref a22)) (V25 : Arv Z h0 a20 k24 .byte (0 : Int32) [] (.int 0)) (V29 : Arv Z h0 a22 k28 .byte (2 : Int32) [(.int p26), (.int p27)] (.int (0 : Int32))) :
    MetFree l M_15 (head1 (Jvm.Cond.code M_15 prog_67_method_3_code 2 (some .boolean) :: ws) ({ frames := 2, cells := 0, slots := 0, locals := 28 } : Room)) (fun a U => a = #[(.ref a1), (.ref a2)] ∧ Z.Warmed39 U.vm ∧ U.heap = h0) (fun _ _ _ _ _ => True) (fun _ U o U' => ∃ v L, o = .returned v ∧ Q7_33 Z a1 a2 a6 a9 p15 a20 a22 k24 p26 p27 k28 h0 n0 v U'.heap L ∧ FrameEnd U o U' L ({ frames := 2, cells := 0, slots := 0, locals := 28 } : Room).cells ({ frames := 2, cells := 0, slots := 0, locals := 28 } : Room).slots) := by
  refine MetFree.of_bodySF (plainFor_of_name pn_4) hisR ?_
  intro p e s m args below meth c s₁ Bd hml0 hP hK
  obtain ⟨rfl, hZ, hh⟩ := hP
  have hx := Bd.exec
  have hby := Bd.bytes
  have hml : c.maxLocals = 2 := hml0
  have hown : s.vm.findClass "com/example/vestry/vestry/JsonText$Numeral" = some m.cls := findClass_of_methodNamed Bd.named
  have hnm := (name_of_methodNamed Bd.named Bd.method).1
  have X0 : Stand p l e ({ frames := 2, cells := 0, slots := 0, locals := 28 } : Room) s m #[(.ref a1), (.ref a2)] below meth c s₁ [] 0 0 := Stand.of_body Bd
  have e0 : s₁.heap = h0 := by rw [← hh, Bd.state]; rfl
  have N0 := Fr.nil n0
  have pre0 : ∀ t, Steps p.tables e below (s₁.setTop (mkF m 0 #[.val (.ref a1), .val (.ref a2)] [])) t → Steps p.tables e below (s₁.setTop (entryFrame m #[(.ref a1), (.ref a2)] 2)) t := fun t k => castTop (ef_rm7_33 m a1 a2) k
  obtain ⟨T4, X4, e4, st4⟩ := instY X0 hx hZ hown (hw _ (gw 43 rfl)) e0 (Ins.self E_3) (g := (mkF m 1 #[.val (.ref a1), .val (.ref a2)] [(.ref a2)])) rfl rfl (hb hby d7_1)
  obtain ⟨T5, X5, e5, st5⟩ := castY X4 hx hZ hown (hw _ (gw 43 rfl)) e4 (Ins.self E_3) (g := (mkF m 8 #[.val (.ref a1), .val (.ref a2)] [(.ref a2)])) rfl rfl (hb hby d7_8)
  obtain ⟨T8, X8, e8, st8⟩ := getF X5 hx hZ hown (host := "") (Or.inl (hw _ (gw 36 rfl))) Via.refl e5 F7 (g := (mkF m 11 #[.val (.ref a1), .val (.ref a2)] [(.ref a2)])) rfl rfl (hb hby d7_11)
  obtain ⟨T11, X11, e11, st11⟩ := getF X8 hx hZ hown (host := "") (Or.inl (hw _ (gw 36 rfl))) Via.refl e8 F10 (g := (mkF m 15 #[.val (.ref a1), .val (.ref a2)] [(.ref a1), (.ref a6)])) rfl rfl (hb hby d7_15)
  obtain ⟨cq30, kq30, q30a, q30b, q30c⟩ := isOf hZ e11 E_12
  obtain ⟨_, _, ⟨T30, L30, k30, n30⟩, -, X30, ⟨Lc30, hQ30, l30, y30, z30⟩, st30⟩ := X11.virtualBack hx (y := M_14) (z := M_14) hown (mvT hZ (hw _ (gw 45 rfl))) (mvT hZ (hw _ (gw 46 rfl))) (notFace_of_selects (args := #[]) (mvT hZ (hw _ (gw 48 rfl)))) (mvT hZ (hw _ (gw 48 rfl))) (mvT hZ (hw _ (gw 47 rfl))) (by decide) (backOf (W := 0) (rm8_34 l Z a0 hw [] a6 a9 p15 a20 a22 k24 p26 p27 k28 h0 n0  O0 hne13 E_14 S_16 hk17 F18 F19 F21 F23 V25 V29) hZ (hw _ (gw 49 rfl)) (hw _ (gw 9 rfl)) (by decide) (by decide)) q30a q30c (g := (mkF m 18 #[.val (.ref a1), .val (.ref a2)] [(.ref a9), (.ref a6)])) rfl (by rw [hml]; rfl) (Steps.refl _) (argsL := [(.ref a9)]) (rest := []) (lenOf pd_14 rfl) rfl (by show 2 * 0 + _ ≤ _; exact Nat.le_of_eq rfl) (hb hby d7_18) (fun _ _ => ⟨rfl, e11, (by decide : 0 + 0 ≤ _), (by decide : 0 + 0 ≤ _)⟩)
  dsimp only [Pt.U, Pt.locs, Pt.cells, Pt.slots] at X30 l30 y30 z30 st30 hQ30
  subst l30 y30 z30
  obtain ⟨rfl, u32, u33⟩ := hQ30
  have N30 := Fr.app N0 u32
  obtain ⟨fs, hr, hrun, hended, hW, hsame⟩ := X30.leave (v := some (.int (0 : Int32))) (fun h => by rw [Bd.returns] at h; cases h)
  refine ⟨_, _, pre0 _ ?_, hrun, hended, _, _, rfl, ?_, ⟨_, rfl⟩, hW, hsame.mono (by decide) (by decide)⟩
  · show Steps p.tables e below (s₁.setTop (mkF m 0 #[.val (.ref a1), .val (.ref a2)] [])) _
    refine XS.aloadN X0.here hx rfl (hb hby d7_0) rfl rfl ?_
    refine st4 _ ?_
    refine XS.ifNo X4.here hx rfl (hb hby d7_4) rfl ((if0 _ _).trans (feq (by decide +kernel : ¬ ((1 : Int32) = (0 : Int32)))).1) ?_
    refine XS.aloadN X4.here hx rfl (hb hby d7_7) rfl rfl ?_
    refine st5 _ ?_
    refine st8 _ ?_
    refine XS.aloadN X8.here hx rfl (hb hby d7_14) rfl rfl ?_
    refine st11 _ ?_
    refine st30.trans ?_
    show Steps p.tables e below (T30.setTop (mkF m 21 #[.val (.ref a1), .val (.ref a2)] [(.int (0 : Int32))])) _
    refine XS.ifYes X30.here hx rfl (pc0 := 21) (pc' := 28) rfl (hb hby d7_21) rfl ((if0 _ _).trans (teq (by decide +kernel : (0 : Int32) = (0 : Int32))).1) (by decide) (by decide) ?_
    refine XS.iconst X30.here hx rfl (hb hby d7_28) ?_
    show Steps p.tables e below (T30.setTop (mkF m 29 #[.val (.ref a1), .val (.ref a2)] [(.int (0 : Int32))])) _
    exact retN X30 hx (t := .boolean) Bd.returns (by simp) (hb hby d7_29) hr
  · show Q7_33 Z _ _ _ _ _ _ _ _ _ _ _ h0 n0 _ T30.heap _
    rw [u33]
    exact ⟨rfl, N30, rfl⟩
theorem ef_rm17_38 (m : MethodId) (x0 : Addr) (x1 : Addr) : entryFrame m #[(.ref x0), (.ref x1)] 3 = mkF m 0 #[.val (.ref x0), .val (.ref x1), .unset] [] := by first | (simp [entryFrame, mkF, argsToLocals, Value.category]; done) | rfl
def Q17_38 (Z : State) (a1 : Addr) (a2 : Addr) (p3 : Int32) (k4 : ClassId) (p7 : Int32) (k8 : ClassId) (h0 : Heap) (n0 : Nat) (v : Option Value) (h : Heap) (L : List Loc) : Prop := (v = some (.int (1 : Int32)) ∧ Fr n0 L ∧ h = h0)
set_option maxRecDepth 65536 in
set_option maxHeartbeats 40000000 in
theorem rm17_38 (l : Launch) (Z : State) (a0 : Array Value) (hw : ∀ d ∈ own_ws, d.before a0 Z = true) (ws : List Jvm.Cond) (a1 : Addr) (a2 : Addr) (p3 : Int32) (k4 : ClassId) (p7 : Int32) (k8 : ClassId) (h0 : Heap) (n0 : Nat) (O0 : Old Z n0 h0) (V5 : Arv Z h0 a1 k4 .byte (1 : Int32) [(.int p3)] (.int (0 : Int32))) (V9 : Arv Z h0 a2 k8 .byte (1 : Int32) [(.int p7)] (.int (0 : Int32))) (hk14 : p3 = p7) :
    MetFree l M_13 (head1 (Jvm.Cond.code M_13 jdk_43_method_13_code 3 (some .boolean) :: ws) ({ frames := 0, cells := 0, slots := 0, locals := 0 } : Room)) (fun a U => a = #[(.ref a1), (.ref a2)] ∧ Z.Warmed39 U.vm ∧ U.heap = h0) (fun _ _ _ _ _ => True) (fun _ U o U' => ∃ v L, o = .returned v ∧ Q17_38 Z a1 a2 p3 k4 p7 k8 h0 n0 v U'.heap L ∧ FrameEnd U o U' L ({ frames := 0, cells := 0, slots := 0, locals := 0 } : Room).cells ({ frames := 0, cells := 0, slots := 0, locals := 0 } : Room).slots) := by
  refine MetFree.of_bodySF (plainFor_of_name pn_2) hisR ?_
  intro p e s m args below meth c s₁ Bd hml0 hP hK
  obtain ⟨rfl, hZ, hh⟩ := hP
  have hx := Bd.exec
  have hby := Bd.bytes
  have hml : c.maxLocals = 3 := hml0
  have hown : s.vm.findClass "java/lang/StringLatin1" = some m.cls := findClass_of_methodNamed Bd.named
  have hnm := (name_of_methodNamed Bd.named Bd.method).1
  have X0 : Stand p l e ({ frames := 0, cells := 0, slots := 0, locals := 0 } : Room) s m #[(.ref a1), (.ref a2)] below meth c s₁ [] 0 0 := Stand.of_body Bd
  have e0 : s₁.heap = h0 := by rw [← hh, Bd.state]; rfl
  have N0 := Fr.nil n0
  have pre0 : ∀ t, Steps p.tables e below (s₁.setTop (mkF m 0 #[.val (.ref a1), .val (.ref a2), .unset] [])) t → Steps p.tables e below (s₁.setTop (entryFrame m #[(.ref a1), (.ref a2)] 3)) t := fun t k => castTop (ef_rm17_38 m a1 a2) k
  obtain ⟨cl6, Ar6, -, Sz6, Nn6, -, -⟩ := id V5
  obtain ⟨cl10, Ar10, -, Sz10, Nn10, -, -⟩ := id V9
  obtain ⟨cl11, Ar11, -, Sz11, Nn11, -, -⟩ := id V5
  obtain ⟨cl12, Ar12, -, Sz12, -, Hh12, -⟩ := id V5
  have hin12 : ¬ ((0 : Int32) < 0 ∨ cl12.slots.size ≤ ((0 : Int32)).toNatClampNeg) := inb_of Sz12 ⟨by decide +kernel, by decide +kernel⟩
  have hat12 : cl12.slots[((0 : Int32)).toNatClampNeg]? = some (.int p3) := Has.at Hh12 hin12 rfl
  obtain ⟨cl13, Ar13, -, Sz13, -, Hh13, -⟩ := id V9
  have hin13 : ¬ ((0 : Int32) < 0 ∨ cl13.slots.size ≤ ((0 : Int32)).toNatClampNeg) := inb_of Sz13 ⟨by decide +kernel, by decide +kernel⟩
  have hat13 : cl13.slots[((0 : Int32)).toNatClampNeg]? = some (.int p7) := Has.at Hh13 hin13 rfl
  obtain ⟨cl15, Ar15, -, Sz15, Nn15, -, -⟩ := id V5
  obtain ⟨fs, hr, hrun, hended, hW, hsame⟩ := X0.leave (v := some (.int (1 : Int32))) (fun h => by rw [Bd.returns] at h; cases h)
  refine ⟨_, _, pre0 _ ?_, hrun, hended, _, _, rfl, ?_, ⟨_, rfl⟩, hW, hsame.mono (by decide) (by decide)⟩
  · show Steps p.tables e below (s₁.setTop (mkF m 0 #[.val (.ref a1), .val (.ref a2), .unset] [])) _
    refine XS.aloadN X0.here hx rfl (hb hby d17_0) rfl rfl ?_
    refine X0.arraylength hx (by rw [e0]; exact Ar6.1) (State.isArrayOf_alike hZ.alike Ar6.2.1) (g := (mkF m 1 #[.val (.ref a1), .val (.ref a2), .unset] [(.ref a1)])) rfl rfl (hb hby d17_1) _ ?_
    rw [len_of Sz6 Nn6]
    refine XS.aloadN X0.here hx rfl (hb hby d17_2) rfl rfl ?_
    refine X0.arraylength hx (by rw [e0]; exact Ar10.1) (State.isArrayOf_alike hZ.alike Ar10.2.1) (g := (mkF m 3 #[.val (.ref a1), .val (.ref a2), .unset] [(.ref a2), (.int (1 : Int32))])) rfl rfl (hb hby d17_3) _ ?_
    rw [len_of Sz10 Nn10]
    refine XS.icmpNo X0.here hx rfl (hb hby d17_4) rfl (teq (by decide +kernel : (1 : Int32) = (1 : Int32))).2 ?_
    refine XS.iconst X0.here hx rfl (hb hby d17_7) ?_
    refine XS.istoreN X0.here hx rfl (hb hby d17_8) rfl (l' := #[.val (.ref a1), .val (.ref a2), .val (.int (0 : Int32))]) rfl ?_
    refine XS.iloadN X0.here hx rfl (hb hby d17_9) rfl ?_
    refine XS.aloadN X0.here hx rfl (hb hby d17_10) rfl rfl ?_
    show Steps p.tables e below (s₁.setTop (mkF m 11 #[.val (.ref a1), .val (.ref a2), .val (.int (0 : Int32))] [(.ref a1), (.int (0 : Int32))])) _
    refine X0.arraylength hx (by rw [e0]; exact Ar11.1) (State.isArrayOf_alike hZ.alike Ar11.2.1) (g := (mkF m 11 #[.val (.ref a1), .val (.ref a2), .val (.int (0 : Int32))] [(.ref a1), (.int (0 : Int32))])) rfl rfl (hb hby d17_11) _ ?_
    rw [len_of Sz11 Nn11]
    refine XS.icmpNo X0.here hx rfl (hb hby d17_12) rfl (tlt (by decide +kernel : (0 : Int32) < (1 : Int32))).2.1 ?_
    refine XS.aloadN X0.here hx rfl (hb hby d17_15) rfl rfl ?_
    refine XS.iloadN X0.here hx rfl (hb hby d17_16) rfl ?_
    refine X0.baloadBytes hx (j := (0 : Int32)) (v := (.int p3)) (by rw [e0]; exact Ar12.1) (State.isArrayOf_alike hZ.alike Ar12.2.1) Ar12.2.2 hin12 hat12 (g := (mkF m 17 #[.val (.ref a1), .val (.ref a2), .val (.int (0 : Int32))] [(.int (0 : Int32)), (.ref a1)])) rfl rfl (hb hby d17_17) _ ?_
    refine XS.aloadN X0.here hx rfl (hb hby d17_18) rfl rfl ?_
    refine XS.iloadN X0.here hx rfl (hb hby d17_19) rfl ?_
    refine X0.baloadBytes hx (j := (0 : Int32)) (v := (.int p7)) (by rw [e0]; exact Ar13.1) (State.isArrayOf_alike hZ.alike Ar13.2.1) Ar13.2.2 hin13 hat13 (g := (mkF m 20 #[.val (.ref a1), .val (.ref a2), .val (.int (0 : Int32))] [(.int (0 : Int32)), (.ref a2), (.int p3)])) rfl rfl (hb hby d17_20) _ ?_
    refine XS.icmpYes X0.here hx rfl (pc0 := 21) (pc' := 26) rfl (hb hby d17_21) rfl (teq hk14).1 (by decide) (by decide) ?_
    show Steps p.tables e below (s₁.setTop (mkF m 26 #[.val (.ref a1), .val (.ref a2), .val (.int (0 : Int32))] [])) _
    refine XS.iinc X0.here hx rfl (hb hby d17_26) rfl (l' := #[.val (.ref a1), .val (.ref a2), .val (.int ((0 : Int32) + (1 : Int32)))]) rfl ?_
    show Steps p.tables e below (s₁.setTop (mkF m 29 #[.val (.ref a1), .val (.ref a2), .val (.int ((0 : Int32) + (1 : Int32)))] [])) _
    rw [(by decide +kernel : ((0 : Int32) + (1 : Int32)) = (1 : Int32))]
    refine XS.goto X0.here hx rfl (pc0 := 29) (pc' := 9) rfl (hb hby d17_29) (by decide) (by decide) ?_
    refine XS.iloadN X0.here hx rfl (hb hby d17_9) rfl ?_
    refine XS.aloadN X0.here hx rfl (hb hby d17_10) rfl rfl ?_
    refine X0.arraylength hx (by rw [e0]; exact Ar15.1) (State.isArrayOf_alike hZ.alike Ar15.2.1) (g := (mkF m 11 #[.val (.ref a1), .val (.ref a2), .val (.int (1 : Int32))] [(.ref a1), (.int (1 : Int32))])) rfl rfl (hb hby d17_11) _ ?_
    rw [len_of Sz15 Nn15]
    refine XS.icmpYes X0.here hx rfl (pc0 := 12) (pc' := 32) rfl (hb hby d17_12) rfl (flt (by decide +kernel : ¬ ((1 : Int32) < (1 : Int32)))).2.1 (by decide) (by decide) ?_
    refine XS.iconst X0.here hx rfl (hb hby d17_32) ?_
    show Steps p.tables e below (s₁.setTop (mkF m 33 #[.val (.ref a1), .val (.ref a2), .val (.int (1 : Int32))] [(.int (1 : Int32))])) _
    exact retN X0 hx (t := .boolean) Bd.returns (by simp) (hb hby d17_33) hr
  · show Q17_38 Z _ _ _ _ _ _ h0 n0 _ s₁.heap _
    rw [e0]
    exact ⟨rfl, N0, rfl⟩
theorem ef_rm8_37 (m : MethodId) (x0 : Addr) (x1 : Addr) : entryFrame m #[(.ref x0), (.ref x1)] 3 = mkF m 0 #[.val (.ref x0), .val (.ref x1), .unset] [] := by first | (simp [entryFrame, mkF, argsToLocals, Value.category]; done) | rfl
def Q8_37 (Z : State) (a1 : Addr) (a2 : Addr) (p7 : Int32) (a15 : Addr) (a18 : Addr) (p21 : Int32) (k22 : ClassId) (p24 : Int32) (k25 : ClassId) (h0 : Heap) (n0 : Nat) (v : Option Value) (h : Heap) (L : List Loc) : Prop := (v = some (.int (1 : Int32)) ∧ Fr n0 L ∧ h = h0)
set_option maxRecDepth 65536 in
set_option maxHeartbeats 40000000 in
theorem rm8_37 (l : Launch) (Z : State) (a0 : Array Value) (hw : ∀ d ∈ own_ws, d.before a0 Z = true) (ws : List Jvm.Cond) (a1 : Addr) (a2 : Addr) (p7 : Int32) (a15 : Addr) (a18 : Addr) (p21 : Int32) (k22 : ClassId) (p24 : Int32) (k25 : ClassId) (h0 : Heap) (n0 : Nat) (O0 : Old Z n0 h0) (hne3 : a1 ≠ a2) (E_4 : Exa Z h0 a2 C_0) (S_8 : Sta Z Z.heap C_0 "COMPACT_STRINGS" "Z" (.int p7)) (hk10 : ¬ (p7 = (0 : Int32))) (F11 : Fld Z h0 a1 C_0 "coder" "B" (.int (0 : Int32))) (F13 : Fld Z h0 a2 C_0 "coder" "B" (.int (0 : Int32))) (F16 : Fld Z h0 a1 C_0 "value" "[B" (.ref a15)) (F19 : Fld Z h0 a2 C_0 "value" "[B" (.ref a18)) (V23 : Arv Z h0 a15 k22 .byte (1 : Int32) [(.int p21)] (.int (0 : Int32))) (V26 : Arv Z h0 a18 k25 .byte (1 : Int32) [(.int p24)] (.int (0 : Int32))) (hk27 : p21 = p24) :
    MetFree l M_14 (head1 (Jvm.Cond.code M_14 jdk_42_method_66_code 3 (some .boolean) :: ws) ({ frames := 1, cells := 0, slots := 0, locals := 14 } : Room)) (fun a U => a = #[(.ref a1), (.ref a2)] ∧ Z.Warmed39 U.vm ∧ U.heap = h0) (fun _ _ _ _ _ => True) (fun _ U o U' => ∃ v L, o = .returned v ∧ Q8_37 Z a1 a2 p7 a15 a18 p21 k22 p24 k25 h0 n0 v U'.heap L ∧ FrameEnd U o U' L ({ frames := 1, cells := 0, slots := 0, locals := 14 } : Room).cells ({ frames := 1, cells := 0, slots := 0, locals := 14 } : Room).slots) := by
  refine MetFree.of_bodySF (plainFor_of_name pn_1) hisR ?_
  intro p e s m args below meth c s₁ Bd hml0 hP hK
  obtain ⟨rfl, hZ, hh⟩ := hP
  have hx := Bd.exec
  have hby := Bd.bytes
  have hml : c.maxLocals = 3 := hml0
  have hown : s.vm.findClass "java/lang/String" = some m.cls := findClass_of_methodNamed Bd.named
  have hnm := (name_of_methodNamed Bd.named Bd.method).1
  have X0 : Stand p l e ({ frames := 1, cells := 0, slots := 0, locals := 14 } : Room) s m #[(.ref a1), (.ref a2)] below meth c s₁ [] 0 0 := Stand.of_body Bd
  have e0 : s₁.heap = h0 := by rw [← hh, Bd.state]; rfl
  have N0 := Fr.nil n0
  have pre0 : ∀ t, Steps p.tables e below (s₁.setTop (mkF m 0 #[.val (.ref a1), .val (.ref a2), .unset] [])) t → Steps p.tables e below (s₁.setTop (entryFrame m #[(.ref a1), (.ref a2)] 3)) t := fun t k => castTop (ef_rm8_37 m a1 a2) k
  obtain ⟨T5, X5, e5, st5⟩ := instY X0 hx hZ hown (hw _ (gw 60 rfl)) e0 (Ins.self E_4) (g := (mkF m 8 #[.val (.ref a1), .val (.ref a2), .unset] [(.ref a2)])) rfl rfl (hb hby d8_8)
  obtain ⟨T6, X6, e6, st6⟩ := castY X5 hx hZ hown (hw _ (gw 60 rfl)) e5 (Ins.self E_4) (g := (mkF m 15 #[.val (.ref a1), .val (.ref a2), .unset] [(.ref a2)])) rfl rfl (hb hby d8_15)
  obtain ⟨T9, X9, e9, st9⟩ := getS2 X6 hx hZ hown (host := "") (Or.inl (hw _ (gw 55 rfl))) Via.refl e6 (Sta.ext O0.2 S_8) (g := (mkF m 19 #[.val (.ref a1), .val (.ref a2), .val (.ref a2)] [])) rfl (hb hby d8_19)
  obtain ⟨T12, X12, e12, st12⟩ := getF X9 hx hZ hown (host := "") (Or.inl (hw _ (gw 28 rfl))) Via.refl e9 F11 (g := (mkF m 26 #[.val (.ref a1), .val (.ref a2), .val (.ref a2)] [(.ref a1)])) rfl rfl (hb hby d8_26)
  obtain ⟨T14, X14, e14, st14⟩ := getF X12 hx hZ hown (host := "") (Or.inl (hw _ (gw 28 rfl))) Via.refl e12 F13 (g := (mkF m 30 #[.val (.ref a1), .val (.ref a2), .val (.ref a2)] [(.ref a2), (.int (0 : Int32))])) rfl rfl (hb hby d8_30)
  obtain ⟨T17, X17, e17, st17⟩ := getF X14 hx hZ hown (host := "") (Or.inl (hw _ (gw 27 rfl))) Via.refl e14 F16 (g := (mkF m 37 #[.val (.ref a1), .val (.ref a2), .val (.ref a2)] [(.ref a1)])) rfl rfl (hb hby d8_37)
  obtain ⟨T20, X20, e20, st20⟩ := getF X17 hx hZ hown (host := "") (Or.inl (hw _ (gw 27 rfl))) Via.refl e17 F19 (g := (mkF m 41 #[.val (.ref a1), .val (.ref a2), .val (.ref a2)] [(.ref a2), (.ref a15)])) rfl rfl (hb hby d8_41)
  obtain ⟨_, _, ⟨T28, L28, k28, n28⟩, -, X28, ⟨Lc28, hQ28, l28, y28, z28⟩, st28⟩ := Jvm.LawKit.callS X20 hx (y := M_13) hown (mvT hZ (hw _ (gw 80 rfl))) (mvT hZ (hw _ (gw 81 rfl))) (mvT hZ (hw _ (gw 58 rfl))) (mvT hZ (hw _ (gw 82 rfl))) (by decide) (backOf (W := 0) (rm17_38 l Z a0 hw [] a15 a18 p21 k22 p24 k25 h0 n0  O0 V23 V26 hk27) hZ (hw _ (gw 82 rfl)) (hw _ (gw 58 rfl)) (by decide) (by decide)) (g := (mkF m 44 #[.val (.ref a1), .val (.ref a2), .val (.ref a2)] [(.ref a18), (.ref a15)])) rfl (by rw [hml]; rfl) (argsL := [(.ref a15), (.ref a18)]) (rest := []) (lenOf pd_13 rfl) rfl (by show 2 * 0 + _ ≤ _; exact Nat.le_of_eq rfl) (hb hby d8_44) (fun _ _ => ⟨rfl, e20, (by decide : 0 + 0 ≤ _), (by decide : 0 + 0 ≤ _)⟩)
  dsimp only [Pt.U, Pt.locs, Pt.cells, Pt.slots] at X28 l28 y28 z28 st28 hQ28
  subst l28 y28 z28
  obtain ⟨rfl, u30, u31⟩ := hQ28
  have N28 := Fr.app N0 u30
  obtain ⟨fs, hr, hrun, hended, hW, hsame⟩ := X28.leave (v := some (.int (1 : Int32))) (fun h => by rw [Bd.returns] at h; cases h)
  refine ⟨_, _, pre0 _ ?_, hrun, hended, _, _, rfl, ?_, ⟨_, rfl⟩, hW, hsame.mono (by decide) (by decide)⟩
  · show Steps p.tables e below (s₁.setTop (mkF m 0 #[.val (.ref a1), .val (.ref a2), .unset] [])) _
    refine XS.aloadN X0.here hx rfl (hb hby d8_0) rfl rfl ?_
    refine XS.aloadN X0.here hx rfl (hb hby d8_1) rfl rfl ?_
    refine Jvm.RoadKit.acmp (g := (mkF m 2 #[.val (.ref a1), .val (.ref a2), .unset] [(.ref a2), (.ref a1)])) X0 hx rfl rfl rfl (pc0 := 2) (pc' := 7) (same := false) rfl (hb hby d8_2) rfl (decide_eq_false fun q => hne3 (Value.ref.inj q)) (by decide) (by decide) ?_
    refine XS.aloadN X0.here hx rfl (hb hby d8_7) rfl rfl ?_
    refine st5 _ ?_
    refine XS.ifNo X5.here hx rfl (hb hby d8_11) rfl ((if0 _ _).trans (feq (by decide +kernel : ¬ ((1 : Int32) = (0 : Int32)))).1) ?_
    refine XS.aloadN X5.here hx rfl (hb hby d8_14) rfl rfl ?_
    refine st6 _ ?_
    refine XS.astoreN X6.here hx rfl (hb hby d8_18) rfl rfl (l' := #[.val (.ref a1), .val (.ref a2), .val (.ref a2)]) rfl ?_
    show Steps p.tables e below (T6.setTop (mkF m 19 #[.val (.ref a1), .val (.ref a2), .val (.ref a2)] [])) _
    refine st9 _ ?_
    refine XS.ifNo X9.here hx rfl (hb hby d8_22) rfl ((if0 _ _).trans (feq hk10).1) ?_
    refine XS.aloadN X9.here hx rfl (hb hby d8_25) rfl rfl ?_
    refine st12 _ ?_
    refine XS.aloadN X12.here hx rfl (hb hby d8_29) rfl rfl ?_
    refine st14 _ ?_
    refine XS.icmpNo X14.here hx rfl (hb hby d8_33) rfl (teq (by decide +kernel : (0 : Int32) = (0 : Int32))).2 ?_
    refine XS.aloadN X14.here hx rfl (hb hby d8_36) rfl rfl ?_
    refine st17 _ ?_
    show Steps p.tables e below (T17.setTop (mkF m 40 #[.val (.ref a1), .val (.ref a2), .val (.ref a2)] [(.ref a15)])) _
    refine XS.aloadN X17.here hx rfl (hb hby d8_40) rfl rfl ?_
    refine st20 _ ?_
    refine st28 _ ?_
    refine XS.ifNo X28.here hx rfl (hb hby d8_47) rfl ((if0 _ _).trans (feq (by decide +kernel : ¬ ((1 : Int32) = (0 : Int32)))).1) ?_
    refine XS.iconst X28.here hx rfl (hb hby d8_50) ?_
    refine XS.goto X28.here hx rfl (pc0 := 51) (pc' := 55) rfl (hb hby d8_51) (by decide) (by decide) ?_
    show Steps p.tables e below (T28.setTop (mkF m 55 #[.val (.ref a1), .val (.ref a2), .val (.ref a2)] [(.int (1 : Int32))])) _
    exact retN X28 hx (t := .boolean) Bd.returns (by simp) (hb hby d8_55) hr
  · show Q8_37 Z _ _ _ _ _ _ _ _ _ h0 n0 _ T28.heap _
    rw [u31]
    exact ⟨rfl, N28, rfl⟩
theorem ef_rm7_36 (m : MethodId) (x0 : Addr) (x1 : Addr) : entryFrame m #[(.ref x0), (.ref x1)] 2 = mkF m 0 #[.val (.ref x0), .val (.ref x1)] [] := by first | (simp [entryFrame, mkF, argsToLocals, Value.category]; done) | rfl
def Q7_36 (Z : State) (a1 : Addr) (a2 : Addr) (a6 : Addr) (a9 : Addr) (p15 : Int32) (a20 : Addr) (a22 : Addr) (p24 : Int32) (k25 : ClassId) (p27 : Int32) (k28 : ClassId) (h0 : Heap) (n0 : Nat) (v : Option Value) (h : Heap) (L : List Loc) : Prop := (v = some (.int (1 : Int32)) ∧ Fr n0 L ∧ h = h0)
set_option maxRecDepth 65536 in
set_option maxHeartbeats 40000000 in
theorem rm7_36 (l : Launch) (Z : State) (a0 : Array Value) (hw : ∀ d ∈ own_ws, d.before a0 Z = true) (ws : List Jvm.Cond) (a1 : Addr) (a2 : Addr) (a6 : Addr) (a9 : Addr) (p15 : Int32) (a20 : Addr) (a22 : Addr) (p24 : Int32) (k25 : ClassId) (p27 : Int32) (k28 : ClassId) (h0 : Heap) (n0 : Nat) (O0 : Old Z n0 h0) (E_3 : Exa Z h0 a2 C_1) (F7 : Fld Z h0 a2 C_1 "written" C_2 (.ref a6)) (F10 : Fld Z h0 a1 C_1 "written" C_2 (.ref a9)) (E_12 : Exa Z h0 a6 C_0) (hne13 : a6 ≠ a9) (E_14 : Exa Z h0 a9 C_0) (S_16 : Sta Z Z.heap C_0 "COMPACT_STRINGS" "Z" (.int p15)) (hk17 : ¬ (p15 = (0 : Int32))) (F18 : Fld Z h0 a6 C_0 "coder" "B" (.int (0 : Int32))) (F19 : Fld Z h0 a9 C_0 "coder" "B" (.int (0 : Int32))) (F21 : Fld Z h0 a6 C_0 "value" "[B" (.ref a20)) (F23 : Fld Z h0 a9 C_0 "value" "[B" (.ref a22)) (V26 : Arv Z h0 a20 k25 .byte (1 : Int32) [(.int p24)] (.int (0 : Int32))) (V29 : Arv Z h0 a22 k28 .byte (1 : Int32) [(.int p27)] (.int (0 : Int32))) (hk30 : p24 = p27) :
    MetFree l M_15 (head1 (Jvm.Cond.code M_15 prog_67_method_3_code 2 (some .boolean) :: ws) ({ frames := 2, cells := 0, slots := 0, locals := 28 } : Room)) (fun a U => a = #[(.ref a1), (.ref a2)] ∧ Z.Warmed39 U.vm ∧ U.heap = h0) (fun _ _ _ _ _ => True) (fun _ U o U' => ∃ v L, o = .returned v ∧ Q7_36 Z a1 a2 a6 a9 p15 a20 a22 p24 k25 p27 k28 h0 n0 v U'.heap L ∧ FrameEnd U o U' L ({ frames := 2, cells := 0, slots := 0, locals := 28 } : Room).cells ({ frames := 2, cells := 0, slots := 0, locals := 28 } : Room).slots) := by
  refine MetFree.of_bodySF (plainFor_of_name pn_4) hisR ?_
  intro p e s m args below meth c s₁ Bd hml0 hP hK
  obtain ⟨rfl, hZ, hh⟩ := hP
  have hx := Bd.exec
  have hby := Bd.bytes
  have hml : c.maxLocals = 2 := hml0
  have hown : s.vm.findClass "com/example/vestry/vestry/JsonText$Numeral" = some m.cls := findClass_of_methodNamed Bd.named
  have hnm := (name_of_methodNamed Bd.named Bd.method).1
  have X0 : Stand p l e ({ frames := 2, cells := 0, slots := 0, locals := 28 } : Room) s m #[(.ref a1), (.ref a2)] below meth c s₁ [] 0 0 := Stand.of_body Bd
  have e0 : s₁.heap = h0 := by rw [← hh, Bd.state]; rfl
  have N0 := Fr.nil n0
  have pre0 : ∀ t, Steps p.tables e below (s₁.setTop (mkF m 0 #[.val (.ref a1), .val (.ref a2)] [])) t → Steps p.tables e below (s₁.setTop (entryFrame m #[(.ref a1), (.ref a2)] 2)) t := fun t k => castTop (ef_rm7_36 m a1 a2) k
  obtain ⟨T4, X4, e4, st4⟩ := instY X0 hx hZ hown (hw _ (gw 43 rfl)) e0 (Ins.self E_3) (g := (mkF m 1 #[.val (.ref a1), .val (.ref a2)] [(.ref a2)])) rfl rfl (hb hby d7_1)
  obtain ⟨T5, X5, e5, st5⟩ := castY X4 hx hZ hown (hw _ (gw 43 rfl)) e4 (Ins.self E_3) (g := (mkF m 8 #[.val (.ref a1), .val (.ref a2)] [(.ref a2)])) rfl rfl (hb hby d7_8)
  obtain ⟨T8, X8, e8, st8⟩ := getF X5 hx hZ hown (host := "") (Or.inl (hw _ (gw 36 rfl))) Via.refl e5 F7 (g := (mkF m 11 #[.val (.ref a1), .val (.ref a2)] [(.ref a2)])) rfl rfl (hb hby d7_11)
  obtain ⟨T11, X11, e11, st11⟩ := getF X8 hx hZ hown (host := "") (Or.inl (hw _ (gw 36 rfl))) Via.refl e8 F10 (g := (mkF m 15 #[.val (.ref a1), .val (.ref a2)] [(.ref a1), (.ref a6)])) rfl rfl (hb hby d7_15)
  obtain ⟨cq31, kq31, q31a, q31b, q31c⟩ := isOf hZ e11 E_12
  obtain ⟨_, _, ⟨T31, L31, k31, n31⟩, -, X31, ⟨Lc31, hQ31, l31, y31, z31⟩, st31⟩ := X11.virtualBack hx (y := M_14) (z := M_14) hown (mvT hZ (hw _ (gw 45 rfl))) (mvT hZ (hw _ (gw 46 rfl))) (notFace_of_selects (args := #[]) (mvT hZ (hw _ (gw 48 rfl)))) (mvT hZ (hw _ (gw 48 rfl))) (mvT hZ (hw _ (gw 47 rfl))) (by decide) (backOf (W := 0) (rm8_37 l Z a0 hw [] a6 a9 p15 a20 a22 p24 k25 p27 k28 h0 n0  O0 hne13 E_14 S_16 hk17 F18 F19 F21 F23 V26 V29 hk30) hZ (hw _ (gw 49 rfl)) (hw _ (gw 9 rfl)) (by decide) (by decide)) q31a q31c (g := (mkF m 18 #[.val (.ref a1), .val (.ref a2)] [(.ref a9), (.ref a6)])) rfl (by rw [hml]; rfl) (Steps.refl _) (argsL := [(.ref a9)]) (rest := []) (lenOf pd_14 rfl) rfl (by show 2 * 0 + _ ≤ _; exact Nat.le_of_eq rfl) (hb hby d7_18) (fun _ _ => ⟨rfl, e11, (by decide : 0 + 0 ≤ _), (by decide : 0 + 0 ≤ _)⟩)
  dsimp only [Pt.U, Pt.locs, Pt.cells, Pt.slots] at X31 l31 y31 z31 st31 hQ31
  subst l31 y31 z31
  obtain ⟨rfl, u33, u34⟩ := hQ31
  have N31 := Fr.app N0 u33
  obtain ⟨fs, hr, hrun, hended, hW, hsame⟩ := X31.leave (v := some (.int (1 : Int32))) (fun h => by rw [Bd.returns] at h; cases h)
  refine ⟨_, _, pre0 _ ?_, hrun, hended, _, _, rfl, ?_, ⟨_, rfl⟩, hW, hsame.mono (by decide) (by decide)⟩
  · show Steps p.tables e below (s₁.setTop (mkF m 0 #[.val (.ref a1), .val (.ref a2)] [])) _
    refine XS.aloadN X0.here hx rfl (hb hby d7_0) rfl rfl ?_
    refine st4 _ ?_
    refine XS.ifNo X4.here hx rfl (hb hby d7_4) rfl ((if0 _ _).trans (feq (by decide +kernel : ¬ ((1 : Int32) = (0 : Int32)))).1) ?_
    refine XS.aloadN X4.here hx rfl (hb hby d7_7) rfl rfl ?_
    refine st5 _ ?_
    refine st8 _ ?_
    refine XS.aloadN X8.here hx rfl (hb hby d7_14) rfl rfl ?_
    refine st11 _ ?_
    refine st31.trans ?_
    show Steps p.tables e below (T31.setTop (mkF m 21 #[.val (.ref a1), .val (.ref a2)] [(.int (1 : Int32))])) _
    refine XS.ifNo X31.here hx rfl (hb hby d7_21) rfl ((if0 _ _).trans (feq (by decide +kernel : ¬ ((1 : Int32) = (0 : Int32)))).1) ?_
    refine XS.iconst X31.here hx rfl (hb hby d7_24) ?_
    refine XS.goto X31.here hx rfl (pc0 := 25) (pc' := 29) rfl (hb hby d7_25) (by decide) (by decide) ?_
    show Steps p.tables e below (T31.setTop (mkF m 29 #[.val (.ref a1), .val (.ref a2)] [(.int (1 : Int32))])) _
    exact retN X31 hx (t := .boolean) Bd.returns (by simp) (hb hby d7_29) hr
  · show Q7_36 Z _ _ _ _ _ _ _ _ _ _ _ h0 n0 _ T31.heap _
    rw [u34]
    exact ⟨rfl, N31, rfl⟩
theorem ef_rm17_41 (m : MethodId) (x0 : Addr) (x1 : Addr) : entryFrame m #[(.ref x0), (.ref x1)] 3 = mkF m 0 #[.val (.ref x0), .val (.ref x1), .unset] [] := by first | (simp [entryFrame, mkF, argsToLocals, Value.category]; done) | rfl
def Q17_41 (Z : State) (a1 : Addr) (a2 : Addr) (p3 : Int32) (k4 : ClassId) (p7 : Int32) (k8 : ClassId) (h0 : Heap) (n0 : Nat) (v : Option Value) (h : Heap) (L : List Loc) : Prop := (v = some (.int (0 : Int32)) ∧ Fr n0 L ∧ h = h0)
set_option maxRecDepth 65536 in
set_option maxHeartbeats 40000000 in
theorem rm17_41 (l : Launch) (Z : State) (a0 : Array Value) (hw : ∀ d ∈ own_ws, d.before a0 Z = true) (ws : List Jvm.Cond) (a1 : Addr) (a2 : Addr) (p3 : Int32) (k4 : ClassId) (p7 : Int32) (k8 : ClassId) (h0 : Heap) (n0 : Nat) (O0 : Old Z n0 h0) (V5 : Arv Z h0 a1 k4 .byte (1 : Int32) [(.int p3)] (.int (0 : Int32))) (V9 : Arv Z h0 a2 k8 .byte (1 : Int32) [(.int p7)] (.int (0 : Int32))) (hk14 : ¬ (p3 = p7)) :
    MetFree l M_13 (head1 (Jvm.Cond.code M_13 jdk_43_method_13_code 3 (some .boolean) :: ws) ({ frames := 0, cells := 0, slots := 0, locals := 0 } : Room)) (fun a U => a = #[(.ref a1), (.ref a2)] ∧ Z.Warmed39 U.vm ∧ U.heap = h0) (fun _ _ _ _ _ => True) (fun _ U o U' => ∃ v L, o = .returned v ∧ Q17_41 Z a1 a2 p3 k4 p7 k8 h0 n0 v U'.heap L ∧ FrameEnd U o U' L ({ frames := 0, cells := 0, slots := 0, locals := 0 } : Room).cells ({ frames := 0, cells := 0, slots := 0, locals := 0 } : Room).slots) := by
  refine MetFree.of_bodySF (plainFor_of_name pn_2) hisR ?_
  intro p e s m args below meth c s₁ Bd hml0 hP hK
  obtain ⟨rfl, hZ, hh⟩ := hP
  have hx := Bd.exec
  have hby := Bd.bytes
  have hml : c.maxLocals = 3 := hml0
  have hown : s.vm.findClass "java/lang/StringLatin1" = some m.cls := findClass_of_methodNamed Bd.named
  have hnm := (name_of_methodNamed Bd.named Bd.method).1
  have X0 : Stand p l e ({ frames := 0, cells := 0, slots := 0, locals := 0 } : Room) s m #[(.ref a1), (.ref a2)] below meth c s₁ [] 0 0 := Stand.of_body Bd
  have e0 : s₁.heap = h0 := by rw [← hh, Bd.state]; rfl
  have N0 := Fr.nil n0
  have pre0 : ∀ t, Steps p.tables e below (s₁.setTop (mkF m 0 #[.val (.ref a1), .val (.ref a2), .unset] [])) t → Steps p.tables e below (s₁.setTop (entryFrame m #[(.ref a1), (.ref a2)] 3)) t := fun t k => castTop (ef_rm17_41 m a1 a2) k
  obtain ⟨cl6, Ar6, -, Sz6, Nn6, -, -⟩ := id V5
  obtain ⟨cl10, Ar10, -, Sz10, Nn10, -, -⟩ := id V9
  obtain ⟨cl11, Ar11, -, Sz11, Nn11, -, -⟩ := id V5
  obtain ⟨cl12, Ar12, -, Sz12, -, Hh12, -⟩ := id V5
  have hin12 : ¬ ((0 : Int32) < 0 ∨ cl12.slots.size ≤ ((0 : Int32)).toNatClampNeg) := inb_of Sz12 ⟨by decide +kernel, by decide +kernel⟩
  have hat12 : cl12.slots[((0 : Int32)).toNatClampNeg]? = some (.int p3) := Has.at Hh12 hin12 rfl
  obtain ⟨cl13, Ar13, -, Sz13, -, Hh13, -⟩ := id V9
  have hin13 : ¬ ((0 : Int32) < 0 ∨ cl13.slots.size ≤ ((0 : Int32)).toNatClampNeg) := inb_of Sz13 ⟨by decide +kernel, by decide +kernel⟩
  have hat13 : cl13.slots[((0 : Int32)).toNatClampNeg]? = some (.int p7) := Has.at Hh13 hin13 rfl
  obtain ⟨fs, hr, hrun, hended, hW, hsame⟩ := X0.leave (v := some (.int (0 : Int32))) (fun h => by rw [Bd.returns] at h; cases h)
  refine ⟨_, _, pre0 _ ?_, hrun, hended, _, _, rfl, ?_, ⟨_, rfl⟩, hW, hsame.mono (by decide) (by decide)⟩
  · show Steps p.tables e below (s₁.setTop (mkF m 0 #[.val (.ref a1), .val (.ref a2), .unset] [])) _
    refine XS.aloadN X0.here hx rfl (hb hby d17_0) rfl rfl ?_
    refine X0.arraylength hx (by rw [e0]; exact Ar6.1) (State.isArrayOf_alike hZ.alike Ar6.2.1) (g := (mkF m 1 #[.val (.ref a1), .val (.ref a2), .unset] [(.ref a1)])) rfl rfl (hb hby d17_1) _ ?_
    rw [len_of Sz6 Nn6]
    refine XS.aloadN X0.here hx rfl (hb hby d17_2) rfl rfl ?_
    refine X0.arraylength hx (by rw [e0]; exact Ar10.1) (State.isArrayOf_alike hZ.alike Ar10.2.1) (g := (mkF m 3 #[.val (.ref a1), .val (.ref a2), .unset] [(.ref a2), (.int (1 : Int32))])) rfl rfl (hb hby d17_3) _ ?_
    rw [len_of Sz10 Nn10]
    refine XS.icmpNo X0.here hx rfl (hb hby d17_4) rfl (teq (by decide +kernel : (1 : Int32) = (1 : Int32))).2 ?_
    refine XS.iconst X0.here hx rfl (hb hby d17_7) ?_
    refine XS.istoreN X0.here hx rfl (hb hby d17_8) rfl (l' := #[.val (.ref a1), .val (.ref a2), .val (.int (0 : Int32))]) rfl ?_
    refine XS.iloadN X0.here hx rfl (hb hby d17_9) rfl ?_
    refine XS.aloadN X0.here hx rfl (hb hby d17_10) rfl rfl ?_
    show Steps p.tables e below (s₁.setTop (mkF m 11 #[.val (.ref a1), .val (.ref a2), .val (.int (0 : Int32))] [(.ref a1), (.int (0 : Int32))])) _
    refine X0.arraylength hx (by rw [e0]; exact Ar11.1) (State.isArrayOf_alike hZ.alike Ar11.2.1) (g := (mkF m 11 #[.val (.ref a1), .val (.ref a2), .val (.int (0 : Int32))] [(.ref a1), (.int (0 : Int32))])) rfl rfl (hb hby d17_11) _ ?_
    rw [len_of Sz11 Nn11]
    refine XS.icmpNo X0.here hx rfl (hb hby d17_12) rfl (tlt (by decide +kernel : (0 : Int32) < (1 : Int32))).2.1 ?_
    refine XS.aloadN X0.here hx rfl (hb hby d17_15) rfl rfl ?_
    refine XS.iloadN X0.here hx rfl (hb hby d17_16) rfl ?_
    refine X0.baloadBytes hx (j := (0 : Int32)) (v := (.int p3)) (by rw [e0]; exact Ar12.1) (State.isArrayOf_alike hZ.alike Ar12.2.1) Ar12.2.2 hin12 hat12 (g := (mkF m 17 #[.val (.ref a1), .val (.ref a2), .val (.int (0 : Int32))] [(.int (0 : Int32)), (.ref a1)])) rfl rfl (hb hby d17_17) _ ?_
    refine XS.aloadN X0.here hx rfl (hb hby d17_18) rfl rfl ?_
    refine XS.iloadN X0.here hx rfl (hb hby d17_19) rfl ?_
    refine X0.baloadBytes hx (j := (0 : Int32)) (v := (.int p7)) (by rw [e0]; exact Ar13.1) (State.isArrayOf_alike hZ.alike Ar13.2.1) Ar13.2.2 hin13 hat13 (g := (mkF m 20 #[.val (.ref a1), .val (.ref a2), .val (.int (0 : Int32))] [(.int (0 : Int32)), (.ref a2), (.int p3)])) rfl rfl (hb hby d17_20) _ ?_
    refine XS.icmpNo X0.here hx rfl (hb hby d17_21) rfl (feq hk14).1 ?_
    show Steps p.tables e below (s₁.setTop (mkF m 24 #[.val (.ref a1), .val (.ref a2), .val (.int (0 : Int32))] [])) _
    refine XS.iconst X0.here hx rfl (hb hby d17_24) ?_
    show Steps p.tables e below (s₁.setTop (mkF m 25 #[.val (.ref a1), .val (.ref a2), .val (.int (0 : Int32))] [(.int (0 : Int32))])) _
    exact retN X0 hx (t := .boolean) Bd.returns (by simp) (hb hby d17_25) hr
  · show Q17_41 Z _ _ _ _ _ _ h0 n0 _ s₁.heap _
    rw [e0]
    exact ⟨rfl, N0, rfl⟩
theorem ef_rm8_40 (m : MethodId) (x0 : Addr) (x1 : Addr) : entryFrame m #[(.ref x0), (.ref x1)] 3 = mkF m 0 #[.val (.ref x0), .val (.ref x1), .unset] [] := by first | (simp [entryFrame, mkF, argsToLocals, Value.category]; done) | rfl
def Q8_40 (Z : State) (a1 : Addr) (a2 : Addr) (p7 : Int32) (a15 : Addr) (a18 : Addr) (p21 : Int32) (k22 : ClassId) (p24 : Int32) (k25 : ClassId) (h0 : Heap) (n0 : Nat) (v : Option Value) (h : Heap) (L : List Loc) : Prop := (v = some (.int (0 : Int32)) ∧ Fr n0 L ∧ h = h0)
set_option maxRecDepth 65536 in
set_option maxHeartbeats 40000000 in
theorem rm8_40 (l : Launch) (Z : State) (a0 : Array Value) (hw : ∀ d ∈ own_ws, d.before a0 Z = true) (ws : List Jvm.Cond) (a1 : Addr) (a2 : Addr) (p7 : Int32) (a15 : Addr) (a18 : Addr) (p21 : Int32) (k22 : ClassId) (p24 : Int32) (k25 : ClassId) (h0 : Heap) (n0 : Nat) (O0 : Old Z n0 h0) (hne3 : a1 ≠ a2) (E_4 : Exa Z h0 a2 C_0) (S_8 : Sta Z Z.heap C_0 "COMPACT_STRINGS" "Z" (.int p7)) (hk10 : ¬ (p7 = (0 : Int32))) (F11 : Fld Z h0 a1 C_0 "coder" "B" (.int (0 : Int32))) (F13 : Fld Z h0 a2 C_0 "coder" "B" (.int (0 : Int32))) (F16 : Fld Z h0 a1 C_0 "value" "[B" (.ref a15)) (F19 : Fld Z h0 a2 C_0 "value" "[B" (.ref a18)) (V23 : Arv Z h0 a15 k22 .byte (1 : Int32) [(.int p21)] (.int (0 : Int32))) (V26 : Arv Z h0 a18 k25 .byte (1 : Int32) [(.int p24)] (.int (0 : Int32))) (hk27 : ¬ (p21 = p24)) :
    MetFree l M_14 (head1 (Jvm.Cond.code M_14 jdk_42_method_66_code 3 (some .boolean) :: ws) ({ frames := 1, cells := 0, slots := 0, locals := 14 } : Room)) (fun a U => a = #[(.ref a1), (.ref a2)] ∧ Z.Warmed39 U.vm ∧ U.heap = h0) (fun _ _ _ _ _ => True) (fun _ U o U' => ∃ v L, o = .returned v ∧ Q8_40 Z a1 a2 p7 a15 a18 p21 k22 p24 k25 h0 n0 v U'.heap L ∧ FrameEnd U o U' L ({ frames := 1, cells := 0, slots := 0, locals := 14 } : Room).cells ({ frames := 1, cells := 0, slots := 0, locals := 14 } : Room).slots) := by
  refine MetFree.of_bodySF (plainFor_of_name pn_1) hisR ?_
  intro p e s m args below meth c s₁ Bd hml0 hP hK
  obtain ⟨rfl, hZ, hh⟩ := hP
  have hx := Bd.exec
  have hby := Bd.bytes
  have hml : c.maxLocals = 3 := hml0
  have hown : s.vm.findClass "java/lang/String" = some m.cls := findClass_of_methodNamed Bd.named
  have hnm := (name_of_methodNamed Bd.named Bd.method).1
  have X0 : Stand p l e ({ frames := 1, cells := 0, slots := 0, locals := 14 } : Room) s m #[(.ref a1), (.ref a2)] below meth c s₁ [] 0 0 := Stand.of_body Bd
  have e0 : s₁.heap = h0 := by rw [← hh, Bd.state]; rfl
  have N0 := Fr.nil n0
  have pre0 : ∀ t, Steps p.tables e below (s₁.setTop (mkF m 0 #[.val (.ref a1), .val (.ref a2), .unset] [])) t → Steps p.tables e below (s₁.setTop (entryFrame m #[(.ref a1), (.ref a2)] 3)) t := fun t k => castTop (ef_rm8_40 m a1 a2) k
  obtain ⟨T5, X5, e5, st5⟩ := instY X0 hx hZ hown (hw _ (gw 60 rfl)) e0 (Ins.self E_4) (g := (mkF m 8 #[.val (.ref a1), .val (.ref a2), .unset] [(.ref a2)])) rfl rfl (hb hby d8_8)
  obtain ⟨T6, X6, e6, st6⟩ := castY X5 hx hZ hown (hw _ (gw 60 rfl)) e5 (Ins.self E_4) (g := (mkF m 15 #[.val (.ref a1), .val (.ref a2), .unset] [(.ref a2)])) rfl rfl (hb hby d8_15)
  obtain ⟨T9, X9, e9, st9⟩ := getS2 X6 hx hZ hown (host := "") (Or.inl (hw _ (gw 55 rfl))) Via.refl e6 (Sta.ext O0.2 S_8) (g := (mkF m 19 #[.val (.ref a1), .val (.ref a2), .val (.ref a2)] [])) rfl (hb hby d8_19)
  obtain ⟨T12, X12, e12, st12⟩ := getF X9 hx hZ hown (host := "") (Or.inl (hw _ (gw 28 rfl))) Via.refl e9 F11 (g := (mkF m 26 #[.val (.ref a1), .val (.ref a2), .val (.ref a2)] [(.ref a1)])) rfl rfl (hb hby d8_26)
  obtain ⟨T14, X14, e14, st14⟩ := getF X12 hx hZ hown (host := "") (Or.inl (hw _ (gw 28 rfl))) Via.refl e12 F13 (g := (mkF m 30 #[.val (.ref a1), .val (.ref a2), .val (.ref a2)] [(.ref a2), (.int (0 : Int32))])) rfl rfl (hb hby d8_30)
  obtain ⟨T17, X17, e17, st17⟩ := getF X14 hx hZ hown (host := "") (Or.inl (hw _ (gw 27 rfl))) Via.refl e14 F16 (g := (mkF m 37 #[.val (.ref a1), .val (.ref a2), .val (.ref a2)] [(.ref a1)])) rfl rfl (hb hby d8_37)
  obtain ⟨T20, X20, e20, st20⟩ := getF X17 hx hZ hown (host := "") (Or.inl (hw _ (gw 27 rfl))) Via.refl e17 F19 (g := (mkF m 41 #[.val (.ref a1), .val (.ref a2), .val (.ref a2)] [(.ref a2), (.ref a15)])) rfl rfl (hb hby d8_41)
  obtain ⟨_, _, ⟨T28, L28, k28, n28⟩, -, X28, ⟨Lc28, hQ28, l28, y28, z28⟩, st28⟩ := Jvm.LawKit.callS X20 hx (y := M_13) hown (mvT hZ (hw _ (gw 80 rfl))) (mvT hZ (hw _ (gw 81 rfl))) (mvT hZ (hw _ (gw 58 rfl))) (mvT hZ (hw _ (gw 82 rfl))) (by decide) (backOf (W := 0) (rm17_41 l Z a0 hw [] a15 a18 p21 k22 p24 k25 h0 n0  O0 V23 V26 hk27) hZ (hw _ (gw 82 rfl)) (hw _ (gw 58 rfl)) (by decide) (by decide)) (g := (mkF m 44 #[.val (.ref a1), .val (.ref a2), .val (.ref a2)] [(.ref a18), (.ref a15)])) rfl (by rw [hml]; rfl) (argsL := [(.ref a15), (.ref a18)]) (rest := []) (lenOf pd_13 rfl) rfl (by show 2 * 0 + _ ≤ _; exact Nat.le_of_eq rfl) (hb hby d8_44) (fun _ _ => ⟨rfl, e20, (by decide : 0 + 0 ≤ _), (by decide : 0 + 0 ≤ _)⟩)
  dsimp only [Pt.U, Pt.locs, Pt.cells, Pt.slots] at X28 l28 y28 z28 st28 hQ28
  subst l28 y28 z28
  obtain ⟨rfl, u30, u31⟩ := hQ28
  have N28 := Fr.app N0 u30
  obtain ⟨fs, hr, hrun, hended, hW, hsame⟩ := X28.leave (v := some (.int (0 : Int32))) (fun h => by rw [Bd.returns] at h; cases h)
  refine ⟨_, _, pre0 _ ?_, hrun, hended, _, _, rfl, ?_, ⟨_, rfl⟩, hW, hsame.mono (by decide) (by decide)⟩
  · show Steps p.tables e below (s₁.setTop (mkF m 0 #[.val (.ref a1), .val (.ref a2), .unset] [])) _
    refine XS.aloadN X0.here hx rfl (hb hby d8_0) rfl rfl ?_
    refine XS.aloadN X0.here hx rfl (hb hby d8_1) rfl rfl ?_
    refine Jvm.RoadKit.acmp (g := (mkF m 2 #[.val (.ref a1), .val (.ref a2), .unset] [(.ref a2), (.ref a1)])) X0 hx rfl rfl rfl (pc0 := 2) (pc' := 7) (same := false) rfl (hb hby d8_2) rfl (decide_eq_false fun q => hne3 (Value.ref.inj q)) (by decide) (by decide) ?_
    refine XS.aloadN X0.here hx rfl (hb hby d8_7) rfl rfl ?_
    refine st5 _ ?_
    refine XS.ifNo X5.here hx rfl (hb hby d8_11) rfl ((if0 _ _).trans (feq (by decide +kernel : ¬ ((1 : Int32) = (0 : Int32)))).1) ?_
    refine XS.aloadN X5.here hx rfl (hb hby d8_14) rfl rfl ?_
    refine st6 _ ?_
    refine XS.astoreN X6.here hx rfl (hb hby d8_18) rfl rfl (l' := #[.val (.ref a1), .val (.ref a2), .val (.ref a2)]) rfl ?_
    show Steps p.tables e below (T6.setTop (mkF m 19 #[.val (.ref a1), .val (.ref a2), .val (.ref a2)] [])) _
    refine st9 _ ?_
    refine XS.ifNo X9.here hx rfl (hb hby d8_22) rfl ((if0 _ _).trans (feq hk10).1) ?_
    refine XS.aloadN X9.here hx rfl (hb hby d8_25) rfl rfl ?_
    refine st12 _ ?_
    refine XS.aloadN X12.here hx rfl (hb hby d8_29) rfl rfl ?_
    refine st14 _ ?_
    refine XS.icmpNo X14.here hx rfl (hb hby d8_33) rfl (teq (by decide +kernel : (0 : Int32) = (0 : Int32))).2 ?_
    refine XS.aloadN X14.here hx rfl (hb hby d8_36) rfl rfl ?_
    refine st17 _ ?_
    show Steps p.tables e below (T17.setTop (mkF m 40 #[.val (.ref a1), .val (.ref a2), .val (.ref a2)] [(.ref a15)])) _
    refine XS.aloadN X17.here hx rfl (hb hby d8_40) rfl rfl ?_
    refine st20 _ ?_
    refine st28 _ ?_
    refine XS.ifYes X28.here hx rfl (pc0 := 47) (pc' := 54) rfl (hb hby d8_47) rfl ((if0 _ _).trans (teq (by decide +kernel : (0 : Int32) = (0 : Int32))).1) (by decide) (by decide) ?_
    refine XS.iconst X28.here hx rfl (hb hby d8_54) ?_
    show Steps p.tables e below (T28.setTop (mkF m 55 #[.val (.ref a1), .val (.ref a2), .val (.ref a2)] [(.int (0 : Int32))])) _
    exact retN X28 hx (t := .boolean) Bd.returns (by simp) (hb hby d8_55) hr
  · show Q8_40 Z _ _ _ _ _ _ _ _ _ h0 n0 _ T28.heap _
    rw [u31]
    exact ⟨rfl, N28, rfl⟩
theorem ef_rm7_39 (m : MethodId) (x0 : Addr) (x1 : Addr) : entryFrame m #[(.ref x0), (.ref x1)] 2 = mkF m 0 #[.val (.ref x0), .val (.ref x1)] [] := by first | (simp [entryFrame, mkF, argsToLocals, Value.category]; done) | rfl
def Q7_39 (Z : State) (a1 : Addr) (a2 : Addr) (a6 : Addr) (a9 : Addr) (p15 : Int32) (a20 : Addr) (a22 : Addr) (p24 : Int32) (k25 : ClassId) (p27 : Int32) (k28 : ClassId) (h0 : Heap) (n0 : Nat) (v : Option Value) (h : Heap) (L : List Loc) : Prop := (v = some (.int (0 : Int32)) ∧ Fr n0 L ∧ h = h0)
set_option maxRecDepth 65536 in
set_option maxHeartbeats 40000000 in
theorem rm7_39 (l : Launch) (Z : State) (a0 : Array Value) (hw : ∀ d ∈ own_ws, d.before a0 Z = true) (ws : List Jvm.Cond) (a1 : Addr) (a2 : Addr) (a6 : Addr) (a9 : Addr) (p15 : Int32) (a20 : Addr) (a22 : Addr) (p24 : Int32) (k25 : ClassId) (p27 : Int32) (k28 : ClassId) (h0 : Heap) (n0 : Nat) (O0 : Old Z n0 h0) (E_3 : Exa Z h0 a2 C_1) (F7 : Fld Z h0 a2 C_1 "written" C_2 (.ref a6)) (F10 : Fld Z h0 a1 C_1 "written" C_2 (.ref a9)) (E_12 : Exa Z h0 a6 C_0) (hne13 : a6 ≠ a9) (E_14 : Exa Z h0 a9 C_0) (S_16 : Sta Z Z.heap C_0 "COMPACT_STRINGS" "Z" (.int p15)) (hk17 : ¬ (p15 = (0 : Int32))) (F18 : Fld Z h0 a6 C_0 "coder" "B" (.int (0 : Int32))) (F19 : Fld Z h0 a9 C_0 "coder" "B" (.int (0 : Int32))) (F21 : Fld Z h0 a6 C_0 "value" "[B" (.ref a20)) (F23 : Fld Z h0 a9 C_0 "value" "[B" (.ref a22)) (V26 : Arv Z h0 a20 k25 .byte (1 : Int32) [(.int p24)] (.int (0 : Int32))) (V29 : Arv Z h0 a22 k28 .byte (1 : Int32) [(.int p27)] (.int (0 : Int32))) (hk30 : ¬ (p24 = p27)) :
    MetFree l M_15 (head1 (Jvm.Cond.code M_15 prog_67_method_3_code 2 (some .boolean) :: ws) ({ frames := 2, cells := 0, slots := 0, locals := 28 } : Room)) (fun a U => a = #[(.ref a1), (.ref a2)] ∧ Z.Warmed39 U.vm ∧ U.heap = h0) (fun _ _ _ _ _ => True) (fun _ U o U' => ∃ v L, o = .returned v ∧ Q7_39 Z a1 a2 a6 a9 p15 a20 a22 p24 k25 p27 k28 h0 n0 v U'.heap L ∧ FrameEnd U o U' L ({ frames := 2, cells := 0, slots := 0, locals := 28 } : Room).cells ({ frames := 2, cells := 0, slots := 0, locals := 28 } : Room).slots) := by
  refine MetFree.of_bodySF (plainFor_of_name pn_4) hisR ?_
  intro p e s m args below meth c s₁ Bd hml0 hP hK
  obtain ⟨rfl, hZ, hh⟩ := hP
  have hx := Bd.exec
  have hby := Bd.bytes
  have hml : c.maxLocals = 2 := hml0
  have hown : s.vm.findClass "com/example/vestry/vestry/JsonText$Numeral" = some m.cls := findClass_of_methodNamed Bd.named
  have hnm := (name_of_methodNamed Bd.named Bd.method).1
  have X0 : Stand p l e ({ frames := 2, cells := 0, slots := 0, locals := 28 } : Room) s m #[(.ref a1), (.ref a2)] below meth c s₁ [] 0 0 := Stand.of_body Bd
  have e0 : s₁.heap = h0 := by rw [← hh, Bd.state]; rfl
  have N0 := Fr.nil n0
  have pre0 : ∀ t, Steps p.tables e below (s₁.setTop (mkF m 0 #[.val (.ref a1), .val (.ref a2)] [])) t → Steps p.tables e below (s₁.setTop (entryFrame m #[(.ref a1), (.ref a2)] 2)) t := fun t k => castTop (ef_rm7_39 m a1 a2) k
  obtain ⟨T4, X4, e4, st4⟩ := instY X0 hx hZ hown (hw _ (gw 43 rfl)) e0 (Ins.self E_3) (g := (mkF m 1 #[.val (.ref a1), .val (.ref a2)] [(.ref a2)])) rfl rfl (hb hby d7_1)
  obtain ⟨T5, X5, e5, st5⟩ := castY X4 hx hZ hown (hw _ (gw 43 rfl)) e4 (Ins.self E_3) (g := (mkF m 8 #[.val (.ref a1), .val (.ref a2)] [(.ref a2)])) rfl rfl (hb hby d7_8)
  obtain ⟨T8, X8, e8, st8⟩ := getF X5 hx hZ hown (host := "") (Or.inl (hw _ (gw 36 rfl))) Via.refl e5 F7 (g := (mkF m 11 #[.val (.ref a1), .val (.ref a2)] [(.ref a2)])) rfl rfl (hb hby d7_11)
  obtain ⟨T11, X11, e11, st11⟩ := getF X8 hx hZ hown (host := "") (Or.inl (hw _ (gw 36 rfl))) Via.refl e8 F10 (g := (mkF m 15 #[.val (.ref a1), .val (.ref a2)] [(.ref a1), (.ref a6)])) rfl rfl (hb hby d7_15)
  obtain ⟨cq31, kq31, q31a, q31b, q31c⟩ := isOf hZ e11 E_12
  obtain ⟨_, _, ⟨T31, L31, k31, n31⟩, -, X31, ⟨Lc31, hQ31, l31, y31, z31⟩, st31⟩ := X11.virtualBack hx (y := M_14) (z := M_14) hown (mvT hZ (hw _ (gw 45 rfl))) (mvT hZ (hw _ (gw 46 rfl))) (notFace_of_selects (args := #[]) (mvT hZ (hw _ (gw 48 rfl)))) (mvT hZ (hw _ (gw 48 rfl))) (mvT hZ (hw _ (gw 47 rfl))) (by decide) (backOf (W := 0) (rm8_40 l Z a0 hw [] a6 a9 p15 a20 a22 p24 k25 p27 k28 h0 n0  O0 hne13 E_14 S_16 hk17 F18 F19 F21 F23 V26 V29 hk30) hZ (hw _ (gw 49 rfl)) (hw _ (gw 9 rfl)) (by decide) (by decide)) q31a q31c (g := (mkF m 18 #[.val (.ref a1), .val (.ref a2)] [(.ref a9), (.ref a6)])) rfl (by rw [hml]; rfl) (Steps.refl _) (argsL := [(.ref a9)]) (rest := []) (lenOf pd_14 rfl) rfl (by show 2 * 0 + _ ≤ _; exact Nat.le_of_eq rfl) (hb hby d7_18) (fun _ _ => ⟨rfl, e11, (by decide : 0 + 0 ≤ _), (by decide : 0 + 0 ≤ _)⟩)
  dsimp only [Pt.U, Pt.locs, Pt.cells, Pt.slots] at X31 l31 y31 z31 st31 hQ31
  subst l31 y31 z31
  obtain ⟨rfl, u33, u34⟩ := hQ31
  have N31 := Fr.app N0 u33
  obtain ⟨fs, hr, hrun, hended, hW, hsame⟩ := X31.leave (v := some (.int (0 : Int32))) (fun h => by rw [Bd.returns] at h; cases h)
  refine ⟨_, _, pre0 _ ?_, hrun, hended, _, _, rfl, ?_, ⟨_, rfl⟩, hW, hsame.mono (by decide) (by decide)⟩
  · show Steps p.tables e below (s₁.setTop (mkF m 0 #[.val (.ref a1), .val (.ref a2)] [])) _
    refine XS.aloadN X0.here hx rfl (hb hby d7_0) rfl rfl ?_
    refine st4 _ ?_
    refine XS.ifNo X4.here hx rfl (hb hby d7_4) rfl ((if0 _ _).trans (feq (by decide +kernel : ¬ ((1 : Int32) = (0 : Int32)))).1) ?_
    refine XS.aloadN X4.here hx rfl (hb hby d7_7) rfl rfl ?_
    refine st5 _ ?_
    refine st8 _ ?_
    refine XS.aloadN X8.here hx rfl (hb hby d7_14) rfl rfl ?_
    refine st11 _ ?_
    refine st31.trans ?_
    show Steps p.tables e below (T31.setTop (mkF m 21 #[.val (.ref a1), .val (.ref a2)] [(.int (0 : Int32))])) _
    refine XS.ifYes X31.here hx rfl (pc0 := 21) (pc' := 28) rfl (hb hby d7_21) rfl ((if0 _ _).trans (teq (by decide +kernel : (0 : Int32) = (0 : Int32))).1) (by decide) (by decide) ?_
    refine XS.iconst X31.here hx rfl (hb hby d7_28) ?_
    show Steps p.tables e below (T31.setTop (mkF m 29 #[.val (.ref a1), .val (.ref a2)] [(.int (0 : Int32))])) _
    exact retN X31 hx (t := .boolean) Bd.returns (by simp) (hb hby d7_29) hr
  · show Q7_39 Z _ _ _ _ _ _ _ _ _ _ _ h0 n0 _ T31.heap _
    rw [u34]
    exact ⟨rfl, N31, rfl⟩
theorem ef_rm17_44 (m : MethodId) (x0 : Addr) (x1 : Addr) : entryFrame m #[(.ref x0), (.ref x1)] 3 = mkF m 0 #[.val (.ref x0), .val (.ref x1), .unset] [] := by first | (simp [entryFrame, mkF, argsToLocals, Value.category]; done) | rfl
def Q17_44 (Z : State) (a1 : Addr) (a2 : Addr) (p3 : Int32) (p4 : Int32) (k5 : ClassId) (p8 : Int32) (k9 : ClassId) (h0 : Heap) (n0 : Nat) (v : Option Value) (h : Heap) (L : List Loc) : Prop := (v = some (.int (0 : Int32)) ∧ Fr n0 L ∧ h = h0)
set_option maxRecDepth 65536 in
set_option maxHeartbeats 40000000 in
theorem rm17_44 (l : Launch) (Z : State) (a0 : Array Value) (hw : ∀ d ∈ own_ws, d.before a0 Z = true) (ws : List Jvm.Cond) (a1 : Addr) (a2 : Addr) (p3 : Int32) (p4 : Int32) (k5 : ClassId) (p8 : Int32) (k9 : ClassId) (h0 : Heap) (n0 : Nat) (O0 : Old Z n0 h0) (V6 : Arv Z h0 a1 k5 .byte (2 : Int32) [(.int p3), (.int p4)] (.int (0 : Int32))) (V10 : Arv Z h0 a2 k9 .byte (1 : Int32) [(.int p8)] (.int (0 : Int32))) :
    MetFree l M_13 (head1 (Jvm.Cond.code M_13 jdk_43_method_13_code 3 (some .boolean) :: ws) ({ frames := 0, cells := 0, slots := 0, locals := 0 } : Room)) (fun a U => a = #[(.ref a1), (.ref a2)] ∧ Z.Warmed39 U.vm ∧ U.heap = h0) (fun _ _ _ _ _ => True) (fun _ U o U' => ∃ v L, o = .returned v ∧ Q17_44 Z a1 a2 p3 p4 k5 p8 k9 h0 n0 v U'.heap L ∧ FrameEnd U o U' L ({ frames := 0, cells := 0, slots := 0, locals := 0 } : Room).cells ({ frames := 0, cells := 0, slots := 0, locals := 0 } : Room).slots) := by
  refine MetFree.of_bodySF (plainFor_of_name pn_2) hisR ?_
  intro p e s m args below meth c s₁ Bd hml0 hP hK
  obtain ⟨rfl, hZ, hh⟩ := hP
  have hx := Bd.exec
  have hby := Bd.bytes
  have hml : c.maxLocals = 3 := hml0
  have hown : s.vm.findClass "java/lang/StringLatin1" = some m.cls := findClass_of_methodNamed Bd.named
  have hnm := (name_of_methodNamed Bd.named Bd.method).1
  have X0 : Stand p l e ({ frames := 0, cells := 0, slots := 0, locals := 0 } : Room) s m #[(.ref a1), (.ref a2)] below meth c s₁ [] 0 0 := Stand.of_body Bd
  have e0 : s₁.heap = h0 := by rw [← hh, Bd.state]; rfl
  have N0 := Fr.nil n0
  have pre0 : ∀ t, Steps p.tables e below (s₁.setTop (mkF m 0 #[.val (.ref a1), .val (.ref a2), .unset] [])) t → Steps p.tables e below (s₁.setTop (entryFrame m #[(.ref a1), (.ref a2)] 3)) t := fun t k => castTop (ef_rm17_44 m a1 a2) k
  obtain ⟨cl7, Ar7, -, Sz7, Nn7, -, -⟩ := id V6
  obtain ⟨cl11, Ar11, -, Sz11, Nn11, -, -⟩ := id V10
  obtain ⟨fs, hr, hrun, hended, hW, hsame⟩ := X0.leave (v := some (.int (0 : Int32))) (fun h => by rw [Bd.returns] at h; cases h)
  refine ⟨_, _, pre0 _ ?_, hrun, hended, _, _, rfl, ?_, ⟨_, rfl⟩, hW, hsame.mono (by decide) (by decide)⟩
  · show Steps p.tables e below (s₁.setTop (mkF m 0 #[.val (.ref a1), .val (.ref a2), .unset] [])) _
    refine XS.aloadN X0.here hx rfl (hb hby d17_0) rfl rfl ?_
    refine X0.arraylength hx (by rw [e0]; exact Ar7.1) (State.isArrayOf_alike hZ.alike Ar7.2.1) (g := (mkF m 1 #[.val (.ref a1), .val (.ref a2), .unset] [(.ref a1)])) rfl rfl (hb hby d17_1) _ ?_
    rw [len_of Sz7 Nn7]
    refine XS.aloadN X0.here hx rfl (hb hby d17_2) rfl rfl ?_
    refine X0.arraylength hx (by rw [e0]; exact Ar11.1) (State.isArrayOf_alike hZ.alike Ar11.2.1) (g := (mkF m 3 #[.val (.ref a1), .val (.ref a2), .unset] [(.ref a2), (.int (2 : Int32))])) rfl rfl (hb hby d17_3) _ ?_
    rw [len_of Sz11 Nn11]
    refine XS.icmpYes X0.here hx rfl (pc0 := 4) (pc' := 34) rfl (hb hby d17_4) rfl (feq (by decide +kernel : ¬ ((2 : Int32) = (1 : Int32)))).2 (by decide) (by decide) ?_
    refine XS.iconst X0.here hx rfl (hb hby d17_34) ?_
    show Steps p.tables e below (s₁.setTop (mkF m 35 #[.val (.ref a1), .val (.ref a2), .unset] [(.int (0 : Int32))])) _
    exact retN X0 hx (t := .boolean) Bd.returns (by simp) (hb hby d17_35) hr
  · show Q17_44 Z _ _ _ _ _ _ _ h0 n0 _ s₁.heap _
    rw [e0]
    exact ⟨rfl, N0, rfl⟩
theorem ef_rm8_43 (m : MethodId) (x0 : Addr) (x1 : Addr) : entryFrame m #[(.ref x0), (.ref x1)] 3 = mkF m 0 #[.val (.ref x0), .val (.ref x1), .unset] [] := by first | (simp [entryFrame, mkF, argsToLocals, Value.category]; done) | rfl
def Q8_43 (Z : State) (a1 : Addr) (a2 : Addr) (p7 : Int32) (a15 : Addr) (a18 : Addr) (p21 : Int32) (p22 : Int32) (k23 : ClassId) (p25 : Int32) (k26 : ClassId) (h0 : Heap) (n0 : Nat) (v : Option Value) (h : Heap) (L : List Loc) : Prop := (v = some (.int (0 : Int32)) ∧ Fr n0 L ∧ h = h0)
set_option maxRecDepth 65536 in
set_option maxHeartbeats 40000000 in
theorem rm8_43 (l : Launch) (Z : State) (a0 : Array Value) (hw : ∀ d ∈ own_ws, d.before a0 Z = true) (ws : List Jvm.Cond) (a1 : Addr) (a2 : Addr) (p7 : Int32) (a15 : Addr) (a18 : Addr) (p21 : Int32) (p22 : Int32) (k23 : ClassId) (p25 : Int32) (k26 : ClassId) (h0 : Heap) (n0 : Nat) (O0 : Old Z n0 h0) (hne3 : a1 ≠ a2) (E_4 : Exa Z h0 a2 C_0) (S_8 : Sta Z Z.heap C_0 "COMPACT_STRINGS" "Z" (.int p7)) (hk10 : ¬ (p7 = (0 : Int32))) (F11 : Fld Z h0 a1 C_0 "coder" "B" (.int (0 : Int32))) (F13 : Fld Z h0 a2 C_0 "coder" "B" (.int (0 : Int32))) (F16 : Fld Z h0 a1 C_0 "value" "[B" (.ref a15)) (F19 : Fld Z h0 a2 C_0 "value" "[B" (.ref a18)) (V24 : Arv Z h0 a15 k23 .byte (2 : Int32) [(.int p21), (.int p22)] (.int (0 : Int32))) (V27 : Arv Z h0 a18 k26 .byte (1 : Int32) [(.int p25)] (.int (0 : Int32))) :
    MetFree l M_14 (head1 (Jvm.Cond.code M_14 jdk_42_method_66_code 3 (some .boolean) :: ws) ({ frames := 1, cells := 0, slots := 0, locals := 14 } : Room)) (fun a U => a = #[(.ref a1), (.ref a2)] ∧ Z.Warmed39 U.vm ∧ U.heap = h0) (fun _ _ _ _ _ => True) (fun _ U o U' => ∃ v L, o = .returned v ∧ Q8_43 Z a1 a2 p7 a15 a18 p21 p22 k23 p25 k26 h0 n0 v U'.heap L ∧ FrameEnd U o U' L ({ frames := 1, cells := 0, slots := 0, locals := 14 } : Room).cells ({ frames := 1, cells := 0, slots := 0, locals := 14 } : Room).slots) := by
  refine MetFree.of_bodySF (plainFor_of_name pn_1) hisR ?_
  intro p e s m args below meth c s₁ Bd hml0 hP hK
  obtain ⟨rfl, hZ, hh⟩ := hP
  have hx := Bd.exec
  have hby := Bd.bytes
  have hml : c.maxLocals = 3 := hml0
  have hown : s.vm.findClass "java/lang/String" = some m.cls := findClass_of_methodNamed Bd.named
  have hnm := (name_of_methodNamed Bd.named Bd.method).1
  have X0 : Stand p l e ({ frames := 1, cells := 0, slots := 0, locals := 14 } : Room) s m #[(.ref a1), (.ref a2)] below meth c s₁ [] 0 0 := Stand.of_body Bd
  have e0 : s₁.heap = h0 := by rw [← hh, Bd.state]; rfl
  have N0 := Fr.nil n0
  have pre0 : ∀ t, Steps p.tables e below (s₁.setTop (mkF m 0 #[.val (.ref a1), .val (.ref a2), .unset] [])) t → Steps p.tables e below (s₁.setTop (entryFrame m #[(.ref a1), (.ref a2)] 3)) t := fun t k => castTop (ef_rm8_43 m a1 a2) k
  obtain ⟨T5, X5, e5, st5⟩ := instY X0 hx hZ hown (hw _ (gw 60 rfl)) e0 (Ins.self E_4) (g := (mkF m 8 #[.val (.ref a1), .val (.ref a2), .unset] [(.ref a2)])) rfl rfl (hb hby d8_8)
  obtain ⟨T6, X6, e6, st6⟩ := castY X5 hx hZ hown (hw _ (gw 60 rfl)) e5 (Ins.self E_4) (g := (mkF m 15 #[.val (.ref a1), .val (.ref a2), .unset] [(.ref a2)])) rfl rfl (hb hby d8_15)
  obtain ⟨T9, X9, e9, st9⟩ := getS2 X6 hx hZ hown (host := "") (Or.inl (hw _ (gw 55 rfl))) Via.refl e6 (Sta.ext O0.2 S_8) (g := (mkF m 19 #[.val (.ref a1), .val (.ref a2), .val (.ref a2)] [])) rfl (hb hby d8_19)
  obtain ⟨T12, X12, e12, st12⟩ := getF X9 hx hZ hown (host := "") (Or.inl (hw _ (gw 28 rfl))) Via.refl e9 F11 (g := (mkF m 26 #[.val (.ref a1), .val (.ref a2), .val (.ref a2)] [(.ref a1)])) rfl rfl (hb hby d8_26)
  obtain ⟨T14, X14, e14, st14⟩ := getF X12 hx hZ hown (host := "") (Or.inl (hw _ (gw 28 rfl))) Via.refl e12 F13 (g := (mkF m 30 #[.val (.ref a1), .val (.ref a2), .val (.ref a2)] [(.ref a2), (.int (0 : Int32))])) rfl rfl (hb hby d8_30)
  obtain ⟨T17, X17, e17, st17⟩ := getF X14 hx hZ hown (host := "") (Or.inl (hw _ (gw 27 rfl))) Via.refl e14 F16 (g := (mkF m 37 #[.val (.ref a1), .val (.ref a2), .val (.ref a2)] [(.ref a1)])) rfl rfl (hb hby d8_37)
  obtain ⟨T20, X20, e20, st20⟩ := getF X17 hx hZ hown (host := "") (Or.inl (hw _ (gw 27 rfl))) Via.refl e17 F19 (g := (mkF m 41 #[.val (.ref a1), .val (.ref a2), .val (.ref a2)] [(.ref a2), (.ref a15)])) rfl rfl (hb hby d8_41)
  obtain ⟨_, _, ⟨T28, L28, k28, n28⟩, -, X28, ⟨Lc28, hQ28, l28, y28, z28⟩, st28⟩ := Jvm.LawKit.callS X20 hx (y := M_13) hown (mvT hZ (hw _ (gw 80 rfl))) (mvT hZ (hw _ (gw 81 rfl))) (mvT hZ (hw _ (gw 58 rfl))) (mvT hZ (hw _ (gw 82 rfl))) (by decide) (backOf (W := 0) (rm17_44 l Z a0 hw [] a15 a18 p21 p22 k23 p25 k26 h0 n0  O0 V24 V27) hZ (hw _ (gw 82 rfl)) (hw _ (gw 58 rfl)) (by decide) (by decide)) (g := (mkF m 44 #[.val (.ref a1), .val (.ref a2), .val (.ref a2)] [(.ref a18), (.ref a15)])) rfl (by rw [hml]; rfl) (argsL := [(.ref a15), (.ref a18)]) (rest := []) (lenOf pd_13 rfl) rfl (by show 2 * 0 + _ ≤ _; exact Nat.le_of_eq rfl) (hb hby d8_44) (fun _ _ => ⟨rfl, e20, (by decide : 0 + 0 ≤ _), (by decide : 0 + 0 ≤ _)⟩)
  dsimp only [Pt.U, Pt.locs, Pt.cells, Pt.slots] at X28 l28 y28 z28 st28 hQ28
  subst l28 y28 z28
  obtain ⟨rfl, u30, u31⟩ := hQ28
  have N28 := Fr.app N0 u30
  obtain ⟨fs, hr, hrun, hended, hW, hsame⟩ := X28.leave (v := some (.int (0 : Int32))) (fun h => by rw [Bd.returns] at h; cases h)
  refine ⟨_, _, pre0 _ ?_, hrun, hended, _, _, rfl, ?_, ⟨_, rfl⟩, hW, hsame.mono (by decide) (by decide)⟩
  · show Steps p.tables e below (s₁.setTop (mkF m 0 #[.val (.ref a1), .val (.ref a2), .unset] [])) _
    refine XS.aloadN X0.here hx rfl (hb hby d8_0) rfl rfl ?_
    refine XS.aloadN X0.here hx rfl (hb hby d8_1) rfl rfl ?_
    refine Jvm.RoadKit.acmp (g := (mkF m 2 #[.val (.ref a1), .val (.ref a2), .unset] [(.ref a2), (.ref a1)])) X0 hx rfl rfl rfl (pc0 := 2) (pc' := 7) (same := false) rfl (hb hby d8_2) rfl (decide_eq_false fun q => hne3 (Value.ref.inj q)) (by decide) (by decide) ?_
    refine XS.aloadN X0.here hx rfl (hb hby d8_7) rfl rfl ?_
    refine st5 _ ?_
    refine XS.ifNo X5.here hx rfl (hb hby d8_11) rfl ((if0 _ _).trans (feq (by decide +kernel : ¬ ((1 : Int32) = (0 : Int32)))).1) ?_
    refine XS.aloadN X5.here hx rfl (hb hby d8_14) rfl rfl ?_
    refine st6 _ ?_
    refine XS.astoreN X6.here hx rfl (hb hby d8_18) rfl rfl (l' := #[.val (.ref a1), .val (.ref a2), .val (.ref a2)]) rfl ?_
    show Steps p.tables e below (T6.setTop (mkF m 19 #[.val (.ref a1), .val (.ref a2), .val (.ref a2)] [])) _
    refine st9 _ ?_
    refine XS.ifNo X9.here hx rfl (hb hby d8_22) rfl ((if0 _ _).trans (feq hk10).1) ?_
    refine XS.aloadN X9.here hx rfl (hb hby d8_25) rfl rfl ?_
    refine st12 _ ?_
    refine XS.aloadN X12.here hx rfl (hb hby d8_29) rfl rfl ?_
    refine st14 _ ?_
    refine XS.icmpNo X14.here hx rfl (hb hby d8_33) rfl (teq (by decide +kernel : (0 : Int32) = (0 : Int32))).2 ?_
    refine XS.aloadN X14.here hx rfl (hb hby d8_36) rfl rfl ?_
    refine st17 _ ?_
    show Steps p.tables e below (T17.setTop (mkF m 40 #[.val (.ref a1), .val (.ref a2), .val (.ref a2)] [(.ref a15)])) _
    refine XS.aloadN X17.here hx rfl (hb hby d8_40) rfl rfl ?_
    refine st20 _ ?_
    refine st28 _ ?_
    refine XS.ifYes X28.here hx rfl (pc0 := 47) (pc' := 54) rfl (hb hby d8_47) rfl ((if0 _ _).trans (teq (by decide +kernel : (0 : Int32) = (0 : Int32))).1) (by decide) (by decide) ?_
    refine XS.iconst X28.here hx rfl (hb hby d8_54) ?_
    show Steps p.tables e below (T28.setTop (mkF m 55 #[.val (.ref a1), .val (.ref a2), .val (.ref a2)] [(.int (0 : Int32))])) _
    exact retN X28 hx (t := .boolean) Bd.returns (by simp) (hb hby d8_55) hr
  · show Q8_43 Z _ _ _ _ _ _ _ _ _ _ h0 n0 _ T28.heap _
    rw [u31]
    exact ⟨rfl, N28, rfl⟩
theorem ef_rm7_42 (m : MethodId) (x0 : Addr) (x1 : Addr) : entryFrame m #[(.ref x0), (.ref x1)] 2 = mkF m 0 #[.val (.ref x0), .val (.ref x1)] [] := by first | (simp [entryFrame, mkF, argsToLocals, Value.category]; done) | rfl
def Q7_42 (Z : State) (a1 : Addr) (a2 : Addr) (a6 : Addr) (a9 : Addr) (p15 : Int32) (a20 : Addr) (a22 : Addr) (p24 : Int32) (p25 : Int32) (k26 : ClassId) (p28 : Int32) (k29 : ClassId) (h0 : Heap) (n0 : Nat) (v : Option Value) (h : Heap) (L : List Loc) : Prop := (v = some (.int (0 : Int32)) ∧ Fr n0 L ∧ h = h0)
set_option maxRecDepth 65536 in
set_option maxHeartbeats 40000000 in
theorem rm7_42 (l : Launch) (Z : State) (a0 : Array Value) (hw : ∀ d ∈ own_ws, d.before a0 Z = true) (ws : List Jvm.Cond) (a1 : Addr) (a2 : Addr) (a6 : Addr) (a9 : Addr) (p15 : Int32) (a20 : Addr) (a22 : Addr) (p24 : Int32) (p25 : Int32) (k26 : ClassId) (p28 : Int32) (k29 : ClassId) (h0 : Heap) (n0 : Nat) (O0 : Old Z n0 h0) (E_3 : Exa Z h0 a2 C_1) (F7 : Fld Z h0 a2 C_1 "written" C_2 (.ref a6)) (F10 : Fld Z h0 a1 C_1 "written" C_2 (.ref a9)) (E_12 : Exa Z h0 a6 C_0) (hne13 : a6 ≠ a9) (E_14 : Exa Z h0 a9 C_0) (S_16 : Sta Z Z.heap C_0 "COMPACT_STRINGS" "Z" (.int p15)) (hk17 : ¬ (p15 = (0 : Int32))) (F18 : Fld Z h0 a6 C_0 "coder" "B" (.int (0 : Int32))) (F19 : Fld Z h0 a9 C_0 "coder" "B" (.int (0 : Int32))) (F21 : Fld Z h0 a6 C_0 "value" "[B" (.ref a20)) (F23 : Fld Z h0 a9 C_0 "value" "[B" (.ref a22)) (V27 : Arv Z h0 a20 k26 .byte (2 : Int32) [(.int p24), (.int p25)] (.int (0 : Int32))) (V30 : Arv Z h0 a22 k29 .byte (1 : Int32) [(.int p28)] (.int (0 : Int32))) :
    MetFree l M_15 (head1 (Jvm.Cond.code M_15 prog_67_method_3_code 2 (some .boolean) :: ws) ({ frames := 2, cells := 0, slots := 0, locals := 28 } : Room)) (fun a U => a = #[(.ref a1), (.ref a2)] ∧ Z.Warmed39 U.vm ∧ U.heap = h0) (fun _ _ _ _ _ => True) (fun _ U o U' => ∃ v L, o = .returned v ∧ Q7_42 Z a1 a2 a6 a9 p15 a20 a22 p24 p25 k26 p28 k29 h0 n0 v U'.heap L ∧ FrameEnd U o U' L ({ frames := 2, cells := 0, slots := 0, locals := 28 } : Room).cells ({ frames := 2, cells := 0, slots := 0, locals := 28 } : Room).slots) := by
  refine MetFree.of_bodySF (plainFor_of_name pn_4) hisR ?_
  intro p e s m args below meth c s₁ Bd hml0 hP hK
  obtain ⟨rfl, hZ, hh⟩ := hP
  have hx := Bd.exec
  have hby := Bd.bytes
  have hml : c.maxLocals = 2 := hml0
  have hown : s.vm.findClass "com/example/vestry/vestry/JsonText$Numeral" = some m.cls := findClass_of_methodNamed Bd.named
  have hnm := (name_of_methodNamed Bd.named Bd.method).1
  have X0 : Stand p l e ({ frames := 2, cells := 0, slots := 0, locals := 28 } : Room) s m #[(.ref a1), (.ref a2)] below meth c s₁ [] 0 0 := Stand.of_body Bd
  have e0 : s₁.heap = h0 := by rw [← hh, Bd.state]; rfl
  have N0 := Fr.nil n0
  have pre0 : ∀ t, Steps p.tables e below (s₁.setTop (mkF m 0 #[.val (.ref a1), .val (.ref a2)] [])) t → Steps p.tables e below (s₁.setTop (entryFrame m #[(.ref a1), (.ref a2)] 2)) t := fun t k => castTop (ef_rm7_42 m a1 a2) k
  obtain ⟨T4, X4, e4, st4⟩ := instY X0 hx hZ hown (hw _ (gw 43 rfl)) e0 (Ins.self E_3) (g := (mkF m 1 #[.val (.ref a1), .val (.ref a2)] [(.ref a2)])) rfl rfl (hb hby d7_1)
  obtain ⟨T5, X5, e5, st5⟩ := castY X4 hx hZ hown (hw _ (gw 43 rfl)) e4 (Ins.self E_3) (g := (mkF m 8 #[.val (.ref a1), .val (.ref a2)] [(.ref a2)])) rfl rfl (hb hby d7_8)
  obtain ⟨T8, X8, e8, st8⟩ := getF X5 hx hZ hown (host := "") (Or.inl (hw _ (gw 36 rfl))) Via.refl e5 F7 (g := (mkF m 11 #[.val (.ref a1), .val (.ref a2)] [(.ref a2)])) rfl rfl (hb hby d7_11)
  obtain ⟨T11, X11, e11, st11⟩ := getF X8 hx hZ hown (host := "") (Or.inl (hw _ (gw 36 rfl))) Via.refl e8 F10 (g := (mkF m 15 #[.val (.ref a1), .val (.ref a2)] [(.ref a1), (.ref a6)])) rfl rfl (hb hby d7_15)
  obtain ⟨cq31, kq31, q31a, q31b, q31c⟩ := isOf hZ e11 E_12
  obtain ⟨_, _, ⟨T31, L31, k31, n31⟩, -, X31, ⟨Lc31, hQ31, l31, y31, z31⟩, st31⟩ := X11.virtualBack hx (y := M_14) (z := M_14) hown (mvT hZ (hw _ (gw 45 rfl))) (mvT hZ (hw _ (gw 46 rfl))) (notFace_of_selects (args := #[]) (mvT hZ (hw _ (gw 48 rfl)))) (mvT hZ (hw _ (gw 48 rfl))) (mvT hZ (hw _ (gw 47 rfl))) (by decide) (backOf (W := 0) (rm8_43 l Z a0 hw [] a6 a9 p15 a20 a22 p24 p25 k26 p28 k29 h0 n0  O0 hne13 E_14 S_16 hk17 F18 F19 F21 F23 V27 V30) hZ (hw _ (gw 49 rfl)) (hw _ (gw 9 rfl)) (by decide) (by decide)) q31a q31c (g := (mkF m 18 #[.val (.ref a1), .val (.ref a2)] [(.ref a9), (.ref a6)])) rfl (by rw [hml]; rfl) (Steps.refl _) (argsL := [(.ref a9)]) (rest := []) (lenOf pd_14 rfl) rfl (by show 2 * 0 + _ ≤ _; exact Nat.le_of_eq rfl) (hb hby d7_18) (fun _ _ => ⟨rfl, e11, (by decide : 0 + 0 ≤ _), (by decide : 0 + 0 ≤ _)⟩)
  dsimp only [Pt.U, Pt.locs, Pt.cells, Pt.slots] at X31 l31 y31 z31 st31 hQ31
  subst l31 y31 z31
  obtain ⟨rfl, u33, u34⟩ := hQ31
  have N31 := Fr.app N0 u33
  obtain ⟨fs, hr, hrun, hended, hW, hsame⟩ := X31.leave (v := some (.int (0 : Int32))) (fun h => by rw [Bd.returns] at h; cases h)
  refine ⟨_, _, pre0 _ ?_, hrun, hended, _, _, rfl, ?_, ⟨_, rfl⟩, hW, hsame.mono (by decide) (by decide)⟩
  · show Steps p.tables e below (s₁.setTop (mkF m 0 #[.val (.ref a1), .val (.ref a2)] [])) _
    refine XS.aloadN X0.here hx rfl (hb hby d7_0) rfl rfl ?_
    refine st4 _ ?_
    refine XS.ifNo X4.here hx rfl (hb hby d7_4) rfl ((if0 _ _).trans (feq (by decide +kernel : ¬ ((1 : Int32) = (0 : Int32)))).1) ?_
    refine XS.aloadN X4.here hx rfl (hb hby d7_7) rfl rfl ?_
    refine st5 _ ?_
    refine st8 _ ?_
    refine XS.aloadN X8.here hx rfl (hb hby d7_14) rfl rfl ?_
    refine st11 _ ?_
    refine st31.trans ?_
    show Steps p.tables e below (T31.setTop (mkF m 21 #[.val (.ref a1), .val (.ref a2)] [(.int (0 : Int32))])) _
    refine XS.ifYes X31.here hx rfl (pc0 := 21) (pc' := 28) rfl (hb hby d7_21) rfl ((if0 _ _).trans (teq (by decide +kernel : (0 : Int32) = (0 : Int32))).1) (by decide) (by decide) ?_
    refine XS.iconst X31.here hx rfl (hb hby d7_28) ?_
    show Steps p.tables e below (T31.setTop (mkF m 29 #[.val (.ref a1), .val (.ref a2)] [(.int (0 : Int32))])) _
    exact retN X31 hx (t := .boolean) Bd.returns (by simp) (hb hby d7_29) hr
  · show Q7_42 Z _ _ _ _ _ _ _ _ _ _ _ _ h0 n0 _ T31.heap _
    rw [u34]
    exact ⟨rfl, N31, rfl⟩
theorem ef_rm17_47 (m : MethodId) (x0 : Addr) (x1 : Addr) : entryFrame m #[(.ref x0), (.ref x1)] 3 = mkF m 0 #[.val (.ref x0), .val (.ref x1), .unset] [] := by first | (simp [entryFrame, mkF, argsToLocals, Value.category]; done) | rfl
def Q17_47 (Z : State) (a1 : Addr) (a2 : Addr) (p3 : Int32) (k4 : ClassId) (p7 : Int32) (p8 : Int32) (k9 : ClassId) (h0 : Heap) (n0 : Nat) (v : Option Value) (h : Heap) (L : List Loc) : Prop := (v = some (.int (0 : Int32)) ∧ Fr n0 L ∧ h = h0)
set_option maxRecDepth 65536 in
set_option maxHeartbeats 40000000 in
theorem rm17_47 (l : Launch) (Z : State) (a0 : Array Value) (hw : ∀ d ∈ own_ws, d.before a0 Z = true) (ws : List Jvm.Cond) (a1 : Addr) (a2 : Addr) (p3 : Int32) (k4 : ClassId) (p7 : Int32) (p8 : Int32) (k9 : ClassId) (h0 : Heap) (n0 : Nat) (O0 : Old Z n0 h0) (V5 : Arv Z h0 a1 k4 .byte (1 : Int32) [(.int p3)] (.int (0 : Int32))) (V10 : Arv Z h0 a2 k9 .byte (2 : Int32) [(.int p7), (.int p8)] (.int (0 : Int32))) :
    MetFree l M_13 (head1 (Jvm.Cond.code M_13 jdk_43_method_13_code 3 (some .boolean) :: ws) ({ frames := 0, cells := 0, slots := 0, locals := 0 } : Room)) (fun a U => a = #[(.ref a1), (.ref a2)] ∧ Z.Warmed39 U.vm ∧ U.heap = h0) (fun _ _ _ _ _ => True) (fun _ U o U' => ∃ v L, o = .returned v ∧ Q17_47 Z a1 a2 p3 k4 p7 p8 k9 h0 n0 v U'.heap L ∧ FrameEnd U o U' L ({ frames := 0, cells := 0, slots := 0, locals := 0 } : Room).cells ({ frames := 0, cells := 0, slots := 0, locals := 0 } : Room).slots) := by
  refine MetFree.of_bodySF (plainFor_of_name pn_2) hisR ?_
  intro p e s m args below meth c s₁ Bd hml0 hP hK
  obtain ⟨rfl, hZ, hh⟩ := hP
  have hx := Bd.exec
  have hby := Bd.bytes
  have hml : c.maxLocals = 3 := hml0
  have hown : s.vm.findClass "java/lang/StringLatin1" = some m.cls := findClass_of_methodNamed Bd.named
  have hnm := (name_of_methodNamed Bd.named Bd.method).1
  have X0 : Stand p l e ({ frames := 0, cells := 0, slots := 0, locals := 0 } : Room) s m #[(.ref a1), (.ref a2)] below meth c s₁ [] 0 0 := Stand.of_body Bd
  have e0 : s₁.heap = h0 := by rw [← hh, Bd.state]; rfl
  have N0 := Fr.nil n0
  have pre0 : ∀ t, Steps p.tables e below (s₁.setTop (mkF m 0 #[.val (.ref a1), .val (.ref a2), .unset] [])) t → Steps p.tables e below (s₁.setTop (entryFrame m #[(.ref a1), (.ref a2)] 3)) t := fun t k => castTop (ef_rm17_47 m a1 a2) k
  obtain ⟨cl6, Ar6, -, Sz6, Nn6, -, -⟩ := id V5
  obtain ⟨cl11, Ar11, -, Sz11, Nn11, -, -⟩ := id V10
  obtain ⟨fs, hr, hrun, hended, hW, hsame⟩ := X0.leave (v := some (.int (0 : Int32))) (fun h => by rw [Bd.returns] at h; cases h)
  refine ⟨_, _, pre0 _ ?_, hrun, hended, _, _, rfl, ?_, ⟨_, rfl⟩, hW, hsame.mono (by decide) (by decide)⟩
  · show Steps p.tables e below (s₁.setTop (mkF m 0 #[.val (.ref a1), .val (.ref a2), .unset] [])) _
    refine XS.aloadN X0.here hx rfl (hb hby d17_0) rfl rfl ?_
    refine X0.arraylength hx (by rw [e0]; exact Ar6.1) (State.isArrayOf_alike hZ.alike Ar6.2.1) (g := (mkF m 1 #[.val (.ref a1), .val (.ref a2), .unset] [(.ref a1)])) rfl rfl (hb hby d17_1) _ ?_
    rw [len_of Sz6 Nn6]
    refine XS.aloadN X0.here hx rfl (hb hby d17_2) rfl rfl ?_
    refine X0.arraylength hx (by rw [e0]; exact Ar11.1) (State.isArrayOf_alike hZ.alike Ar11.2.1) (g := (mkF m 3 #[.val (.ref a1), .val (.ref a2), .unset] [(.ref a2), (.int (1 : Int32))])) rfl rfl (hb hby d17_3) _ ?_
    rw [len_of Sz11 Nn11]
    refine XS.icmpYes X0.here hx rfl (pc0 := 4) (pc' := 34) rfl (hb hby d17_4) rfl (feq (by decide +kernel : ¬ ((1 : Int32) = (2 : Int32)))).2 (by decide) (by decide) ?_
    refine XS.iconst X0.here hx rfl (hb hby d17_34) ?_
    show Steps p.tables e below (s₁.setTop (mkF m 35 #[.val (.ref a1), .val (.ref a2), .unset] [(.int (0 : Int32))])) _
    exact retN X0 hx (t := .boolean) Bd.returns (by simp) (hb hby d17_35) hr
  · show Q17_47 Z _ _ _ _ _ _ _ h0 n0 _ s₁.heap _
    rw [e0]
    exact ⟨rfl, N0, rfl⟩
theorem ef_rm8_46 (m : MethodId) (x0 : Addr) (x1 : Addr) : entryFrame m #[(.ref x0), (.ref x1)] 3 = mkF m 0 #[.val (.ref x0), .val (.ref x1), .unset] [] := by first | (simp [entryFrame, mkF, argsToLocals, Value.category]; done) | rfl
def Q8_46 (Z : State) (a1 : Addr) (a2 : Addr) (p7 : Int32) (a15 : Addr) (a18 : Addr) (p21 : Int32) (k22 : ClassId) (p24 : Int32) (p25 : Int32) (k26 : ClassId) (h0 : Heap) (n0 : Nat) (v : Option Value) (h : Heap) (L : List Loc) : Prop := (v = some (.int (0 : Int32)) ∧ Fr n0 L ∧ h = h0)
set_option maxRecDepth 65536 in
set_option maxHeartbeats 40000000 in
theorem rm8_46 (l : Launch) (Z : State) (a0 : Array Value) (hw : ∀ d ∈ own_ws, d.before a0 Z = true) (ws : List Jvm.Cond) (a1 : Addr) (a2 : Addr) (p7 : Int32) (a15 : Addr) (a18 : Addr) (p21 : Int32) (k22 : ClassId) (p24 : Int32) (p25 : Int32) (k26 : ClassId) (h0 : Heap) (n0 : Nat) (O0 : Old Z n0 h0) (hne3 : a1 ≠ a2) (E_4 : Exa Z h0 a2 C_0) (S_8 : Sta Z Z.heap C_0 "COMPACT_STRINGS" "Z" (.int p7)) (hk10 : ¬ (p7 = (0 : Int32))) (F11 : Fld Z h0 a1 C_0 "coder" "B" (.int (0 : Int32))) (F13 : Fld Z h0 a2 C_0 "coder" "B" (.int (0 : Int32))) (F16 : Fld Z h0 a1 C_0 "value" "[B" (.ref a15)) (F19 : Fld Z h0 a2 C_0 "value" "[B" (.ref a18)) (V23 : Arv Z h0 a15 k22 .byte (1 : Int32) [(.int p21)] (.int (0 : Int32))) (V27 : Arv Z h0 a18 k26 .byte (2 : Int32) [(.int p24), (.int p25)] (.int (0 : Int32))) :
    MetFree l M_14 (head1 (Jvm.Cond.code M_14 jdk_42_method_66_code 3 (some .boolean) :: ws) ({ frames := 1, cells := 0, slots := 0, locals := 14 } : Room)) (fun a U => a = #[(.ref a1), (.ref a2)] ∧ Z.Warmed39 U.vm ∧ U.heap = h0) (fun _ _ _ _ _ => True) (fun _ U o U' => ∃ v L, o = .returned v ∧ Q8_46 Z a1 a2 p7 a15 a18 p21 k22 p24 p25 k26 h0 n0 v U'.heap L ∧ FrameEnd U o U' L ({ frames := 1, cells := 0, slots := 0, locals := 14 } : Room).cells ({ frames := 1, cells := 0, slots := 0, locals := 14 } : Room).slots) := by
  refine MetFree.of_bodySF (plainFor_of_name pn_1) hisR ?_
  intro p e s m args below meth c s₁ Bd hml0 hP hK
  obtain ⟨rfl, hZ, hh⟩ := hP
  have hx := Bd.exec
  have hby := Bd.bytes
  have hml : c.maxLocals = 3 := hml0
  have hown : s.vm.findClass "java/lang/String" = some m.cls := findClass_of_methodNamed Bd.named
  have hnm := (name_of_methodNamed Bd.named Bd.method).1
  have X0 : Stand p l e ({ frames := 1, cells := 0, slots := 0, locals := 14 } : Room) s m #[(.ref a1), (.ref a2)] below meth c s₁ [] 0 0 := Stand.of_body Bd
  have e0 : s₁.heap = h0 := by rw [← hh, Bd.state]; rfl
  have N0 := Fr.nil n0
  have pre0 : ∀ t, Steps p.tables e below (s₁.setTop (mkF m 0 #[.val (.ref a1), .val (.ref a2), .unset] [])) t → Steps p.tables e below (s₁.setTop (entryFrame m #[(.ref a1), (.ref a2)] 3)) t := fun t k => castTop (ef_rm8_46 m a1 a2) k
  obtain ⟨T5, X5, e5, st5⟩ := instY X0 hx hZ hown (hw _ (gw 60 rfl)) e0 (Ins.self E_4) (g := (mkF m 8 #[.val (.ref a1), .val (.ref a2), .unset] [(.ref a2)])) rfl rfl (hb hby d8_8)
  obtain ⟨T6, X6, e6, st6⟩ := castY X5 hx hZ hown (hw _ (gw 60 rfl)) e5 (Ins.self E_4) (g := (mkF m 15 #[.val (.ref a1), .val (.ref a2), .unset] [(.ref a2)])) rfl rfl (hb hby d8_15)
  obtain ⟨T9, X9, e9, st9⟩ := getS2 X6 hx hZ hown (host := "") (Or.inl (hw _ (gw 55 rfl))) Via.refl e6 (Sta.ext O0.2 S_8) (g := (mkF m 19 #[.val (.ref a1), .val (.ref a2), .val (.ref a2)] [])) rfl (hb hby d8_19)
  obtain ⟨T12, X12, e12, st12⟩ := getF X9 hx hZ hown (host := "") (Or.inl (hw _ (gw 28 rfl))) Via.refl e9 F11 (g := (mkF m 26 #[.val (.ref a1), .val (.ref a2), .val (.ref a2)] [(.ref a1)])) rfl rfl (hb hby d8_26)
  obtain ⟨T14, X14, e14, st14⟩ := getF X12 hx hZ hown (host := "") (Or.inl (hw _ (gw 28 rfl))) Via.refl e12 F13 (g := (mkF m 30 #[.val (.ref a1), .val (.ref a2), .val (.ref a2)] [(.ref a2), (.int (0 : Int32))])) rfl rfl (hb hby d8_30)
  obtain ⟨T17, X17, e17, st17⟩ := getF X14 hx hZ hown (host := "") (Or.inl (hw _ (gw 27 rfl))) Via.refl e14 F16 (g := (mkF m 37 #[.val (.ref a1), .val (.ref a2), .val (.ref a2)] [(.ref a1)])) rfl rfl (hb hby d8_37)
  obtain ⟨T20, X20, e20, st20⟩ := getF X17 hx hZ hown (host := "") (Or.inl (hw _ (gw 27 rfl))) Via.refl e17 F19 (g := (mkF m 41 #[.val (.ref a1), .val (.ref a2), .val (.ref a2)] [(.ref a2), (.ref a15)])) rfl rfl (hb hby d8_41)
  obtain ⟨_, _, ⟨T28, L28, k28, n28⟩, -, X28, ⟨Lc28, hQ28, l28, y28, z28⟩, st28⟩ := Jvm.LawKit.callS X20 hx (y := M_13) hown (mvT hZ (hw _ (gw 80 rfl))) (mvT hZ (hw _ (gw 81 rfl))) (mvT hZ (hw _ (gw 58 rfl))) (mvT hZ (hw _ (gw 82 rfl))) (by decide) (backOf (W := 0) (rm17_47 l Z a0 hw [] a15 a18 p21 k22 p24 p25 k26 h0 n0  O0 V23 V27) hZ (hw _ (gw 82 rfl)) (hw _ (gw 58 rfl)) (by decide) (by decide)) (g := (mkF m 44 #[.val (.ref a1), .val (.ref a2), .val (.ref a2)] [(.ref a18), (.ref a15)])) rfl (by rw [hml]; rfl) (argsL := [(.ref a15), (.ref a18)]) (rest := []) (lenOf pd_13 rfl) rfl (by show 2 * 0 + _ ≤ _; exact Nat.le_of_eq rfl) (hb hby d8_44) (fun _ _ => ⟨rfl, e20, (by decide : 0 + 0 ≤ _), (by decide : 0 + 0 ≤ _)⟩)
  dsimp only [Pt.U, Pt.locs, Pt.cells, Pt.slots] at X28 l28 y28 z28 st28 hQ28
  subst l28 y28 z28
  obtain ⟨rfl, u30, u31⟩ := hQ28
  have N28 := Fr.app N0 u30
  obtain ⟨fs, hr, hrun, hended, hW, hsame⟩ := X28.leave (v := some (.int (0 : Int32))) (fun h => by rw [Bd.returns] at h; cases h)
  refine ⟨_, _, pre0 _ ?_, hrun, hended, _, _, rfl, ?_, ⟨_, rfl⟩, hW, hsame.mono (by decide) (by decide)⟩
  · show Steps p.tables e below (s₁.setTop (mkF m 0 #[.val (.ref a1), .val (.ref a2), .unset] [])) _
    refine XS.aloadN X0.here hx rfl (hb hby d8_0) rfl rfl ?_
    refine XS.aloadN X0.here hx rfl (hb hby d8_1) rfl rfl ?_
    refine Jvm.RoadKit.acmp (g := (mkF m 2 #[.val (.ref a1), .val (.ref a2), .unset] [(.ref a2), (.ref a1)])) X0 hx rfl rfl rfl (pc0 := 2) (pc' := 7) (same := false) rfl (hb hby d8_2) rfl (decide_eq_false fun q => hne3 (Value.ref.inj q)) (by decide) (by decide) ?_
    refine XS.aloadN X0.here hx rfl (hb hby d8_7) rfl rfl ?_
    refine st5 _ ?_
    refine XS.ifNo X5.here hx rfl (hb hby d8_11) rfl ((if0 _ _).trans (feq (by decide +kernel : ¬ ((1 : Int32) = (0 : Int32)))).1) ?_
    refine XS.aloadN X5.here hx rfl (hb hby d8_14) rfl rfl ?_
    refine st6 _ ?_
    refine XS.astoreN X6.here hx rfl (hb hby d8_18) rfl rfl (l' := #[.val (.ref a1), .val (.ref a2), .val (.ref a2)]) rfl ?_
    show Steps p.tables e below (T6.setTop (mkF m 19 #[.val (.ref a1), .val (.ref a2), .val (.ref a2)] [])) _
    refine st9 _ ?_
    refine XS.ifNo X9.here hx rfl (hb hby d8_22) rfl ((if0 _ _).trans (feq hk10).1) ?_
    refine XS.aloadN X9.here hx rfl (hb hby d8_25) rfl rfl ?_
    refine st12 _ ?_
    refine XS.aloadN X12.here hx rfl (hb hby d8_29) rfl rfl ?_
    refine st14 _ ?_
    refine XS.icmpNo X14.here hx rfl (hb hby d8_33) rfl (teq (by decide +kernel : (0 : Int32) = (0 : Int32))).2 ?_
    refine XS.aloadN X14.here hx rfl (hb hby d8_36) rfl rfl ?_
    refine st17 _ ?_
    show Steps p.tables e below (T17.setTop (mkF m 40 #[.val (.ref a1), .val (.ref a2), .val (.ref a2)] [(.ref a15)])) _
    refine XS.aloadN X17.here hx rfl (hb hby d8_40) rfl rfl ?_
    refine st20 _ ?_
    refine st28 _ ?_
    refine XS.ifYes X28.here hx rfl (pc0 := 47) (pc' := 54) rfl (hb hby d8_47) rfl ((if0 _ _).trans (teq (by decide +kernel : (0 : Int32) = (0 : Int32))).1) (by decide) (by decide) ?_
    refine XS.iconst X28.here hx rfl (hb hby d8_54) ?_
    show Steps p.tables e below (T28.setTop (mkF m 55 #[.val (.ref a1), .val (.ref a2), .val (.ref a2)] [(.int (0 : Int32))])) _
    exact retN X28 hx (t := .boolean) Bd.returns (by simp) (hb hby d8_55) hr
  · show Q8_46 Z _ _ _ _ _ _ _ _ _ _ h0 n0 _ T28.heap _
    rw [u31]
    exact ⟨rfl, N28, rfl⟩
theorem ef_rm7_45 (m : MethodId) (x0 : Addr) (x1 : Addr) : entryFrame m #[(.ref x0), (.ref x1)] 2 = mkF m 0 #[.val (.ref x0), .val (.ref x1)] [] := by first | (simp [entryFrame, mkF, argsToLocals, Value.category]; done) | rfl
def Q7_45 (Z : State) (a1 : Addr) (a2 : Addr) (a6 : Addr) (a9 : Addr) (p15 : Int32) (a20 : Addr) (a22 : Addr) (p24 : Int32) (k25 : ClassId) (p27 : Int32) (p28 : Int32) (k29 : ClassId) (h0 : Heap) (n0 : Nat) (v : Option Value) (h : Heap) (L : List Loc) : Prop := (v = some (.int (0 : Int32)) ∧ Fr n0 L ∧ h = h0)
set_option maxRecDepth 65536 in
set_option maxHeartbeats 40000000 in
theorem rm7_45 (l : Launch) (Z : State) (a0 : Array Value) (hw : ∀ d ∈ own_ws, d.before a0 Z = true) (ws : List Jvm.Cond) (a1 : Addr) (a2 : Addr) (a6 : Addr) (a9 : Addr) (p15 : Int32) (a20 : Addr) (a22 : Addr) (p24 : Int32) (k25 : ClassId) (p27 : Int32) (p28 : Int32) (k29 : ClassId) (h0 : Heap) (n0 : Nat) (O0 : Old Z n0 h0) (E_3 : Exa Z h0 a2 C_1) (F7 : Fld Z h0 a2 C_1 "written" C_2 (.ref a6)) (F10 : Fld Z h0 a1 C_1 "written" C_2 (.ref a9)) (E_12 : Exa Z h0 a6 C_0) (hne13 : a6 ≠ a9) (E_14 : Exa Z h0 a9 C_0) (S_16 : Sta Z Z.heap C_0 "COMPACT_STRINGS" "Z" (.int p15)) (hk17 : ¬ (p15 = (0 : Int32))) (F18 : Fld Z h0 a6 C_0 "coder" "B" (.int (0 : Int32))) (F19 : Fld Z h0 a9 C_0 "coder" "B" (.int (0 : Int32))) (F21 : Fld Z h0 a6 C_0 "value" "[B" (.ref a20)) (F23 : Fld Z h0 a9 C_0 "value" "[B" (.ref a22)) (V26 : Arv Z h0 a20 k25 .byte (1 : Int32) [(.int p24)] (.int (0 : Int32))) (V30 : Arv Z h0 a22 k29 .byte (2 : Int32) [(.int p27), (.int p28)] (.int (0 : Int32))) :
    MetFree l M_15 (head1 (Jvm.Cond.code M_15 prog_67_method_3_code 2 (some .boolean) :: ws) ({ frames := 2, cells := 0, slots := 0, locals := 28 } : Room)) (fun a U => a = #[(.ref a1), (.ref a2)] ∧ Z.Warmed39 U.vm ∧ U.heap = h0) (fun _ _ _ _ _ => True) (fun _ U o U' => ∃ v L, o = .returned v ∧ Q7_45 Z a1 a2 a6 a9 p15 a20 a22 p24 k25 p27 p28 k29 h0 n0 v U'.heap L ∧ FrameEnd U o U' L ({ frames := 2, cells := 0, slots := 0, locals := 28 } : Room).cells ({ frames := 2, cells := 0, slots := 0, locals := 28 } : Room).slots) := by
  refine MetFree.of_bodySF (plainFor_of_name pn_4) hisR ?_
  intro p e s m args below meth c s₁ Bd hml0 hP hK
  obtain ⟨rfl, hZ, hh⟩ := hP
  have hx := Bd.exec
  have hby := Bd.bytes
  have hml : c.maxLocals = 2 := hml0
  have hown : s.vm.findClass "com/example/vestry/vestry/JsonText$Numeral" = some m.cls := findClass_of_methodNamed Bd.named
  have hnm := (name_of_methodNamed Bd.named Bd.method).1
  have X0 : Stand p l e ({ frames := 2, cells := 0, slots := 0, locals := 28 } : Room) s m #[(.ref a1), (.ref a2)] below meth c s₁ [] 0 0 := Stand.of_body Bd
  have e0 : s₁.heap = h0 := by rw [← hh, Bd.state]; rfl
  have N0 := Fr.nil n0
  have pre0 : ∀ t, Steps p.tables e below (s₁.setTop (mkF m 0 #[.val (.ref a1), .val (.ref a2)] [])) t → Steps p.tables e below (s₁.setTop (entryFrame m #[(.ref a1), (.ref a2)] 2)) t := fun t k => castTop (ef_rm7_45 m a1 a2) k
  obtain ⟨T4, X4, e4, st4⟩ := instY X0 hx hZ hown (hw _ (gw 43 rfl)) e0 (Ins.self E_3) (g := (mkF m 1 #[.val (.ref a1), .val (.ref a2)] [(.ref a2)])) rfl rfl (hb hby d7_1)
  obtain ⟨T5, X5, e5, st5⟩ := castY X4 hx hZ hown (hw _ (gw 43 rfl)) e4 (Ins.self E_3) (g := (mkF m 8 #[.val (.ref a1), .val (.ref a2)] [(.ref a2)])) rfl rfl (hb hby d7_8)
  obtain ⟨T8, X8, e8, st8⟩ := getF X5 hx hZ hown (host := "") (Or.inl (hw _ (gw 36 rfl))) Via.refl e5 F7 (g := (mkF m 11 #[.val (.ref a1), .val (.ref a2)] [(.ref a2)])) rfl rfl (hb hby d7_11)
  obtain ⟨T11, X11, e11, st11⟩ := getF X8 hx hZ hown (host := "") (Or.inl (hw _ (gw 36 rfl))) Via.refl e8 F10 (g := (mkF m 15 #[.val (.ref a1), .val (.ref a2)] [(.ref a1), (.ref a6)])) rfl rfl (hb hby d7_15)
  obtain ⟨cq31, kq31, q31a, q31b, q31c⟩ := isOf hZ e11 E_12
  obtain ⟨_, _, ⟨T31, L31, k31, n31⟩, -, X31, ⟨Lc31, hQ31, l31, y31, z31⟩, st31⟩ := X11.virtualBack hx (y := M_14) (z := M_14) hown (mvT hZ (hw _ (gw 45 rfl))) (mvT hZ (hw _ (gw 46 rfl))) (notFace_of_selects (args := #[]) (mvT hZ (hw _ (gw 48 rfl)))) (mvT hZ (hw _ (gw 48 rfl))) (mvT hZ (hw _ (gw 47 rfl))) (by decide) (backOf (W := 0) (rm8_46 l Z a0 hw [] a6 a9 p15 a20 a22 p24 k25 p27 p28 k29 h0 n0  O0 hne13 E_14 S_16 hk17 F18 F19 F21 F23 V26 V30) hZ (hw _ (gw 49 rfl)) (hw _ (gw 9 rfl)) (by decide) (by decide)) q31a q31c (g := (mkF m 18 #[.val (.ref a1), .val (.ref a2)] [(.ref a9), (.ref a6)])) rfl (by rw [hml]; rfl) (Steps.refl _) (argsL := [(.ref a9)]) (rest := []) (lenOf pd_14 rfl) rfl (by show 2 * 0 + _ ≤ _; exact Nat.le_of_eq rfl) (hb hby d7_18) (fun _ _ => ⟨rfl, e11, (by decide : 0 + 0 ≤ _), (by decide : 0 + 0 ≤ _)⟩)
  dsimp only [Pt.U, Pt.locs, Pt.cells, Pt.slots] at X31 l31 y31 z31 st31 hQ31
  subst l31 y31 z31
  obtain ⟨rfl, u33, u34⟩ := hQ31
  have N31 := Fr.app N0 u33
  obtain ⟨fs, hr, hrun, hended, hW, hsame⟩ := X31.leave (v := some (.int (0 : Int32))) (fun h => by rw [Bd.returns] at h; cases h)
  refine ⟨_, _, pre0 _ ?_, hrun, hended, _, _, rfl, ?_, ⟨_, rfl⟩, hW, hsame.mono (by decide) (by decide)⟩
  · show Steps p.tables e below (s₁.setTop (mkF m 0 #[.val (.ref a1), .val (.ref a2)] [])) _
    refine XS.aloadN X0.here hx rfl (hb hby d7_0) rfl rfl ?_
    refine st4 _ ?_
    refine XS.ifNo X4.here hx rfl (hb hby d7_4) rfl ((if0 _ _).trans (feq (by decide +kernel : ¬ ((1 : Int32) = (0 : Int32)))).1) ?_
    refine XS.aloadN X4.here hx rfl (hb hby d7_7) rfl rfl ?_
    refine st5 _ ?_
    refine st8 _ ?_
    refine XS.aloadN X8.here hx rfl (hb hby d7_14) rfl rfl ?_
    refine st11 _ ?_
    refine st31.trans ?_
    show Steps p.tables e below (T31.setTop (mkF m 21 #[.val (.ref a1), .val (.ref a2)] [(.int (0 : Int32))])) _
    refine XS.ifYes X31.here hx rfl (pc0 := 21) (pc' := 28) rfl (hb hby d7_21) rfl ((if0 _ _).trans (teq (by decide +kernel : (0 : Int32) = (0 : Int32))).1) (by decide) (by decide) ?_
    refine XS.iconst X31.here hx rfl (hb hby d7_28) ?_
    show Steps p.tables e below (T31.setTop (mkF m 29 #[.val (.ref a1), .val (.ref a2)] [(.int (0 : Int32))])) _
    exact retN X31 hx (t := .boolean) Bd.returns (by simp) (hb hby d7_29) hr
  · show Q7_45 Z _ _ _ _ _ _ _ _ _ _ _ _ h0 n0 _ T31.heap _
    rw [u34]
    exact ⟨rfl, N31, rfl⟩
theorem ef_rm17_50 (m : MethodId) (x0 : Addr) (x1 : Addr) : entryFrame m #[(.ref x0), (.ref x1)] 3 = mkF m 0 #[.val (.ref x0), .val (.ref x1), .unset] [] := by first | (simp [entryFrame, mkF, argsToLocals, Value.category]; done) | rfl
def Q17_50 (Z : State) (a1 : Addr) (a2 : Addr) (p3 : Int32) (p4 : Int32) (k5 : ClassId) (p8 : Int32) (p9 : Int32) (k10 : ClassId) (h0 : Heap) (n0 : Nat) (v : Option Value) (h : Heap) (L : List Loc) : Prop := (v = some (.int (1 : Int32)) ∧ Fr n0 L ∧ h = h0)
set_option maxRecDepth 65536 in
set_option maxHeartbeats 40000000 in
theorem rm17_50 (l : Launch) (Z : State) (a0 : Array Value) (hw : ∀ d ∈ own_ws, d.before a0 Z = true) (ws : List Jvm.Cond) (a1 : Addr) (a2 : Addr) (p3 : Int32) (p4 : Int32) (k5 : ClassId) (p8 : Int32) (p9 : Int32) (k10 : ClassId) (h0 : Heap) (n0 : Nat) (O0 : Old Z n0 h0) (V6 : Arv Z h0 a1 k5 .byte (2 : Int32) [(.int p3), (.int p4)] (.int (0 : Int32))) (V11 : Arv Z h0 a2 k10 .byte (2 : Int32) [(.int p8), (.int p9)] (.int (0 : Int32))) (hk16 : p3 = p8) (hk20 : p4 = p9) :
    MetFree l M_13 (head1 (Jvm.Cond.code M_13 jdk_43_method_13_code 3 (some .boolean) :: ws) ({ frames := 0, cells := 0, slots := 0, locals := 0 } : Room)) (fun a U => a = #[(.ref a1), (.ref a2)] ∧ Z.Warmed39 U.vm ∧ U.heap = h0) (fun _ _ _ _ _ => True) (fun _ U o U' => ∃ v L, o = .returned v ∧ Q17_50 Z a1 a2 p3 p4 k5 p8 p9 k10 h0 n0 v U'.heap L ∧ FrameEnd U o U' L ({ frames := 0, cells := 0, slots := 0, locals := 0 } : Room).cells ({ frames := 0, cells := 0, slots := 0, locals := 0 } : Room).slots) := by
  refine MetFree.of_bodySF (plainFor_of_name pn_2) hisR ?_
  intro p e s m args below meth c s₁ Bd hml0 hP hK
  obtain ⟨rfl, hZ, hh⟩ := hP
  have hx := Bd.exec
  have hby := Bd.bytes
  have hml : c.maxLocals = 3 := hml0
  have hown : s.vm.findClass "java/lang/StringLatin1" = some m.cls := findClass_of_methodNamed Bd.named
  have hnm := (name_of_methodNamed Bd.named Bd.method).1
  have X0 : Stand p l e ({ frames := 0, cells := 0, slots := 0, locals := 0 } : Room) s m #[(.ref a1), (.ref a2)] below meth c s₁ [] 0 0 := Stand.of_body Bd
  have e0 : s₁.heap = h0 := by rw [← hh, Bd.state]; rfl
  have N0 := Fr.nil n0
  have pre0 : ∀ t, Steps p.tables e below (s₁.setTop (mkF m 0 #[.val (.ref a1), .val (.ref a2), .unset] [])) t → Steps p.tables e below (s₁.setTop (entryFrame m #[(.ref a1), (.ref a2)] 3)) t := fun t k => castTop (ef_rm17_50 m a1 a2) k
  obtain ⟨cl7, Ar7, -, Sz7, Nn7, -, -⟩ := id V6
  obtain ⟨cl12, Ar12, -, Sz12, Nn12, -, -⟩ := id V11
  obtain ⟨cl13, Ar13, -, Sz13, Nn13, -, -⟩ := id V6
  obtain ⟨cl14, Ar14, -, Sz14, -, Hh14, -⟩ := id V6
  have hin14 : ¬ ((0 : Int32) < 0 ∨ cl14.slots.size ≤ ((0 : Int32)).toNatClampNeg) := inb_of Sz14 ⟨by decide +kernel, by decide +kernel⟩
  have hat14 : cl14.slots[((0 : Int32)).toNatClampNeg]? = some (.int p3) := Has.at Hh14 hin14 rfl
  obtain ⟨cl15, Ar15, -, Sz15, -, Hh15, -⟩ := id V11
  have hin15 : ¬ ((0 : Int32) < 0 ∨ cl15.slots.size ≤ ((0 : Int32)).toNatClampNeg) := inb_of Sz15 ⟨by decide +kernel, by decide +kernel⟩
  have hat15 : cl15.slots[((0 : Int32)).toNatClampNeg]? = some (.int p8) := Has.at Hh15 hin15 rfl
  obtain ⟨cl17, Ar17, -, Sz17, Nn17, -, -⟩ := id V6
  obtain ⟨cl18, Ar18, -, Sz18, -, Hh18, -⟩ := id V6
  have hin18 : ¬ ((1 : Int32) < 0 ∨ cl18.slots.size ≤ ((1 : Int32)).toNatClampNeg) := inb_of Sz18 ⟨by decide +kernel, by decide +kernel⟩
  have hat18 : cl18.slots[((1 : Int32)).toNatClampNeg]? = some (.int p4) := Has.at Hh18 hin18 rfl
  obtain ⟨cl19, Ar19, -, Sz19, -, Hh19, -⟩ := id V11
  have hin19 : ¬ ((1 : Int32) < 0 ∨ cl19.slots.size ≤ ((1 : Int32)).toNatClampNeg) := inb_of Sz19 ⟨by decide +kernel, by decide +kernel⟩
  have hat19 : cl19.slots[((1 : Int32)).toNatClampNeg]? = some (.int p9) := Has.at Hh19 hin19 rfl
  obtain ⟨cl21, Ar21, -, Sz21, Nn21, -, -⟩ := id V6
  obtain ⟨fs, hr, hrun, hended, hW, hsame⟩ := X0.leave (v := some (.int (1 : Int32))) (fun h => by rw [Bd.returns] at h; cases h)
  refine ⟨_, _, pre0 _ ?_, hrun, hended, _, _, rfl, ?_, ⟨_, rfl⟩, hW, hsame.mono (by decide) (by decide)⟩
  · show Steps p.tables e below (s₁.setTop (mkF m 0 #[.val (.ref a1), .val (.ref a2), .unset] [])) _
    refine XS.aloadN X0.here hx rfl (hb hby d17_0) rfl rfl ?_
    refine X0.arraylength hx (by rw [e0]; exact Ar7.1) (State.isArrayOf_alike hZ.alike Ar7.2.1) (g := (mkF m 1 #[.val (.ref a1), .val (.ref a2), .unset] [(.ref a1)])) rfl rfl (hb hby d17_1) _ ?_
    rw [len_of Sz7 Nn7]
    refine XS.aloadN X0.here hx rfl (hb hby d17_2) rfl rfl ?_
    refine X0.arraylength hx (by rw [e0]; exact Ar12.1) (State.isArrayOf_alike hZ.alike Ar12.2.1) (g := (mkF m 3 #[.val (.ref a1), .val (.ref a2), .unset] [(.ref a2), (.int (2 : Int32))])) rfl rfl (hb hby d17_3) _ ?_
    rw [len_of Sz12 Nn12]
    refine XS.icmpNo X0.here hx rfl (hb hby d17_4) rfl (teq (by decide +kernel : (2 : Int32) = (2 : Int32))).2 ?_
    refine XS.iconst X0.here hx rfl (hb hby d17_7) ?_
    refine XS.istoreN X0.here hx rfl (hb hby d17_8) rfl (l' := #[.val (.ref a1), .val (.ref a2), .val (.int (0 : Int32))]) rfl ?_
    refine XS.iloadN X0.here hx rfl (hb hby d17_9) rfl ?_
    refine XS.aloadN X0.here hx rfl (hb hby d17_10) rfl rfl ?_
    show Steps p.tables e below (s₁.setTop (mkF m 11 #[.val (.ref a1), .val (.ref a2), .val (.int (0 : Int32))] [(.ref a1), (.int (0 : Int32))])) _
    refine X0.arraylength hx (by rw [e0]; exact Ar13.1) (State.isArrayOf_alike hZ.alike Ar13.2.1) (g := (mkF m 11 #[.val (.ref a1), .val (.ref a2), .val (.int (0 : Int32))] [(.ref a1), (.int (0 : Int32))])) rfl rfl (hb hby d17_11) _ ?_
    rw [len_of Sz13 Nn13]
    refine XS.icmpNo X0.here hx rfl (hb hby d17_12) rfl (tlt (by decide +kernel : (0 : Int32) < (2 : Int32))).2.1 ?_
    refine XS.aloadN X0.here hx rfl (hb hby d17_15) rfl rfl ?_
    refine XS.iloadN X0.here hx rfl (hb hby d17_16) rfl ?_
    refine X0.baloadBytes hx (j := (0 : Int32)) (v := (.int p3)) (by rw [e0]; exact Ar14.1) (State.isArrayOf_alike hZ.alike Ar14.2.1) Ar14.2.2 hin14 hat14 (g := (mkF m 17 #[.val (.ref a1), .val (.ref a2), .val (.int (0 : Int32))] [(.int (0 : Int32)), (.ref a1)])) rfl rfl (hb hby d17_17) _ ?_
    refine XS.aloadN X0.here hx rfl (hb hby d17_18) rfl rfl ?_
    refine XS.iloadN X0.here hx rfl (hb hby d17_19) rfl ?_
    refine X0.baloadBytes hx (j := (0 : Int32)) (v := (.int p8)) (by rw [e0]; exact Ar15.1) (State.isArrayOf_alike hZ.alike Ar15.2.1) Ar15.2.2 hin15 hat15 (g := (mkF m 20 #[.val (.ref a1), .val (.ref a2), .val (.int (0 : Int32))] [(.int (0 : Int32)), (.ref a2), (.int p3)])) rfl rfl (hb hby d17_20) _ ?_
    refine XS.icmpYes X0.here hx rfl (pc0 := 21) (pc' := 26) rfl (hb hby d17_21) rfl (teq hk16).1 (by decide) (by decide) ?_
    show Steps p.tables e below (s₁.setTop (mkF m 26 #[.val (.ref a1), .val (.ref a2), .val (.int (0 : Int32))] [])) _
    refine XS.iinc X0.here hx rfl (hb hby d17_26) rfl (l' := #[.val (.ref a1), .val (.ref a2), .val (.int ((0 : Int32) + (1 : Int32)))]) rfl ?_
    show Steps p.tables e below (s₁.setTop (mkF m 29 #[.val (.ref a1), .val (.ref a2), .val (.int ((0 : Int32) + (1 : Int32)))] [])) _
    rw [(by decide +kernel : ((0 : Int32) + (1 : Int32)) = (1 : Int32))]
    refine XS.goto X0.here hx rfl (pc0 := 29) (pc' := 9) rfl (hb hby d17_29) (by decide) (by decide) ?_
    refine XS.iloadN X0.here hx rfl (hb hby d17_9) rfl ?_
    refine XS.aloadN X0.here hx rfl (hb hby d17_10) rfl rfl ?_
    refine X0.arraylength hx (by rw [e0]; exact Ar17.1) (State.isArrayOf_alike hZ.alike Ar17.2.1) (g := (mkF m 11 #[.val (.ref a1), .val (.ref a2), .val (.int (1 : Int32))] [(.ref a1), (.int (1 : Int32))])) rfl rfl (hb hby d17_11) _ ?_
    rw [len_of Sz17 Nn17]
    refine XS.icmpNo X0.here hx rfl (hb hby d17_12) rfl (tlt (by decide +kernel : (1 : Int32) < (2 : Int32))).2.1 ?_
    refine XS.aloadN X0.here hx rfl (hb hby d17_15) rfl rfl ?_
    refine XS.iloadN X0.here hx rfl (hb hby d17_16) rfl ?_
    refine X0.baloadBytes hx (j := (1 : Int32)) (v := (.int p4)) (by rw [e0]; exact Ar18.1) (State.isArrayOf_alike hZ.alike Ar18.2.1) Ar18.2.2 hin18 hat18 (g := (mkF m 17 #[.val (.ref a1), .val (.ref a2), .val (.int (1 : Int32))] [(.int (1 : Int32)), (.ref a1)])) rfl rfl (hb hby d17_17) _ ?_
    show Steps p.tables e below (s₁.setTop (mkF m 18 #[.val (.ref a1), .val (.ref a2), .val (.int (1 : Int32))] [(.int p4)])) _
    refine XS.aloadN X0.here hx rfl (hb hby d17_18) rfl rfl ?_
    refine XS.iloadN X0.here hx rfl (hb hby d17_19) rfl ?_
    refine X0.baloadBytes hx (j := (1 : Int32)) (v := (.int p9)) (by rw [e0]; exact Ar19.1) (State.isArrayOf_alike hZ.alike Ar19.2.1) Ar19.2.2 hin19 hat19 (g := (mkF m 20 #[.val (.ref a1), .val (.ref a2), .val (.int (1 : Int32))] [(.int (1 : Int32)), (.ref a2), (.int p4)])) rfl rfl (hb hby d17_20) _ ?_
    refine XS.icmpYes X0.here hx rfl (pc0 := 21) (pc' := 26) rfl (hb hby d17_21) rfl (teq hk20).1 (by decide) (by decide) ?_
    refine XS.iinc X0.here hx rfl (hb hby d17_26) rfl (l' := #[.val (.ref a1), .val (.ref a2), .val (.int ((1 : Int32) + (1 : Int32)))]) rfl ?_
    show Steps p.tables e below (s₁.setTop (mkF m 29 #[.val (.ref a1), .val (.ref a2), .val (.int ((1 : Int32) + (1 : Int32)))] [])) _
    rw [(by decide +kernel : ((1 : Int32) + (1 : Int32)) = (2 : Int32))]
    refine XS.goto X0.here hx rfl (pc0 := 29) (pc' := 9) rfl (hb hby d17_29) (by decide) (by decide) ?_
    refine XS.iloadN X0.here hx rfl (hb hby d17_9) rfl ?_
    refine XS.aloadN X0.here hx rfl (hb hby d17_10) rfl rfl ?_
    refine X0.arraylength hx (by rw [e0]; exact Ar21.1) (State.isArrayOf_alike hZ.alike Ar21.2.1) (g := (mkF m 11 #[.val (.ref a1), .val (.ref a2), .val (.int (2 : Int32))] [(.ref a1), (.int (2 : Int32))])) rfl rfl (hb hby d17_11) _ ?_
    rw [len_of Sz21 Nn21]
    refine XS.icmpYes X0.here hx rfl (pc0 := 12) (pc' := 32) rfl (hb hby d17_12) rfl (flt (by decide +kernel : ¬ ((2 : Int32) < (2 : Int32)))).2.1 (by decide) (by decide) ?_
    refine XS.iconst X0.here hx rfl (hb hby d17_32) ?_
    show Steps p.tables e below (s₁.setTop (mkF m 33 #[.val (.ref a1), .val (.ref a2), .val (.int (2 : Int32))] [(.int (1 : Int32))])) _
    exact retN X0 hx (t := .boolean) Bd.returns (by simp) (hb hby d17_33) hr
  · show Q17_50 Z _ _ _ _ _ _ _ _ h0 n0 _ s₁.heap _
    rw [e0]
    exact ⟨rfl, N0, rfl⟩
theorem ef_rm8_49 (m : MethodId) (x0 : Addr) (x1 : Addr) : entryFrame m #[(.ref x0), (.ref x1)] 3 = mkF m 0 #[.val (.ref x0), .val (.ref x1), .unset] [] := by first | (simp [entryFrame, mkF, argsToLocals, Value.category]; done) | rfl
def Q8_49 (Z : State) (a1 : Addr) (a2 : Addr) (p7 : Int32) (a15 : Addr) (a18 : Addr) (p21 : Int32) (p22 : Int32) (k23 : ClassId) (p25 : Int32) (p26 : Int32) (k27 : ClassId) (h0 : Heap) (n0 : Nat) (v : Option Value) (h : Heap) (L : List Loc) : Prop := (v = some (.int (1 : Int32)) ∧ Fr n0 L ∧ h = h0)
set_option maxRecDepth 65536 in
set_option maxHeartbeats 40000000 in
theorem rm8_49 (l : Launch) (Z : State) (a0 : Array Value) (hw : ∀ d ∈ own_ws, d.before a0 Z = true) (ws : List Jvm.Cond) (a1 : Addr) (a2 : Addr) (p7 : Int32) (a15 : Addr) (a18 : Addr) (p21 : Int32) (p22 : Int32) (k23 : ClassId) (p25 : Int32) (p26 : Int32) (k27 : ClassId) (h0 : Heap) (n0 : Nat) (O0 : Old Z n0 h0) (hne3 : a1 ≠ a2) (E_4 : Exa Z h0 a2 C_0) (S_8 : Sta Z Z.heap C_0 "COMPACT_STRINGS" "Z" (.int p7)) (hk10 : ¬ (p7 = (0 : Int32))) (F11 : Fld Z h0 a1 C_0 "coder" "B" (.int (0 : Int32))) (F13 : Fld Z h0 a2 C_0 "coder" "B" (.int (0 : Int32))) (F16 : Fld Z h0 a1 C_0 "value" "[B" (.ref a15)) (F19 : Fld Z h0 a2 C_0 "value" "[B" (.ref a18)) (V24 : Arv Z h0 a15 k23 .byte (2 : Int32) [(.int p21), (.int p22)] (.int (0 : Int32))) (V28 : Arv Z h0 a18 k27 .byte (2 : Int32) [(.int p25), (.int p26)] (.int (0 : Int32))) (hk29 : p21 = p25) (hk30 : p22 = p26) :
    MetFree l M_14 (head1 (Jvm.Cond.code M_14 jdk_42_method_66_code 3 (some .boolean) :: ws) ({ frames := 1, cells := 0, slots := 0, locals := 14 } : Room)) (fun a U => a = #[(.ref a1), (.ref a2)] ∧ Z.Warmed39 U.vm ∧ U.heap = h0) (fun _ _ _ _ _ => True) (fun _ U o U' => ∃ v L, o = .returned v ∧ Q8_49 Z a1 a2 p7 a15 a18 p21 p22 k23 p25 p26 k27 h0 n0 v U'.heap L ∧ FrameEnd U o U' L ({ frames := 1, cells := 0, slots := 0, locals := 14 } : Room).cells ({ frames := 1, cells := 0, slots := 0, locals := 14 } : Room).slots) := by
  refine MetFree.of_bodySF (plainFor_of_name pn_1) hisR ?_
  intro p e s m args below meth c s₁ Bd hml0 hP hK
  obtain ⟨rfl, hZ, hh⟩ := hP
  have hx := Bd.exec
  have hby := Bd.bytes
  have hml : c.maxLocals = 3 := hml0
  have hown : s.vm.findClass "java/lang/String" = some m.cls := findClass_of_methodNamed Bd.named
  have hnm := (name_of_methodNamed Bd.named Bd.method).1
  have X0 : Stand p l e ({ frames := 1, cells := 0, slots := 0, locals := 14 } : Room) s m #[(.ref a1), (.ref a2)] below meth c s₁ [] 0 0 := Stand.of_body Bd
  have e0 : s₁.heap = h0 := by rw [← hh, Bd.state]; rfl
  have N0 := Fr.nil n0
  have pre0 : ∀ t, Steps p.tables e below (s₁.setTop (mkF m 0 #[.val (.ref a1), .val (.ref a2), .unset] [])) t → Steps p.tables e below (s₁.setTop (entryFrame m #[(.ref a1), (.ref a2)] 3)) t := fun t k => castTop (ef_rm8_49 m a1 a2) k
  obtain ⟨T5, X5, e5, st5⟩ := instY X0 hx hZ hown (hw _ (gw 60 rfl)) e0 (Ins.self E_4) (g := (mkF m 8 #[.val (.ref a1), .val (.ref a2), .unset] [(.ref a2)])) rfl rfl (hb hby d8_8)
  obtain ⟨T6, X6, e6, st6⟩ := castY X5 hx hZ hown (hw _ (gw 60 rfl)) e5 (Ins.self E_4) (g := (mkF m 15 #[.val (.ref a1), .val (.ref a2), .unset] [(.ref a2)])) rfl rfl (hb hby d8_15)
  obtain ⟨T9, X9, e9, st9⟩ := getS2 X6 hx hZ hown (host := "") (Or.inl (hw _ (gw 55 rfl))) Via.refl e6 (Sta.ext O0.2 S_8) (g := (mkF m 19 #[.val (.ref a1), .val (.ref a2), .val (.ref a2)] [])) rfl (hb hby d8_19)
  obtain ⟨T12, X12, e12, st12⟩ := getF X9 hx hZ hown (host := "") (Or.inl (hw _ (gw 28 rfl))) Via.refl e9 F11 (g := (mkF m 26 #[.val (.ref a1), .val (.ref a2), .val (.ref a2)] [(.ref a1)])) rfl rfl (hb hby d8_26)
  obtain ⟨T14, X14, e14, st14⟩ := getF X12 hx hZ hown (host := "") (Or.inl (hw _ (gw 28 rfl))) Via.refl e12 F13 (g := (mkF m 30 #[.val (.ref a1), .val (.ref a2), .val (.ref a2)] [(.ref a2), (.int (0 : Int32))])) rfl rfl (hb hby d8_30)
  obtain ⟨T17, X17, e17, st17⟩ := getF X14 hx hZ hown (host := "") (Or.inl (hw _ (gw 27 rfl))) Via.refl e14 F16 (g := (mkF m 37 #[.val (.ref a1), .val (.ref a2), .val (.ref a2)] [(.ref a1)])) rfl rfl (hb hby d8_37)
  obtain ⟨T20, X20, e20, st20⟩ := getF X17 hx hZ hown (host := "") (Or.inl (hw _ (gw 27 rfl))) Via.refl e17 F19 (g := (mkF m 41 #[.val (.ref a1), .val (.ref a2), .val (.ref a2)] [(.ref a2), (.ref a15)])) rfl rfl (hb hby d8_41)
  obtain ⟨_, _, ⟨T31, L31, k31, n31⟩, -, X31, ⟨Lc31, hQ31, l31, y31, z31⟩, st31⟩ := Jvm.LawKit.callS X20 hx (y := M_13) hown (mvT hZ (hw _ (gw 80 rfl))) (mvT hZ (hw _ (gw 81 rfl))) (mvT hZ (hw _ (gw 58 rfl))) (mvT hZ (hw _ (gw 82 rfl))) (by decide) (backOf (W := 0) (rm17_50 l Z a0 hw [] a15 a18 p21 p22 k23 p25 p26 k27 h0 n0  O0 V24 V28 hk29 hk30) hZ (hw _ (gw 82 rfl)) (hw _ (gw 58 rfl)) (by decide) (by decide)) (g := (mkF m 44 #[.val (.ref a1), .val (.ref a2), .val (.ref a2)] [(.ref a18), (.ref a15)])) rfl (by rw [hml]; rfl) (argsL := [(.ref a15), (.ref a18)]) (rest := []) (lenOf pd_13 rfl) rfl (by show 2 * 0 + _ ≤ _; exact Nat.le_of_eq rfl) (hb hby d8_44) (fun _ _ => ⟨rfl, e20, (by decide : 0 + 0 ≤ _), (by decide : 0 + 0 ≤ _)⟩)
  dsimp only [Pt.U, Pt.locs, Pt.cells, Pt.slots] at X31 l31 y31 z31 st31 hQ31
  subst l31 y31 z31
  obtain ⟨rfl, u33, u34⟩ := hQ31
  have N31 := Fr.app N0 u33
  obtain ⟨fs, hr, hrun, hended, hW, hsame⟩ := X31.leave (v := some (.int (1 : Int32))) (fun h => by rw [Bd.returns] at h; cases h)
  refine ⟨_, _, pre0 _ ?_, hrun, hended, _, _, rfl, ?_, ⟨_, rfl⟩, hW, hsame.mono (by decide) (by decide)⟩
  · show Steps p.tables e below (s₁.setTop (mkF m 0 #[.val (.ref a1), .val (.ref a2), .unset] [])) _
    refine XS.aloadN X0.here hx rfl (hb hby d8_0) rfl rfl ?_
    refine XS.aloadN X0.here hx rfl (hb hby d8_1) rfl rfl ?_
    refine Jvm.RoadKit.acmp (g := (mkF m 2 #[.val (.ref a1), .val (.ref a2), .unset] [(.ref a2), (.ref a1)])) X0 hx rfl rfl rfl (pc0 := 2) (pc' := 7) (same := false) rfl (hb hby d8_2) rfl (decide_eq_false fun q => hne3 (Value.ref.inj q)) (by decide) (by decide) ?_
    refine XS.aloadN X0.here hx rfl (hb hby d8_7) rfl rfl ?_
    refine st5 _ ?_
    refine XS.ifNo X5.here hx rfl (hb hby d8_11) rfl ((if0 _ _).trans (feq (by decide +kernel : ¬ ((1 : Int32) = (0 : Int32)))).1) ?_
    refine XS.aloadN X5.here hx rfl (hb hby d8_14) rfl rfl ?_
    refine st6 _ ?_
    refine XS.astoreN X6.here hx rfl (hb hby d8_18) rfl rfl (l' := #[.val (.ref a1), .val (.ref a2), .val (.ref a2)]) rfl ?_
    show Steps p.tables e below (T6.setTop (mkF m 19 #[.val (.ref a1), .val (.ref a2), .val (.ref a2)] [])) _
    refine st9 _ ?_
    refine XS.ifNo X9.here hx rfl (hb hby d8_22) rfl ((if0 _ _).trans (feq hk10).1) ?_
    refine XS.aloadN X9.here hx rfl (hb hby d8_25) rfl rfl ?_
    refine st12 _ ?_
    refine XS.aloadN X12.here hx rfl (hb hby d8_29) rfl rfl ?_
    refine st14 _ ?_
    refine XS.icmpNo X14.here hx rfl (hb hby d8_33) rfl (teq (by decide +kernel : (0 : Int32) = (0 : Int32))).2 ?_
    refine XS.aloadN X14.here hx rfl (hb hby d8_36) rfl rfl ?_
    refine st17 _ ?_
    show Steps p.tables e below (T17.setTop (mkF m 40 #[.val (.ref a1), .val (.ref a2), .val (.ref a2)] [(.ref a15)])) _
    refine XS.aloadN X17.here hx rfl (hb hby d8_40) rfl rfl ?_
    refine st20 _ ?_
    refine st31 _ ?_
    refine XS.ifNo X31.here hx rfl (hb hby d8_47) rfl ((if0 _ _).trans (feq (by decide +kernel : ¬ ((1 : Int32) = (0 : Int32)))).1) ?_
    refine XS.iconst X31.here hx rfl (hb hby d8_50) ?_
    refine XS.goto X31.here hx rfl (pc0 := 51) (pc' := 55) rfl (hb hby d8_51) (by decide) (by decide) ?_
    show Steps p.tables e below (T31.setTop (mkF m 55 #[.val (.ref a1), .val (.ref a2), .val (.ref a2)] [(.int (1 : Int32))])) _
    exact retN X31 hx (t := .boolean) Bd.returns (by simp) (hb hby d8_55) hr
  · show Q8_49 Z _ _ _ _ _ _ _ _ _ _ _ h0 n0 _ T31.heap _
    rw [u34]
    exact ⟨rfl, N31, rfl⟩
theorem ef_rm7_48 (m : MethodId) (x0 : Addr) (x1 : Addr) : entryFrame m #[(.ref x0), (.ref x1)] 2 = mkF m 0 #[.val (.ref x0), .val (.ref x1)] [] := by first | (simp [entryFrame, mkF, argsToLocals, Value.category]; done) | rfl
def Q7_48 (Z : State) (a1 : Addr) (a2 : Addr) (a6 : Addr) (a9 : Addr) (p15 : Int32) (a20 : Addr) (a22 : Addr) (p24 : Int32) (p25 : Int32) (k26 : ClassId) (p28 : Int32) (p29 : Int32) (k30 : ClassId) (h0 : Heap) (n0 : Nat) (v : Option Value) (h : Heap) (L : List Loc) : Prop := (v = some (.int (1 : Int32)) ∧ Fr n0 L ∧ h = h0)
set_option maxRecDepth 65536 in
set_option maxHeartbeats 40000000 in
theorem rm7_48 (l : Launch) (Z : State) (a0 : Array Value) (hw : ∀ d ∈ own_ws, d.before a0 Z = true) (ws : List Jvm.Cond) (a1 : Addr) (a2 : Addr) (a6 : Addr) (a9 : Addr) (p15 : Int32) (a20 : Addr) (a22 : Addr) (p24 : Int32) (p25 : Int32) (k26 : ClassId) (p28 : Int32) (p29 : Int32) (k30 : ClassId) (h0 : Heap) (n0 : Nat) (O0 : Old Z n0 h0) (E_3 : Exa Z h0 a2 C_1) (F7 : Fld Z h0 a2 C_1 "written" C_2 (.ref a6)) (F10 : Fld Z h0 a1 C_1 "written" C_2 (.ref a9)) (E_12 : Exa Z h0 a6 C_0) (hne13 : a6 ≠ a9) (E_14 : Exa Z h0 a9 C_0) (S_16 : Sta Z Z.heap C_0 "COMPACT_STRINGS" "Z" (.int p15)) (hk17 : ¬ (p15 = (0 : Int32))) (F18 : Fld Z h0 a6 C_0 "coder" "B" (.int (0 : Int32))) (F19 : Fld Z h0 a9 C_0 "coder" "B" (.int (0 : Int32))) (F21 : Fld Z h0 a6 C_0 "value" "[B" (.ref a20)) (F23 : Fld Z h0 a9 C_0 "value" "[B" (.ref a22)) (V27 : Arv Z h0 a20 k26 .byte (2 : Int32) [(.int p24), (.int p25)] (.int (0 : Int32))) (V31 : Arv Z h0 a22 k30 .byte (2 : Int32) [(.int p28), (.int p29)] (.int (0 : Int32))) (hk32 : p24 = p28) (hk33 : p25 = p29) :
    MetFree l M_15 (head1 (Jvm.Cond.code M_15 prog_67_method_3_code 2 (some .boolean) :: ws) ({ frames := 2, cells := 0, slots := 0, locals := 28 } : Room)) (fun a U => a = #[(.ref a1), (.ref a2)] ∧ Z.Warmed39 U.vm ∧ U.heap = h0) (fun _ _ _ _ _ => True) (fun _ U o U' => ∃ v L, o = .returned v ∧ Q7_48 Z a1 a2 a6 a9 p15 a20 a22 p24 p25 k26 p28 p29 k30 h0 n0 v U'.heap L ∧ FrameEnd U o U' L ({ frames := 2, cells := 0, slots := 0, locals := 28 } : Room).cells ({ frames := 2, cells := 0, slots := 0, locals := 28 } : Room).slots) := by
  refine MetFree.of_bodySF (plainFor_of_name pn_4) hisR ?_
  intro p e s m args below meth c s₁ Bd hml0 hP hK
  obtain ⟨rfl, hZ, hh⟩ := hP
  have hx := Bd.exec
  have hby := Bd.bytes
  have hml : c.maxLocals = 2 := hml0
  have hown : s.vm.findClass "com/example/vestry/vestry/JsonText$Numeral" = some m.cls := findClass_of_methodNamed Bd.named
  have hnm := (name_of_methodNamed Bd.named Bd.method).1
  have X0 : Stand p l e ({ frames := 2, cells := 0, slots := 0, locals := 28 } : Room) s m #[(.ref a1), (.ref a2)] below meth c s₁ [] 0 0 := Stand.of_body Bd
  have e0 : s₁.heap = h0 := by rw [← hh, Bd.state]; rfl
  have N0 := Fr.nil n0
  have pre0 : ∀ t, Steps p.tables e below (s₁.setTop (mkF m 0 #[.val (.ref a1), .val (.ref a2)] [])) t → Steps p.tables e below (s₁.setTop (entryFrame m #[(.ref a1), (.ref a2)] 2)) t := fun t k => castTop (ef_rm7_48 m a1 a2) k
  obtain ⟨T4, X4, e4, st4⟩ := instY X0 hx hZ hown (hw _ (gw 43 rfl)) e0 (Ins.self E_3) (g := (mkF m 1 #[.val (.ref a1), .val (.ref a2)] [(.ref a2)])) rfl rfl (hb hby d7_1)
  obtain ⟨T5, X5, e5, st5⟩ := castY X4 hx hZ hown (hw _ (gw 43 rfl)) e4 (Ins.self E_3) (g := (mkF m 8 #[.val (.ref a1), .val (.ref a2)] [(.ref a2)])) rfl rfl (hb hby d7_8)
  obtain ⟨T8, X8, e8, st8⟩ := getF X5 hx hZ hown (host := "") (Or.inl (hw _ (gw 36 rfl))) Via.refl e5 F7 (g := (mkF m 11 #[.val (.ref a1), .val (.ref a2)] [(.ref a2)])) rfl rfl (hb hby d7_11)
  obtain ⟨T11, X11, e11, st11⟩ := getF X8 hx hZ hown (host := "") (Or.inl (hw _ (gw 36 rfl))) Via.refl e8 F10 (g := (mkF m 15 #[.val (.ref a1), .val (.ref a2)] [(.ref a1), (.ref a6)])) rfl rfl (hb hby d7_15)
  obtain ⟨cq34, kq34, q34a, q34b, q34c⟩ := isOf hZ e11 E_12
  obtain ⟨_, _, ⟨T34, L34, k34, n34⟩, -, X34, ⟨Lc34, hQ34, l34, y34, z34⟩, st34⟩ := X11.virtualBack hx (y := M_14) (z := M_14) hown (mvT hZ (hw _ (gw 45 rfl))) (mvT hZ (hw _ (gw 46 rfl))) (notFace_of_selects (args := #[]) (mvT hZ (hw _ (gw 48 rfl)))) (mvT hZ (hw _ (gw 48 rfl))) (mvT hZ (hw _ (gw 47 rfl))) (by decide) (backOf (W := 0) (rm8_49 l Z a0 hw [] a6 a9 p15 a20 a22 p24 p25 k26 p28 p29 k30 h0 n0  O0 hne13 E_14 S_16 hk17 F18 F19 F21 F23 V27 V31 hk32 hk33) hZ (hw _ (gw 49 rfl)) (hw _ (gw 9 rfl)) (by decide) (by decide)) q34a q34c (g := (mkF m 18 #[.val (.ref a1), .val (.ref a2)] [(.ref a9), (.ref a6)])) rfl (by rw [hml]; rfl) (Steps.refl _) (argsL := [(.ref a9)]) (rest := []) (lenOf pd_14 rfl) rfl (by show 2 * 0 + _ ≤ _; exact Nat.le_of_eq rfl) (hb hby d7_18) (fun _ _ => ⟨rfl, e11, (by decide : 0 + 0 ≤ _), (by decide : 0 + 0 ≤ _)⟩)
  dsimp only [Pt.U, Pt.locs, Pt.cells, Pt.slots] at X34 l34 y34 z34 st34 hQ34
  subst l34 y34 z34
  obtain ⟨rfl, u36, u37⟩ := hQ34
  have N34 := Fr.app N0 u36
  obtain ⟨fs, hr, hrun, hended, hW, hsame⟩ := X34.leave (v := some (.int (1 : Int32))) (fun h => by rw [Bd.returns] at h; cases h)
  refine ⟨_, _, pre0 _ ?_, hrun, hended, _, _, rfl, ?_, ⟨_, rfl⟩, hW, hsame.mono (by decide) (by decide)⟩
  · show Steps p.tables e below (s₁.setTop (mkF m 0 #[.val (.ref a1), .val (.ref a2)] [])) _
    refine XS.aloadN X0.here hx rfl (hb hby d7_0) rfl rfl ?_
    refine st4 _ ?_
    refine XS.ifNo X4.here hx rfl (hb hby d7_4) rfl ((if0 _ _).trans (feq (by decide +kernel : ¬ ((1 : Int32) = (0 : Int32)))).1) ?_
    refine XS.aloadN X4.here hx rfl (hb hby d7_7) rfl rfl ?_
    refine st5 _ ?_
    refine st8 _ ?_
    refine XS.aloadN X8.here hx rfl (hb hby d7_14) rfl rfl ?_
    refine st11 _ ?_
    refine st34.trans ?_
    show Steps p.tables e below (T34.setTop (mkF m 21 #[.val (.ref a1), .val (.ref a2)] [(.int (1 : Int32))])) _
    refine XS.ifNo X34.here hx rfl (hb hby d7_21) rfl ((if0 _ _).trans (feq (by decide +kernel : ¬ ((1 : Int32) = (0 : Int32)))).1) ?_
    refine XS.iconst X34.here hx rfl (hb hby d7_24) ?_
    refine XS.goto X34.here hx rfl (pc0 := 25) (pc' := 29) rfl (hb hby d7_25) (by decide) (by decide) ?_
    show Steps p.tables e below (T34.setTop (mkF m 29 #[.val (.ref a1), .val (.ref a2)] [(.int (1 : Int32))])) _
    exact retN X34 hx (t := .boolean) Bd.returns (by simp) (hb hby d7_29) hr
  · show Q7_48 Z _ _ _ _ _ _ _ _ _ _ _ _ _ h0 n0 _ T34.heap _
    rw [u37]
    exact ⟨rfl, N34, rfl⟩
theorem ef_rm17_53 (m : MethodId) (x0 : Addr) (x1 : Addr) : entryFrame m #[(.ref x0), (.ref x1)] 3 = mkF m 0 #[.val (.ref x0), .val (.ref x1), .unset] [] := by first | (simp [entryFrame, mkF, argsToLocals, Value.category]; done) | rfl
def Q17_53 (Z : State) (a1 : Addr) (a2 : Addr) (p3 : Int32) (p4 : Int32) (k5 : ClassId) (p8 : Int32) (p9 : Int32) (k10 : ClassId) (h0 : Heap) (n0 : Nat) (v : Option Value) (h : Heap) (L : List Loc) : Prop := (v = some (.int (0 : Int32)) ∧ Fr n0 L ∧ h = h0)
set_option maxRecDepth 65536 in
set_option maxHeartbeats 40000000 in
theorem rm17_53 (l : Launch) (Z : State) (a0 : Array Value) (hw : ∀ d ∈ own_ws, d.before a0 Z = true) (ws : List Jvm.Cond) (a1 : Addr) (a2 : Addr) (p3 : Int32) (p4 : Int32) (k5 : ClassId) (p8 : Int32) (p9 : Int32) (k10 : ClassId) (h0 : Heap) (n0 : Nat) (O0 : Old Z n0 h0) (V6 : Arv Z h0 a1 k5 .byte (2 : Int32) [(.int p3), (.int p4)] (.int (0 : Int32))) (V11 : Arv Z h0 a2 k10 .byte (2 : Int32) [(.int p8), (.int p9)] (.int (0 : Int32))) (hk16 : p3 = p8) (hk20 : ¬ (p4 = p9)) :
    MetFree l M_13 (head1 (Jvm.Cond.code M_13 jdk_43_method_13_code 3 (some .boolean) :: ws) ({ frames := 0, cells := 0, slots := 0, locals := 0 } : Room)) (fun a U => a = #[(.ref a1), (.ref a2)] ∧ Z.Warmed39 U.vm ∧ U.heap = h0) (fun _ _ _ _ _ => True) (fun _ U o U' => ∃ v L, o = .returned v ∧ Q17_53 Z a1 a2 p3 p4 k5 p8 p9 k10 h0 n0 v U'.heap L ∧ FrameEnd U o U' L ({ frames := 0, cells := 0, slots := 0, locals := 0 } : Room).cells ({ frames := 0, cells := 0, slots := 0, locals := 0 } : Room).slots) := by
  refine MetFree.of_bodySF (plainFor_of_name pn_2) hisR ?_
  intro p e s m args below meth c s₁ Bd hml0 hP hK
  obtain ⟨rfl, hZ, hh⟩ := hP
  have hx := Bd.exec
  have hby := Bd.bytes
  have hml : c.maxLocals = 3 := hml0
  have hown : s.vm.findClass "java/lang/StringLatin1" = some m.cls := findClass_of_methodNamed Bd.named
  have hnm := (name_of_methodNamed Bd.named Bd.method).1
  have X0 : Stand p l e ({ frames := 0, cells := 0, slots := 0, locals := 0 } : Room) s m #[(.ref a1), (.ref a2)] below meth c s₁ [] 0 0 := Stand.of_body Bd
  have e0 : s₁.heap = h0 := by rw [← hh, Bd.state]; rfl
  have N0 := Fr.nil n0
  have pre0 : ∀ t, Steps p.tables e below (s₁.setTop (mkF m 0 #[.val (.ref a1), .val (.ref a2), .unset] [])) t → Steps p.tables e below (s₁.setTop (entryFrame m #[(.ref a1), (.ref a2)] 3)) t := fun t k => castTop (ef_rm17_53 m a1 a2) k
  obtain ⟨cl7, Ar7, -, Sz7, Nn7, -, -⟩ := id V6
  obtain ⟨cl12, Ar12, -, Sz12, Nn12, -, -⟩ := id V11
  obtain ⟨cl13, Ar13, -, Sz13, Nn13, -, -⟩ := id V6
  obtain ⟨cl14, Ar14, -, Sz14, -, Hh14, -⟩ := id V6
  have hin14 : ¬ ((0 : Int32) < 0 ∨ cl14.slots.size ≤ ((0 : Int32)).toNatClampNeg) := inb_of Sz14 ⟨by decide +kernel, by decide +kernel⟩
  have hat14 : cl14.slots[((0 : Int32)).toNatClampNeg]? = some (.int p3) := Has.at Hh14 hin14 rfl
  obtain ⟨cl15, Ar15, -, Sz15, -, Hh15, -⟩ := id V11
  have hin15 : ¬ ((0 : Int32) < 0 ∨ cl15.slots.size ≤ ((0 : Int32)).toNatClampNeg) := inb_of Sz15 ⟨by decide +kernel, by decide +kernel⟩
  have hat15 : cl15.slots[((0 : Int32)).toNatClampNeg]? = some (.int p8) := Has.at Hh15 hin15 rfl
  obtain ⟨cl17, Ar17, -, Sz17, Nn17, -, -⟩ := id V6
  obtain ⟨cl18, Ar18, -, Sz18, -, Hh18, -⟩ := id V6
  have hin18 : ¬ ((1 : Int32) < 0 ∨ cl18.slots.size ≤ ((1 : Int32)).toNatClampNeg) := inb_of Sz18 ⟨by decide +kernel, by decide +kernel⟩
  have hat18 : cl18.slots[((1 : Int32)).toNatClampNeg]? = some (.int p4) := Has.at Hh18 hin18 rfl
  obtain ⟨cl19, Ar19, -, Sz19, -, Hh19, -⟩ := id V11
  have hin19 : ¬ ((1 : Int32) < 0 ∨ cl19.slots.size ≤ ((1 : Int32)).toNatClampNeg) := inb_of Sz19 ⟨by decide +kernel, by decide +kernel⟩
  have hat19 : cl19.slots[((1 : Int32)).toNatClampNeg]? = some (.int p9) := Has.at Hh19 hin19 rfl
  obtain ⟨fs, hr, hrun, hended, hW, hsame⟩ := X0.leave (v := some (.int (0 : Int32))) (fun h => by rw [Bd.returns] at h; cases h)
  refine ⟨_, _, pre0 _ ?_, hrun, hended, _, _, rfl, ?_, ⟨_, rfl⟩, hW, hsame.mono (by decide) (by decide)⟩
  · show Steps p.tables e below (s₁.setTop (mkF m 0 #[.val (.ref a1), .val (.ref a2), .unset] [])) _
    refine XS.aloadN X0.here hx rfl (hb hby d17_0) rfl rfl ?_
    refine X0.arraylength hx (by rw [e0]; exact Ar7.1) (State.isArrayOf_alike hZ.alike Ar7.2.1) (g := (mkF m 1 #[.val (.ref a1), .val (.ref a2), .unset] [(.ref a1)])) rfl rfl (hb hby d17_1) _ ?_
    rw [len_of Sz7 Nn7]
    refine XS.aloadN X0.here hx rfl (hb hby d17_2) rfl rfl ?_
    refine X0.arraylength hx (by rw [e0]; exact Ar12.1) (State.isArrayOf_alike hZ.alike Ar12.2.1) (g := (mkF m 3 #[.val (.ref a1), .val (.ref a2), .unset] [(.ref a2), (.int (2 : Int32))])) rfl rfl (hb hby d17_3) _ ?_
    rw [len_of Sz12 Nn12]
    refine XS.icmpNo X0.here hx rfl (hb hby d17_4) rfl (teq (by decide +kernel : (2 : Int32) = (2 : Int32))).2 ?_
    refine XS.iconst X0.here hx rfl (hb hby d17_7) ?_
    refine XS.istoreN X0.here hx rfl (hb hby d17_8) rfl (l' := #[.val (.ref a1), .val (.ref a2), .val (.int (0 : Int32))]) rfl ?_
    refine XS.iloadN X0.here hx rfl (hb hby d17_9) rfl ?_
    refine XS.aloadN X0.here hx rfl (hb hby d17_10) rfl rfl ?_
    show Steps p.tables e below (s₁.setTop (mkF m 11 #[.val (.ref a1), .val (.ref a2), .val (.int (0 : Int32))] [(.ref a1), (.int (0 : Int32))])) _
    refine X0.arraylength hx (by rw [e0]; exact Ar13.1) (State.isArrayOf_alike hZ.alike Ar13.2.1) (g := (mkF m 11 #[.val (.ref a1), .val (.ref a2), .val (.int (0 : Int32))] [(.ref a1), (.int (0 : Int32))])) rfl rfl (hb hby d17_11) _ ?_
    rw [len_of Sz13 Nn13]
    refine XS.icmpNo X0.here hx rfl (hb hby d17_12) rfl (tlt (by decide +kernel : (0 : Int32) < (2 : Int32))).2.1 ?_
    refine XS.aloadN X0.here hx rfl (hb hby d17_15) rfl rfl ?_
    refine XS.iloadN X0.here hx rfl (hb hby d17_16) rfl ?_
    refine X0.baloadBytes hx (j := (0 : Int32)) (v := (.int p3)) (by rw [e0]; exact Ar14.1) (State.isArrayOf_alike hZ.alike Ar14.2.1) Ar14.2.2 hin14 hat14 (g := (mkF m 17 #[.val (.ref a1), .val (.ref a2), .val (.int (0 : Int32))] [(.int (0 : Int32)), (.ref a1)])) rfl rfl (hb hby d17_17) _ ?_
    refine XS.aloadN X0.here hx rfl (hb hby d17_18) rfl rfl ?_
    refine XS.iloadN X0.here hx rfl (hb hby d17_19) rfl ?_
    refine X0.baloadBytes hx (j := (0 : Int32)) (v := (.int p8)) (by rw [e0]; exact Ar15.1) (State.isArrayOf_alike hZ.alike Ar15.2.1) Ar15.2.2 hin15 hat15 (g := (mkF m 20 #[.val (.ref a1), .val (.ref a2), .val (.int (0 : Int32))] [(.int (0 : Int32)), (.ref a2), (.int p3)])) rfl rfl (hb hby d17_20) _ ?_
    refine XS.icmpYes X0.here hx rfl (pc0 := 21) (pc' := 26) rfl (hb hby d17_21) rfl (teq hk16).1 (by decide) (by decide) ?_
    show Steps p.tables e below (s₁.setTop (mkF m 26 #[.val (.ref a1), .val (.ref a2), .val (.int (0 : Int32))] [])) _
    refine XS.iinc X0.here hx rfl (hb hby d17_26) rfl (l' := #[.val (.ref a1), .val (.ref a2), .val (.int ((0 : Int32) + (1 : Int32)))]) rfl ?_
    show Steps p.tables e below (s₁.setTop (mkF m 29 #[.val (.ref a1), .val (.ref a2), .val (.int ((0 : Int32) + (1 : Int32)))] [])) _
    rw [(by decide +kernel : ((0 : Int32) + (1 : Int32)) = (1 : Int32))]
    refine XS.goto X0.here hx rfl (pc0 := 29) (pc' := 9) rfl (hb hby d17_29) (by decide) (by decide) ?_
    refine XS.iloadN X0.here hx rfl (hb hby d17_9) rfl ?_
    refine XS.aloadN X0.here hx rfl (hb hby d17_10) rfl rfl ?_
    refine X0.arraylength hx (by rw [e0]; exact Ar17.1) (State.isArrayOf_alike hZ.alike Ar17.2.1) (g := (mkF m 11 #[.val (.ref a1), .val (.ref a2), .val (.int (1 : Int32))] [(.ref a1), (.int (1 : Int32))])) rfl rfl (hb hby d17_11) _ ?_
    rw [len_of Sz17 Nn17]
    refine XS.icmpNo X0.here hx rfl (hb hby d17_12) rfl (tlt (by decide +kernel : (1 : Int32) < (2 : Int32))).2.1 ?_
    refine XS.aloadN X0.here hx rfl (hb hby d17_15) rfl rfl ?_
    refine XS.iloadN X0.here hx rfl (hb hby d17_16) rfl ?_
    refine X0.baloadBytes hx (j := (1 : Int32)) (v := (.int p4)) (by rw [e0]; exact Ar18.1) (State.isArrayOf_alike hZ.alike Ar18.2.1) Ar18.2.2 hin18 hat18 (g := (mkF m 17 #[.val (.ref a1), .val (.ref a2), .val (.int (1 : Int32))] [(.int (1 : Int32)), (.ref a1)])) rfl rfl (hb hby d17_17) _ ?_
    show Steps p.tables e below (s₁.setTop (mkF m 18 #[.val (.ref a1), .val (.ref a2), .val (.int (1 : Int32))] [(.int p4)])) _
    refine XS.aloadN X0.here hx rfl (hb hby d17_18) rfl rfl ?_
    refine XS.iloadN X0.here hx rfl (hb hby d17_19) rfl ?_
    refine X0.baloadBytes hx (j := (1 : Int32)) (v := (.int p9)) (by rw [e0]; exact Ar19.1) (State.isArrayOf_alike hZ.alike Ar19.2.1) Ar19.2.2 hin19 hat19 (g := (mkF m 20 #[.val (.ref a1), .val (.ref a2), .val (.int (1 : Int32))] [(.int (1 : Int32)), (.ref a2), (.int p4)])) rfl rfl (hb hby d17_20) _ ?_
    refine XS.icmpNo X0.here hx rfl (hb hby d17_21) rfl (feq hk20).1 ?_
    refine XS.iconst X0.here hx rfl (hb hby d17_24) ?_
    show Steps p.tables e below (s₁.setTop (mkF m 25 #[.val (.ref a1), .val (.ref a2), .val (.int (1 : Int32))] [(.int (0 : Int32))])) _
    exact retN X0 hx (t := .boolean) Bd.returns (by simp) (hb hby d17_25) hr
  · show Q17_53 Z _ _ _ _ _ _ _ _ h0 n0 _ s₁.heap _
    rw [e0]
    exact ⟨rfl, N0, rfl⟩
theorem ef_rm8_52 (m : MethodId) (x0 : Addr) (x1 : Addr) : entryFrame m #[(.ref x0), (.ref x1)] 3 = mkF m 0 #[.val (.ref x0), .val (.ref x1), .unset] [] := by first | (simp [entryFrame, mkF, argsToLocals, Value.category]; done) | rfl
def Q8_52 (Z : State) (a1 : Addr) (a2 : Addr) (p7 : Int32) (a15 : Addr) (a18 : Addr) (p21 : Int32) (p22 : Int32) (k23 : ClassId) (p25 : Int32) (p26 : Int32) (k27 : ClassId) (h0 : Heap) (n0 : Nat) (v : Option Value) (h : Heap) (L : List Loc) : Prop := (v = some (.int (0 : Int32)) ∧ Fr n0 L ∧ h = h0)
set_option maxRecDepth 65536 in
set_option maxHeartbeats 40000000 in
theorem rm8_52 (l : Launch) (Z : State) (a0 : Array Value) (hw : ∀ d ∈ own_ws, d.before a0 Z = true) (ws : List Jvm.Cond) (a1 : Addr) (a2 : Addr) (p7 : Int32) (a15 : Addr) (a18 : Addr) (p21 : Int32) (p22 : Int32) (k23 : ClassId) (p25 : Int32) (p26 : Int32) (k27 : ClassId) (h0 : Heap) (n0 : Nat) (O0 : Old Z n0 h0) (hne3 : a1 ≠ a2) (E_4 : Exa Z h0 a2 C_0) (S_8 : Sta Z Z.heap C_0 "COMPACT_STRINGS" "Z" (.int p7)) (hk10 : ¬ (p7 = (0 : Int32))) (F11 : Fld Z h0 a1 C_0 "coder" "B" (.int (0 : Int32))) (F13 : Fld Z h0 a2 C_0 "coder" "B" (.int (0 : Int32))) (F16 : Fld Z h0 a1 C_0 "value" "[B" (.ref a15)) (F19 : Fld Z h0 a2 C_0 "value" "[B" (.ref a18)) (V24 : Arv Z h0 a15 k23 .byte (2 : Int32) [(.int p21), (.int p22)] (.int (0 : Int32))) (V28 : Arv Z h0 a18 k27 .byte (2 : Int32) [(.int p25), (.int p26)] (.int (0 : Int32))) (hk29 : p21 = p25) (hk30 : ¬ (p22 = p26)) :
    MetFree l M_14 (head1 (Jvm.Cond.code M_14 jdk_42_method_66_code 3 (some .boolean) :: ws) ({ frames := 1, cells := 0, slots := 0, locals := 14 } : Room)) (fun a U => a = #[(.ref a1), (.ref a2)] ∧ Z.Warmed39 U.vm ∧ U.heap = h0) (fun _ _ _ _ _ => True) (fun _ U o U' => ∃ v L, o = .returned v ∧ Q8_52 Z a1 a2 p7 a15 a18 p21 p22 k23 p25 p26 k27 h0 n0 v U'.heap L ∧ FrameEnd U o U' L ({ frames := 1, cells := 0, slots := 0, locals := 14 } : Room).cells ({ frames := 1, cells := 0, slots := 0, locals := 14 } : Room).slots) := by
  refine MetFree.of_bodySF (plainFor_of_name pn_1) hisR ?_
  intro p e s m args below meth c s₁ Bd hml0 hP hK
  obtain ⟨rfl, hZ, hh⟩ := hP
  have hx := Bd.exec
  have hby := Bd.bytes
  have hml : c.maxLocals = 3 := hml0
  have hown : s.vm.findClass "java/lang/String" = some m.cls := findClass_of_methodNamed Bd.named
  have hnm := (name_of_methodNamed Bd.named Bd.method).1
  have X0 : Stand p l e ({ frames := 1, cells := 0, slots := 0, locals := 14 } : Room) s m #[(.ref a1), (.ref a2)] below meth c s₁ [] 0 0 := Stand.of_body Bd
  have e0 : s₁.heap = h0 := by rw [← hh, Bd.state]; rfl
  have N0 := Fr.nil n0
  have pre0 : ∀ t, Steps p.tables e below (s₁.setTop (mkF m 0 #[.val (.ref a1), .val (.ref a2), .unset] [])) t → Steps p.tables e below (s₁.setTop (entryFrame m #[(.ref a1), (.ref a2)] 3)) t := fun t k => castTop (ef_rm8_52 m a1 a2) k
  obtain ⟨T5, X5, e5, st5⟩ := instY X0 hx hZ hown (hw _ (gw 60 rfl)) e0 (Ins.self E_4) (g := (mkF m 8 #[.val (.ref a1), .val (.ref a2), .unset] [(.ref a2)])) rfl rfl (hb hby d8_8)
  obtain ⟨T6, X6, e6, st6⟩ := castY X5 hx hZ hown (hw _ (gw 60 rfl)) e5 (Ins.self E_4) (g := (mkF m 15 #[.val (.ref a1), .val (.ref a2), .unset] [(.ref a2)])) rfl rfl (hb hby d8_15)
  obtain ⟨T9, X9, e9, st9⟩ := getS2 X6 hx hZ hown (host := "") (Or.inl (hw _ (gw 55 rfl))) Via.refl e6 (Sta.ext O0.2 S_8) (g := (mkF m 19 #[.val (.ref a1), .val (.ref a2), .val (.ref a2)] [])) rfl (hb hby d8_19)
  obtain ⟨T12, X12, e12, st12⟩ := getF X9 hx hZ hown (host := "") (Or.inl (hw _ (gw 28 rfl))) Via.refl e9 F11 (g := (mkF m 26 #[.val (.ref a1), .val (.ref a2), .val (.ref a2)] [(.ref a1)])) rfl rfl (hb hby d8_26)
  obtain ⟨T14, X14, e14, st14⟩ := getF X12 hx hZ hown (host := "") (Or.inl (hw _ (gw 28 rfl))) Via.refl e12 F13 (g := (mkF m 30 #[.val (.ref a1), .val (.ref a2), .val (.ref a2)] [(.ref a2), (.int (0 : Int32))])) rfl rfl (hb hby d8_30)
  obtain ⟨T17, X17, e17, st17⟩ := getF X14 hx hZ hown (host := "") (Or.inl (hw _ (gw 27 rfl))) Via.refl e14 F16 (g := (mkF m 37 #[.val (.ref a1), .val (.ref a2), .val (.ref a2)] [(.ref a1)])) rfl rfl (hb hby d8_37)
  obtain ⟨T20, X20, e20, st20⟩ := getF X17 hx hZ hown (host := "") (Or.inl (hw _ (gw 27 rfl))) Via.refl e17 F19 (g := (mkF m 41 #[.val (.ref a1), .val (.ref a2), .val (.ref a2)] [(.ref a2), (.ref a15)])) rfl rfl (hb hby d8_41)
  obtain ⟨_, _, ⟨T31, L31, k31, n31⟩, -, X31, ⟨Lc31, hQ31, l31, y31, z31⟩, st31⟩ := Jvm.LawKit.callS X20 hx (y := M_13) hown (mvT hZ (hw _ (gw 80 rfl))) (mvT hZ (hw _ (gw 81 rfl))) (mvT hZ (hw _ (gw 58 rfl))) (mvT hZ (hw _ (gw 82 rfl))) (by decide) (backOf (W := 0) (rm17_53 l Z a0 hw [] a15 a18 p21 p22 k23 p25 p26 k27 h0 n0  O0 V24 V28 hk29 hk30) hZ (hw _ (gw 82 rfl)) (hw _ (gw 58 rfl)) (by decide) (by decide)) (g := (mkF m 44 #[.val (.ref a1), .val (.ref a2), .val (.ref a2)] [(.ref a18), (.ref a15)])) rfl (by rw [hml]; rfl) (argsL := [(.ref a15), (.ref a18)]) (rest := []) (lenOf pd_13 rfl) rfl (by show 2 * 0 + _ ≤ _; exact Nat.le_of_eq rfl) (hb hby d8_44) (fun _ _ => ⟨rfl, e20, (by decide : 0 + 0 ≤ _), (by decide : 0 + 0 ≤ _)⟩)
  dsimp only [Pt.U, Pt.locs, Pt.cells, Pt.slots] at X31 l31 y31 z31 st31 hQ31
  subst l31 y31 z31
  obtain ⟨rfl, u33, u34⟩ := hQ31
  have N31 := Fr.app N0 u33
  obtain ⟨fs, hr, hrun, hended, hW, hsame⟩ := X31.leave (v := some (.int (0 : Int32))) (fun h => by rw [Bd.returns] at h; cases h)
  refine ⟨_, _, pre0 _ ?_, hrun, hended, _, _, rfl, ?_, ⟨_, rfl⟩, hW, hsame.mono (by decide) (by decide)⟩
  · show Steps p.tables e below (s₁.setTop (mkF m 0 #[.val (.ref a1), .val (.ref a2), .unset] [])) _
    refine XS.aloadN X0.here hx rfl (hb hby d8_0) rfl rfl ?_
    refine XS.aloadN X0.here hx rfl (hb hby d8_1) rfl rfl ?_
    refine Jvm.RoadKit.acmp (g := (mkF m 2 #[.val (.ref a1), .val (.ref a2), .unset] [(.ref a2), (.ref a1)])) X0 hx rfl rfl rfl (pc0 := 2) (pc' := 7) (same := false) rfl (hb hby d8_2) rfl (decide_eq_false fun q => hne3 (Value.ref.inj q)) (by decide) (by decide) ?_
    refine XS.aloadN X0.here hx rfl (hb hby d8_7) rfl rfl ?_
    refine st5 _ ?_
    refine XS.ifNo X5.here hx rfl (hb hby d8_11) rfl ((if0 _ _).trans (feq (by decide +kernel : ¬ ((1 : Int32) = (0 : Int32)))).1) ?_
    refine XS.aloadN X5.here hx rfl (hb hby d8_14) rfl rfl ?_
    refine st6 _ ?_
    refine XS.astoreN X6.here hx rfl (hb hby d8_18) rfl rfl (l' := #[.val (.ref a1), .val (.ref a2), .val (.ref a2)]) rfl ?_
    show Steps p.tables e below (T6.setTop (mkF m 19 #[.val (.ref a1), .val (.ref a2), .val (.ref a2)] [])) _
    refine st9 _ ?_
    refine XS.ifNo X9.here hx rfl (hb hby d8_22) rfl ((if0 _ _).trans (feq hk10).1) ?_
    refine XS.aloadN X9.here hx rfl (hb hby d8_25) rfl rfl ?_
    refine st12 _ ?_
    refine XS.aloadN X12.here hx rfl (hb hby d8_29) rfl rfl ?_
    refine st14 _ ?_
    refine XS.icmpNo X14.here hx rfl (hb hby d8_33) rfl (teq (by decide +kernel : (0 : Int32) = (0 : Int32))).2 ?_
    refine XS.aloadN X14.here hx rfl (hb hby d8_36) rfl rfl ?_
    refine st17 _ ?_
    show Steps p.tables e below (T17.setTop (mkF m 40 #[.val (.ref a1), .val (.ref a2), .val (.ref a2)] [(.ref a15)])) _
    refine XS.aloadN X17.here hx rfl (hb hby d8_40) rfl rfl ?_
    refine st20 _ ?_
    refine st31 _ ?_
    refine XS.ifYes X31.here hx rfl (pc0 := 47) (pc' := 54) rfl (hb hby d8_47) rfl ((if0 _ _).trans (teq (by decide +kernel : (0 : Int32) = (0 : Int32))).1) (by decide) (by decide) ?_
    refine XS.iconst X31.here hx rfl (hb hby d8_54) ?_
    show Steps p.tables e below (T31.setTop (mkF m 55 #[.val (.ref a1), .val (.ref a2), .val (.ref a2)] [(.int (0 : Int32))])) _
    exact retN X31 hx (t := .boolean) Bd.returns (by simp) (hb hby d8_55) hr
  · show Q8_52 Z _ _ _ _ _ _ _ _ _ _ _ h0 n0 _ T31.heap _
    rw [u34]
    exact ⟨rfl, N31, rfl⟩
theorem ef_rm7_51 (m : MethodId) (x0 : Addr) (x1 : Addr) : entryFrame m #[(.ref x0), (.ref x1)] 2 = mkF m 0 #[.val (.ref x0), .val (.ref x1)] [] := by first | (simp [entryFrame, mkF, argsToLocals, Value.category]; done) | rfl
def Q7_51 (Z : State) (a1 : Addr) (a2 : Addr) (a6 : Addr) (a9 : Addr) (p15 : Int32) (a20 : Addr) (a22 : Addr) (p24 : Int32) (p25 : Int32) (k26 : ClassId) (p28 : Int32) (p29 : Int32) (k30 : ClassId) (h0 : Heap) (n0 : Nat) (v : Option Value) (h : Heap) (L : List Loc) : Prop := (v = some (.int (0 : Int32)) ∧ Fr n0 L ∧ h = h0)
set_option maxRecDepth 65536 in
set_option maxHeartbeats 40000000 in
theorem rm7_51 (l : Launch) (Z : State) (a0 : Array Value) (hw : ∀ d ∈ own_ws, d.before a0 Z = true) (ws : List Jvm.Cond) (a1 : Addr) (a2 : Addr) (a6 : Addr) (a9 : Addr) (p15 : Int32) (a20 : Addr) (a22 : Addr) (p24 : Int32) (p25 : Int32) (k26 : ClassId) (p28 : Int32) (p29 : Int32) (k30 : ClassId) (h0 : Heap) (n0 : Nat) (O0 : Old Z n0 h0) (E_3 : Exa Z h0 a2 C_1) (F7 : Fld Z h0 a2 C_1 "written" C_2 (.ref a6)) (F10 : Fld Z h0 a1 C_1 "written" C_2 (.ref a9)) (E_12 : Exa Z h0 a6 C_0) (hne13 : a6 ≠ a9) (E_14 : Exa Z h0 a9 C_0) (S_16 : Sta Z Z.heap C_0 "COMPACT_STRINGS" "Z" (.int p15)) (hk17 : ¬ (p15 = (0 : Int32))) (F18 : Fld Z h0 a6 C_0 "coder" "B" (.int (0 : Int32))) (F19 : Fld Z h0 a9 C_0 "coder" "B" (.int (0 : Int32))) (F21 : Fld Z h0 a6 C_0 "value" "[B" (.ref a20)) (F23 : Fld Z h0 a9 C_0 "value" "[B" (.ref a22)) (V27 : Arv Z h0 a20 k26 .byte (2 : Int32) [(.int p24), (.int p25)] (.int (0 : Int32))) (V31 : Arv Z h0 a22 k30 .byte (2 : Int32) [(.int p28), (.int p29)] (.int (0 : Int32))) (hk32 : p24 = p28) (hk33 : ¬ (p25 = p29)) :
    MetFree l M_15 (head1 (Jvm.Cond.code M_15 prog_67_method_3_code 2 (some .boolean) :: ws) ({ frames := 2, cells := 0, slots := 0, locals := 28 } : Room)) (fun a U => a = #[(.ref a1), (.ref a2)] ∧ Z.Warmed39 U.vm ∧ U.heap = h0) (fun _ _ _ _ _ => True) (fun _ U o U' => ∃ v L, o = .returned v ∧ Q7_51 Z a1 a2 a6 a9 p15 a20 a22 p24 p25 k26 p28 p29 k30 h0 n0 v U'.heap L ∧ FrameEnd U o U' L ({ frames := 2, cells := 0, slots := 0, locals := 28 } : Room).cells ({ frames := 2, cells := 0, slots := 0, locals := 28 } : Room).slots) := by
  refine MetFree.of_bodySF (plainFor_of_name pn_4) hisR ?_
  intro p e s m args below meth c s₁ Bd hml0 hP hK
  obtain ⟨rfl, hZ, hh⟩ := hP
  have hx := Bd.exec
  have hby := Bd.bytes
  have hml : c.maxLocals = 2 := hml0
  have hown : s.vm.findClass "com/example/vestry/vestry/JsonText$Numeral" = some m.cls := findClass_of_methodNamed Bd.named
  have hnm := (name_of_methodNamed Bd.named Bd.method).1
  have X0 : Stand p l e ({ frames := 2, cells := 0, slots := 0, locals := 28 } : Room) s m #[(.ref a1), (.ref a2)] below meth c s₁ [] 0 0 := Stand.of_body Bd
  have e0 : s₁.heap = h0 := by rw [← hh, Bd.state]; rfl
  have N0 := Fr.nil n0
  have pre0 : ∀ t, Steps p.tables e below (s₁.setTop (mkF m 0 #[.val (.ref a1), .val (.ref a2)] [])) t → Steps p.tables e below (s₁.setTop (entryFrame m #[(.ref a1), (.ref a2)] 2)) t := fun t k => castTop (ef_rm7_51 m a1 a2) k
  obtain ⟨T4, X4, e4, st4⟩ := instY X0 hx hZ hown (hw _ (gw 43 rfl)) e0 (Ins.self E_3) (g := (mkF m 1 #[.val (.ref a1), .val (.ref a2)] [(.ref a2)])) rfl rfl (hb hby d7_1)
  obtain ⟨T5, X5, e5, st5⟩ := castY X4 hx hZ hown (hw _ (gw 43 rfl)) e4 (Ins.self E_3) (g := (mkF m 8 #[.val (.ref a1), .val (.ref a2)] [(.ref a2)])) rfl rfl (hb hby d7_8)
  obtain ⟨T8, X8, e8, st8⟩ := getF X5 hx hZ hown (host := "") (Or.inl (hw _ (gw 36 rfl))) Via.refl e5 F7 (g := (mkF m 11 #[.val (.ref a1), .val (.ref a2)] [(.ref a2)])) rfl rfl (hb hby d7_11)
  obtain ⟨T11, X11, e11, st11⟩ := getF X8 hx hZ hown (host := "") (Or.inl (hw _ (gw 36 rfl))) Via.refl e8 F10 (g := (mkF m 15 #[.val (.ref a1), .val (.ref a2)] [(.ref a1), (.ref a6)])) rfl rfl (hb hby d7_15)
  obtain ⟨cq34, kq34, q34a, q34b, q34c⟩ := isOf hZ e11 E_12
  obtain ⟨_, _, ⟨T34, L34, k34, n34⟩, -, X34, ⟨Lc34, hQ34, l34, y34, z34⟩, st34⟩ := X11.virtualBack hx (y := M_14) (z := M_14) hown (mvT hZ (hw _ (gw 45 rfl))) (mvT hZ (hw _ (gw 46 rfl))) (notFace_of_selects (args := #[]) (mvT hZ (hw _ (gw 48 rfl)))) (mvT hZ (hw _ (gw 48 rfl))) (mvT hZ (hw _ (gw 47 rfl))) (by decide) (backOf (W := 0) (rm8_52 l Z a0 hw [] a6 a9 p15 a20 a22 p24 p25 k26 p28 p29 k30 h0 n0  O0 hne13 E_14 S_16 hk17 F18 F19 F21 F23 V27 V31 hk32 hk33) hZ (hw _ (gw 49 rfl)) (hw _ (gw 9 rfl)) (by decide) (by decide)) q34a q34c (g := (mkF m 18 #[.val (.ref a1), .val (.ref a2)] [(.ref a9), (.ref a6)])) rfl (by rw [hml]; rfl) (Steps.refl _) (argsL := [(.ref a9)]) (rest := []) (lenOf pd_14 rfl) rfl (by show 2 * 0 + _ ≤ _; exact Nat.le_of_eq rfl) (hb hby d7_18) (fun _ _ => ⟨rfl, e11, (by decide : 0 + 0 ≤ _), (by decide : 0 + 0 ≤ _)⟩)
  dsimp only [Pt.U, Pt.locs, Pt.cells, Pt.slots] at X34 l34 y34 z34 st34 hQ34
  subst l34 y34 z34
  obtain ⟨rfl, u36, u37⟩ := hQ34
  have N34 := Fr.app N0 u36
  obtain ⟨fs, hr, hrun, hended, hW, hsame⟩ := X34.leave (v := some (.int (0 : Int32))) (fun h => by rw [Bd.returns] at h; cases h)
  refine ⟨_, _, pre0 _ ?_, hrun, hended, _, _, rfl, ?_, ⟨_, rfl⟩, hW, hsame.mono (by decide) (by decide)⟩
  · show Steps p.tables e below (s₁.setTop (mkF m 0 #[.val (.ref a1), .val (.ref a2)] [])) _
    refine XS.aloadN X0.here hx rfl (hb hby d7_0) rfl rfl ?_
    refine st4 _ ?_
    refine XS.ifNo X4.here hx rfl (hb hby d7_4) rfl ((if0 _ _).trans (feq (by decide +kernel : ¬ ((1 : Int32) = (0 : Int32)))).1) ?_
    refine XS.aloadN X4.here hx rfl (hb hby d7_7) rfl rfl ?_
    refine st5 _ ?_
    refine st8 _ ?_
    refine XS.aloadN X8.here hx rfl (hb hby d7_14) rfl rfl ?_
    refine st11 _ ?_
    refine st34.trans ?_
    show Steps p.tables e below (T34.setTop (mkF m 21 #[.val (.ref a1), .val (.ref a2)] [(.int (0 : Int32))])) _
    refine XS.ifYes X34.here hx rfl (pc0 := 21) (pc' := 28) rfl (hb hby d7_21) rfl ((if0 _ _).trans (teq (by decide +kernel : (0 : Int32) = (0 : Int32))).1) (by decide) (by decide) ?_
    refine XS.iconst X34.here hx rfl (hb hby d7_28) ?_
    show Steps p.tables e below (T34.setTop (mkF m 29 #[.val (.ref a1), .val (.ref a2)] [(.int (0 : Int32))])) _
    exact retN X34 hx (t := .boolean) Bd.returns (by simp) (hb hby d7_29) hr
  · show Q7_51 Z _ _ _ _ _ _ _ _ _ _ _ _ _ h0 n0 _ T34.heap _
    rw [u37]
    exact ⟨rfl, N34, rfl⟩
theorem ef_rm17_56 (m : MethodId) (x0 : Addr) (x1 : Addr) : entryFrame m #[(.ref x0), (.ref x1)] 3 = mkF m 0 #[.val (.ref x0), .val (.ref x1), .unset] [] := by first | (simp [entryFrame, mkF, argsToLocals, Value.category]; done) | rfl
def Q17_56 (Z : State) (a1 : Addr) (a2 : Addr) (p3 : Int32) (p4 : Int32) (k5 : ClassId) (p8 : Int32) (p9 : Int32) (k10 : ClassId) (h0 : Heap) (n0 : Nat) (v : Option Value) (h : Heap) (L : List Loc) : Prop := (v = some (.int (0 : Int32)) ∧ Fr n0 L ∧ h = h0)
set_option maxRecDepth 65536 in
set_option maxHeartbeats 40000000 in
theorem rm17_56 (l : Launch) (Z : State) (a0 : Array Value) (hw : ∀ d ∈ own_ws, d.before a0 Z = true) (ws : List Jvm.Cond) (a1 : Addr) (a2 : Addr) (p3 : Int32) (p4 : Int32) (k5 : ClassId) (p8 : Int32) (p9 : Int32) (k10 : ClassId) (h0 : Heap) (n0 : Nat) (O0 : Old Z n0 h0) (V6 : Arv Z h0 a1 k5 .byte (2 : Int32) [(.int p3), (.int p4)] (.int (0 : Int32))) (V11 : Arv Z h0 a2 k10 .byte (2 : Int32) [(.int p8), (.int p9)] (.int (0 : Int32))) (hk16 : ¬ (p3 = p8)) :
    MetFree l M_13 (head1 (Jvm.Cond.code M_13 jdk_43_method_13_code 3 (some .boolean) :: ws) ({ frames := 0, cells := 0, slots := 0, locals := 0 } : Room)) (fun a U => a = #[(.ref a1), (.ref a2)] ∧ Z.Warmed39 U.vm ∧ U.heap = h0) (fun _ _ _ _ _ => True) (fun _ U o U' => ∃ v L, o = .returned v ∧ Q17_56 Z a1 a2 p3 p4 k5 p8 p9 k10 h0 n0 v U'.heap L ∧ FrameEnd U o U' L ({ frames := 0, cells := 0, slots := 0, locals := 0 } : Room).cells ({ frames := 0, cells := 0, slots := 0, locals := 0 } : Room).slots) := by
  refine MetFree.of_bodySF (plainFor_of_name pn_2) hisR ?_
  intro p e s m args below meth c s₁ Bd hml0 hP hK
  obtain ⟨rfl, hZ, hh⟩ := hP
  have hx := Bd.exec
  have hby := Bd.bytes
  have hml : c.maxLocals = 3 := hml0
  have hown : s.vm.findClass "java/lang/StringLatin1" = some m.cls := findClass_of_methodNamed Bd.named
  have hnm := (name_of_methodNamed Bd.named Bd.method).1
  have X0 : Stand p l e ({ frames := 0, cells := 0, slots := 0, locals := 0 } : Room) s m #[(.ref a1), (.ref a2)] below meth c s₁ [] 0 0 := Stand.of_body Bd
  have e0 : s₁.heap = h0 := by rw [← hh, Bd.state]; rfl
  have N0 := Fr.nil n0
  have pre0 : ∀ t, Steps p.tables e below (s₁.setTop (mkF m 0 #[.val (.ref a1), .val (.ref a2), .unset] [])) t → Steps p.tables e below (s₁.setTop (entryFrame m #[(.ref a1), (.ref a2)] 3)) t := fun t k => castTop (ef_rm17_56 m a1 a2) k
  obtain ⟨cl7, Ar7, -, Sz7, Nn7, -, -⟩ := id V6
  obtain ⟨cl12, Ar12, -, Sz12, Nn12, -, -⟩ := id V11
  obtain ⟨cl13, Ar13, -, Sz13, Nn13, -, -⟩ := id V6
  obtain ⟨cl14, Ar14, -, Sz14, -, Hh14, -⟩ := id V6
  have hin14 : ¬ ((0 : Int32) < 0 ∨ cl14.slots.size ≤ ((0 : Int32)).toNatClampNeg) := inb_of Sz14 ⟨by decide +kernel, by decide +kernel⟩
  have hat14 : cl14.slots[((0 : Int32)).toNatClampNeg]? = some (.int p3) := Has.at Hh14 hin14 rfl
  obtain ⟨cl15, Ar15, -, Sz15, -, Hh15, -⟩ := id V11
  have hin15 : ¬ ((0 : Int32) < 0 ∨ cl15.slots.size ≤ ((0 : Int32)).toNatClampNeg) := inb_of Sz15 ⟨by decide +kernel, by decide +kernel⟩
  have hat15 : cl15.slots[((0 : Int32)).toNatClampNeg]? = some (.int p8) := Has.at Hh15 hin15 rfl
  obtain ⟨fs, hr, hrun, hended, hW, hsame⟩ := X0.leave (v := some (.int (0 : Int32))) (fun h => by rw [Bd.returns] at h; cases h)
  refine ⟨_, _, pre0 _ ?_, hrun, hended, _, _, rfl, ?_, ⟨_, rfl⟩, hW, hsame.mono (by decide) (by decide)⟩
  · show Steps p.tables e below (s₁.setTop (mkF m 0 #[.val (.ref a1), .val (.ref a2), .unset] [])) _
    refine XS.aloadN X0.here hx rfl (hb hby d17_0) rfl rfl ?_
    refine X0.arraylength hx (by rw [e0]; exact Ar7.1) (State.isArrayOf_alike hZ.alike Ar7.2.1) (g := (mkF m 1 #[.val (.ref a1), .val (.ref a2), .unset] [(.ref a1)])) rfl rfl (hb hby d17_1) _ ?_
    rw [len_of Sz7 Nn7]
    refine XS.aloadN X0.here hx rfl (hb hby d17_2) rfl rfl ?_
    refine X0.arraylength hx (by rw [e0]; exact Ar12.1) (State.isArrayOf_alike hZ.alike Ar12.2.1) (g := (mkF m 3 #[.val (.ref a1), .val (.ref a2), .unset] [(.ref a2), (.int (2 : Int32))])) rfl rfl (hb hby d17_3) _ ?_
    rw [len_of Sz12 Nn12]
    refine XS.icmpNo X0.here hx rfl (hb hby d17_4) rfl (teq (by decide +kernel : (2 : Int32) = (2 : Int32))).2 ?_
    refine XS.iconst X0.here hx rfl (hb hby d17_7) ?_
    refine XS.istoreN X0.here hx rfl (hb hby d17_8) rfl (l' := #[.val (.ref a1), .val (.ref a2), .val (.int (0 : Int32))]) rfl ?_
    refine XS.iloadN X0.here hx rfl (hb hby d17_9) rfl ?_
    refine XS.aloadN X0.here hx rfl (hb hby d17_10) rfl rfl ?_
    show Steps p.tables e below (s₁.setTop (mkF m 11 #[.val (.ref a1), .val (.ref a2), .val (.int (0 : Int32))] [(.ref a1), (.int (0 : Int32))])) _
    refine X0.arraylength hx (by rw [e0]; exact Ar13.1) (State.isArrayOf_alike hZ.alike Ar13.2.1) (g := (mkF m 11 #[.val (.ref a1), .val (.ref a2), .val (.int (0 : Int32))] [(.ref a1), (.int (0 : Int32))])) rfl rfl (hb hby d17_11) _ ?_
    rw [len_of Sz13 Nn13]
    refine XS.icmpNo X0.here hx rfl (hb hby d17_12) rfl (tlt (by decide +kernel : (0 : Int32) < (2 : Int32))).2.1 ?_
    refine XS.aloadN X0.here hx rfl (hb hby d17_15) rfl rfl ?_
    refine XS.iloadN X0.here hx rfl (hb hby d17_16) rfl ?_
    refine X0.baloadBytes hx (j := (0 : Int32)) (v := (.int p3)) (by rw [e0]; exact Ar14.1) (State.isArrayOf_alike hZ.alike Ar14.2.1) Ar14.2.2 hin14 hat14 (g := (mkF m 17 #[.val (.ref a1), .val (.ref a2), .val (.int (0 : Int32))] [(.int (0 : Int32)), (.ref a1)])) rfl rfl (hb hby d17_17) _ ?_
    refine XS.aloadN X0.here hx rfl (hb hby d17_18) rfl rfl ?_
    refine XS.iloadN X0.here hx rfl (hb hby d17_19) rfl ?_
    refine X0.baloadBytes hx (j := (0 : Int32)) (v := (.int p8)) (by rw [e0]; exact Ar15.1) (State.isArrayOf_alike hZ.alike Ar15.2.1) Ar15.2.2 hin15 hat15 (g := (mkF m 20 #[.val (.ref a1), .val (.ref a2), .val (.int (0 : Int32))] [(.int (0 : Int32)), (.ref a2), (.int p3)])) rfl rfl (hb hby d17_20) _ ?_
    refine XS.icmpNo X0.here hx rfl (hb hby d17_21) rfl (feq hk16).1 ?_
    show Steps p.tables e below (s₁.setTop (mkF m 24 #[.val (.ref a1), .val (.ref a2), .val (.int (0 : Int32))] [])) _
    refine XS.iconst X0.here hx rfl (hb hby d17_24) ?_
    show Steps p.tables e below (s₁.setTop (mkF m 25 #[.val (.ref a1), .val (.ref a2), .val (.int (0 : Int32))] [(.int (0 : Int32))])) _
    exact retN X0 hx (t := .boolean) Bd.returns (by simp) (hb hby d17_25) hr
  · show Q17_56 Z _ _ _ _ _ _ _ _ h0 n0 _ s₁.heap _
    rw [e0]
    exact ⟨rfl, N0, rfl⟩
theorem ef_rm8_55 (m : MethodId) (x0 : Addr) (x1 : Addr) : entryFrame m #[(.ref x0), (.ref x1)] 3 = mkF m 0 #[.val (.ref x0), .val (.ref x1), .unset] [] := by first | (simp [entryFrame, mkF, argsToLocals, Value.category]; done) | rfl
def Q8_55 (Z : State) (a1 : Addr) (a2 : Addr) (p7 : Int32) (a15 : Addr) (a18 : Addr) (p21 : Int32) (p22 : Int32) (k23 : ClassId) (p25 : Int32) (p26 : Int32) (k27 : ClassId) (h0 : Heap) (n0 : Nat) (v : Option Value) (h : Heap) (L : List Loc) : Prop := (v = some (.int (0 : Int32)) ∧ Fr n0 L ∧ h = h0)
set_option maxRecDepth 65536 in
set_option maxHeartbeats 40000000 in
theorem rm8_55 (l : Launch) (Z : State) (a0 : Array Value) (hw : ∀ d ∈ own_ws, d.before a0 Z = true) (ws : List Jvm.Cond) (a1 : Addr) (a2 : Addr) (p7 : Int32) (a15 : Addr) (a18 : Addr) (p21 : Int32) (p22 : Int32) (k23 : ClassId) (p25 : Int32) (p26 : Int32) (k27 : ClassId) (h0 : Heap) (n0 : Nat) (O0 : Old Z n0 h0) (hne3 : a1 ≠ a2) (E_4 : Exa Z h0 a2 C_0) (S_8 : Sta Z Z.heap C_0 "COMPACT_STRINGS" "Z" (.int p7)) (hk10 : ¬ (p7 = (0 : Int32))) (F11 : Fld Z h0 a1 C_0 "coder" "B" (.int (0 : Int32))) (F13 : Fld Z h0 a2 C_0 "coder" "B" (.int (0 : Int32))) (F16 : Fld Z h0 a1 C_0 "value" "[B" (.ref a15)) (F19 : Fld Z h0 a2 C_0 "value" "[B" (.ref a18)) (V24 : Arv Z h0 a15 k23 .byte (2 : Int32) [(.int p21), (.int p22)] (.int (0 : Int32))) (V28 : Arv Z h0 a18 k27 .byte (2 : Int32) [(.int p25), (.int p26)] (.int (0 : Int32))) (hk29 : ¬ (p21 = p25)) :
    MetFree l M_14 (head1 (Jvm.Cond.code M_14 jdk_42_method_66_code 3 (some .boolean) :: ws) ({ frames := 1, cells := 0, slots := 0, locals := 14 } : Room)) (fun a U => a = #[(.ref a1), (.ref a2)] ∧ Z.Warmed39 U.vm ∧ U.heap = h0) (fun _ _ _ _ _ => True) (fun _ U o U' => ∃ v L, o = .returned v ∧ Q8_55 Z a1 a2 p7 a15 a18 p21 p22 k23 p25 p26 k27 h0 n0 v U'.heap L ∧ FrameEnd U o U' L ({ frames := 1, cells := 0, slots := 0, locals := 14 } : Room).cells ({ frames := 1, cells := 0, slots := 0, locals := 14 } : Room).slots) := by
  refine MetFree.of_bodySF (plainFor_of_name pn_1) hisR ?_
  intro p e s m args below meth c s₁ Bd hml0 hP hK
  obtain ⟨rfl, hZ, hh⟩ := hP
  have hx := Bd.exec
  have hby := Bd.bytes
  have hml : c.maxLocals = 3 := hml0
  have hown : s.vm.findClass "java/lang/String" = some m.cls := findClass_of_methodNamed Bd.named
  have hnm := (name_of_methodNamed Bd.named Bd.method).1
  have X0 : Stand p l e ({ frames := 1, cells := 0, slots := 0, locals := 14 } : Room) s m #[(.ref a1), (.ref a2)] below meth c s₁ [] 0 0 := Stand.of_body Bd
  have e0 : s₁.heap = h0 := by rw [← hh, Bd.state]; rfl
  have N0 := Fr.nil n0
  have pre0 : ∀ t, Steps p.tables e below (s₁.setTop (mkF m 0 #[.val (.ref a1), .val (.ref a2), .unset] [])) t → Steps p.tables e below (s₁.setTop (entryFrame m #[(.ref a1), (.ref a2)] 3)) t := fun t k => castTop (ef_rm8_55 m a1 a2) k
  obtain ⟨T5, X5, e5, st5⟩ := instY X0 hx hZ hown (hw _ (gw 60 rfl)) e0 (Ins.self E_4) (g := (mkF m 8 #[.val (.ref a1), .val (.ref a2), .unset] [(.ref a2)])) rfl rfl (hb hby d8_8)
  obtain ⟨T6, X6, e6, st6⟩ := castY X5 hx hZ hown (hw _ (gw 60 rfl)) e5 (Ins.self E_4) (g := (mkF m 15 #[.val (.ref a1), .val (.ref a2), .unset] [(.ref a2)])) rfl rfl (hb hby d8_15)
  obtain ⟨T9, X9, e9, st9⟩ := getS2 X6 hx hZ hown (host := "") (Or.inl (hw _ (gw 55 rfl))) Via.refl e6 (Sta.ext O0.2 S_8) (g := (mkF m 19 #[.val (.ref a1), .val (.ref a2), .val (.ref a2)] [])) rfl (hb hby d8_19)
  obtain ⟨T12, X12, e12, st12⟩ := getF X9 hx hZ hown (host := "") (Or.inl (hw _ (gw 28 rfl))) Via.refl e9 F11 (g := (mkF m 26 #[.val (.ref a1), .val (.ref a2), .val (.ref a2)] [(.ref a1)])) rfl rfl (hb hby d8_26)
  obtain ⟨T14, X14, e14, st14⟩ := getF X12 hx hZ hown (host := "") (Or.inl (hw _ (gw 28 rfl))) Via.refl e12 F13 (g := (mkF m 30 #[.val (.ref a1), .val (.ref a2), .val (.ref a2)] [(.ref a2), (.int (0 : Int32))])) rfl rfl (hb hby d8_30)
  obtain ⟨T17, X17, e17, st17⟩ := getF X14 hx hZ hown (host := "") (Or.inl (hw _ (gw 27 rfl))) Via.refl e14 F16 (g := (mkF m 37 #[.val (.ref a1), .val (.ref a2), .val (.ref a2)] [(.ref a1)])) rfl rfl (hb hby d8_37)
  obtain ⟨T20, X20, e20, st20⟩ := getF X17 hx hZ hown (host := "") (Or.inl (hw _ (gw 27 rfl))) Via.refl e17 F19 (g := (mkF m 41 #[.val (.ref a1), .val (.ref a2), .val (.ref a2)] [(.ref a2), (.ref a15)])) rfl rfl (hb hby d8_41)
  obtain ⟨_, _, ⟨T30, L30, k30, n30⟩, -, X30, ⟨Lc30, hQ30, l30, y30, z30⟩, st30⟩ := Jvm.LawKit.callS X20 hx (y := M_13) hown (mvT hZ (hw _ (gw 80 rfl))) (mvT hZ (hw _ (gw 81 rfl))) (mvT hZ (hw _ (gw 58 rfl))) (mvT hZ (hw _ (gw 82 rfl))) (by decide) (backOf (W := 0) (rm17_56 l Z a0 hw [] a15 a18 p21 p22 k23 p25 p26 k27 h0 n0  O0 V24 V28 hk29) hZ (hw _ (gw 82 rfl)) (hw _ (gw 58 rfl)) (by decide) (by decide)) (g := (mkF m 44 #[.val (.ref a1), .val (.ref a2), .val (.ref a2)] [(.ref a18), (.ref a15)])) rfl (by rw [hml]; rfl) (argsL := [(.ref a15), (.ref a18)]) (rest := []) (lenOf pd_13 rfl) rfl (by show 2 * 0 + _ ≤ _; exact Nat.le_of_eq rfl) (hb hby d8_44) (fun _ _ => ⟨rfl, e20, (by decide : 0 + 0 ≤ _), (by decide : 0 + 0 ≤ _)⟩)
  dsimp only [Pt.U, Pt.locs, Pt.cells, Pt.slots] at X30 l30 y30 z30 st30 hQ30
  subst l30 y30 z30
  obtain ⟨rfl, u32, u33⟩ := hQ30
  have N30 := Fr.app N0 u32
  obtain ⟨fs, hr, hrun, hended, hW, hsame⟩ := X30.leave (v := some (.int (0 : Int32))) (fun h => by rw [Bd.returns] at h; cases h)
  refine ⟨_, _, pre0 _ ?_, hrun, hended, _, _, rfl, ?_, ⟨_, rfl⟩, hW, hsame.mono (by decide) (by decide)⟩
  · show Steps p.tables e below (s₁.setTop (mkF m 0 #[.val (.ref a1), .val (.ref a2), .unset] [])) _
    refine XS.aloadN X0.here hx rfl (hb hby d8_0) rfl rfl ?_
    refine XS.aloadN X0.here hx rfl (hb hby d8_1) rfl rfl ?_
    refine Jvm.RoadKit.acmp (g := (mkF m 2 #[.val (.ref a1), .val (.ref a2), .unset] [(.ref a2), (.ref a1)])) X0 hx rfl rfl rfl (pc0 := 2) (pc' := 7) (same := false) rfl (hb hby d8_2) rfl (decide_eq_false fun q => hne3 (Value.ref.inj q)) (by decide) (by decide) ?_
    refine XS.aloadN X0.here hx rfl (hb hby d8_7) rfl rfl ?_
    refine st5 _ ?_
    refine XS.ifNo X5.here hx rfl (hb hby d8_11) rfl ((if0 _ _).trans (feq (by decide +kernel : ¬ ((1 : Int32) = (0 : Int32)))).1) ?_
    refine XS.aloadN X5.here hx rfl (hb hby d8_14) rfl rfl ?_
    refine st6 _ ?_
    refine XS.astoreN X6.here hx rfl (hb hby d8_18) rfl rfl (l' := #[.val (.ref a1), .val (.ref a2), .val (.ref a2)]) rfl ?_
    show Steps p.tables e below (T6.setTop (mkF m 19 #[.val (.ref a1), .val (.ref a2), .val (.ref a2)] [])) _
    refine st9 _ ?_
    refine XS.ifNo X9.here hx rfl (hb hby d8_22) rfl ((if0 _ _).trans (feq hk10).1) ?_
    refine XS.aloadN X9.here hx rfl (hb hby d8_25) rfl rfl ?_
    refine st12 _ ?_
    refine XS.aloadN X12.here hx rfl (hb hby d8_29) rfl rfl ?_
    refine st14 _ ?_
    refine XS.icmpNo X14.here hx rfl (hb hby d8_33) rfl (teq (by decide +kernel : (0 : Int32) = (0 : Int32))).2 ?_
    refine XS.aloadN X14.here hx rfl (hb hby d8_36) rfl rfl ?_
    refine st17 _ ?_
    show Steps p.tables e below (T17.setTop (mkF m 40 #[.val (.ref a1), .val (.ref a2), .val (.ref a2)] [(.ref a15)])) _
    refine XS.aloadN X17.here hx rfl (hb hby d8_40) rfl rfl ?_
    refine st20 _ ?_
    refine st30 _ ?_
    refine XS.ifYes X30.here hx rfl (pc0 := 47) (pc' := 54) rfl (hb hby d8_47) rfl ((if0 _ _).trans (teq (by decide +kernel : (0 : Int32) = (0 : Int32))).1) (by decide) (by decide) ?_
    refine XS.iconst X30.here hx rfl (hb hby d8_54) ?_
    show Steps p.tables e below (T30.setTop (mkF m 55 #[.val (.ref a1), .val (.ref a2), .val (.ref a2)] [(.int (0 : Int32))])) _
    exact retN X30 hx (t := .boolean) Bd.returns (by simp) (hb hby d8_55) hr
  · show Q8_55 Z _ _ _ _ _ _ _ _ _ _ _ h0 n0 _ T30.heap _
    rw [u33]
    exact ⟨rfl, N30, rfl⟩
theorem ef_rm7_54 (m : MethodId) (x0 : Addr) (x1 : Addr) : entryFrame m #[(.ref x0), (.ref x1)] 2 = mkF m 0 #[.val (.ref x0), .val (.ref x1)] [] := by first | (simp [entryFrame, mkF, argsToLocals, Value.category]; done) | rfl
def Q7_54 (Z : State) (a1 : Addr) (a2 : Addr) (a6 : Addr) (a9 : Addr) (p15 : Int32) (a20 : Addr) (a22 : Addr) (p24 : Int32) (p25 : Int32) (k26 : ClassId) (p28 : Int32) (p29 : Int32) (k30 : ClassId) (h0 : Heap) (n0 : Nat) (v : Option Value) (h : Heap) (L : List Loc) : Prop := (v = some (.int (0 : Int32)) ∧ Fr n0 L ∧ h = h0)
set_option maxRecDepth 65536 in
set_option maxHeartbeats 40000000 in
theorem rm7_54 (l : Launch) (Z : State) (a0 : Array Value) (hw : ∀ d ∈ own_ws, d.before a0 Z = true) (ws : List Jvm.Cond) (a1 : Addr) (a2 : Addr) (a6 : Addr) (a9 : Addr) (p15 : Int32) (a20 : Addr) (a22 : Addr) (p24 : Int32) (p25 : Int32) (k26 : ClassId) (p28 : Int32) (p29 : Int32) (k30 : ClassId) (h0 : Heap) (n0 : Nat) (O0 : Old Z n0 h0) (E_3 : Exa Z h0 a2 C_1) (F7 : Fld Z h0 a2 C_1 "written" C_2 (.ref a6)) (F10 : Fld Z h0 a1 C_1 "written" C_2 (.ref a9)) (E_12 : Exa Z h0 a6 C_0) (hne13 : a6 ≠ a9) (E_14 : Exa Z h0 a9 C_0) (S_16 : Sta Z Z.heap C_0 "COMPACT_STRINGS" "Z" (.int p15)) (hk17 : ¬ (p15 = (0 : Int32))) (F18 : Fld Z h0 a6 C_0 "coder" "B" (.int (0 : Int32))) (F19 : Fld Z h0 a9 C_0 "coder" "B" (.int (0 : Int32))) (F21 : Fld Z h0 a6 C_0 "value" "[B" (.ref a20)) (F23 : Fld Z h0 a9 C_0 "value" "[B" (.ref a22)) (V27 : Arv Z h0 a20 k26 .byte (2 : Int32) [(.int p24), (.int p25)] (.int (0 : Int32))) (V31 : Arv Z h0 a22 k30 .byte (2 : Int32) [(.int p28), (.int p29)] (.int (0 : Int32))) (hk32 : ¬ (p24 = p28)) :
    MetFree l M_15 (head1 (Jvm.Cond.code M_15 prog_67_method_3_code 2 (some .boolean) :: ws) ({ frames := 2, cells := 0, slots := 0, locals := 28 } : Room)) (fun a U => a = #[(.ref a1), (.ref a2)] ∧ Z.Warmed39 U.vm ∧ U.heap = h0) (fun _ _ _ _ _ => True) (fun _ U o U' => ∃ v L, o = .returned v ∧ Q7_54 Z a1 a2 a6 a9 p15 a20 a22 p24 p25 k26 p28 p29 k30 h0 n0 v U'.heap L ∧ FrameEnd U o U' L ({ frames := 2, cells := 0, slots := 0, locals := 28 } : Room).cells ({ frames := 2, cells := 0, slots := 0, locals := 28 } : Room).slots) := by
  refine MetFree.of_bodySF (plainFor_of_name pn_4) hisR ?_
  intro p e s m args below meth c s₁ Bd hml0 hP hK
  obtain ⟨rfl, hZ, hh⟩ := hP
  have hx := Bd.exec
  have hby := Bd.bytes
  have hml : c.maxLocals = 2 := hml0
  have hown : s.vm.findClass "com/example/vestry/vestry/JsonText$Numeral" = some m.cls := findClass_of_methodNamed Bd.named
  have hnm := (name_of_methodNamed Bd.named Bd.method).1
  have X0 : Stand p l e ({ frames := 2, cells := 0, slots := 0, locals := 28 } : Room) s m #[(.ref a1), (.ref a2)] below meth c s₁ [] 0 0 := Stand.of_body Bd
  have e0 : s₁.heap = h0 := by rw [← hh, Bd.state]; rfl
  have N0 := Fr.nil n0
  have pre0 : ∀ t, Steps p.tables e below (s₁.setTop (mkF m 0 #[.val (.ref a1), .val (.ref a2)] [])) t → Steps p.tables e below (s₁.setTop (entryFrame m #[(.ref a1), (.ref a2)] 2)) t := fun t k => castTop (ef_rm7_54 m a1 a2) k
  obtain ⟨T4, X4, e4, st4⟩ := instY X0 hx hZ hown (hw _ (gw 43 rfl)) e0 (Ins.self E_3) (g := (mkF m 1 #[.val (.ref a1), .val (.ref a2)] [(.ref a2)])) rfl rfl (hb hby d7_1)
  obtain ⟨T5, X5, e5, st5⟩ := castY X4 hx hZ hown (hw _ (gw 43 rfl)) e4 (Ins.self E_3) (g := (mkF m 8 #[.val (.ref a1), .val (.ref a2)] [(.ref a2)])) rfl rfl (hb hby d7_8)
  obtain ⟨T8, X8, e8, st8⟩ := getF X5 hx hZ hown (host := "") (Or.inl (hw _ (gw 36 rfl))) Via.refl e5 F7 (g := (mkF m 11 #[.val (.ref a1), .val (.ref a2)] [(.ref a2)])) rfl rfl (hb hby d7_11)
  obtain ⟨T11, X11, e11, st11⟩ := getF X8 hx hZ hown (host := "") (Or.inl (hw _ (gw 36 rfl))) Via.refl e8 F10 (g := (mkF m 15 #[.val (.ref a1), .val (.ref a2)] [(.ref a1), (.ref a6)])) rfl rfl (hb hby d7_15)
  obtain ⟨cq33, kq33, q33a, q33b, q33c⟩ := isOf hZ e11 E_12
  obtain ⟨_, _, ⟨T33, L33, k33, n33⟩, -, X33, ⟨Lc33, hQ33, l33, y33, z33⟩, st33⟩ := X11.virtualBack hx (y := M_14) (z := M_14) hown (mvT hZ (hw _ (gw 45 rfl))) (mvT hZ (hw _ (gw 46 rfl))) (notFace_of_selects (args := #[]) (mvT hZ (hw _ (gw 48 rfl)))) (mvT hZ (hw _ (gw 48 rfl))) (mvT hZ (hw _ (gw 47 rfl))) (by decide) (backOf (W := 0) (rm8_55 l Z a0 hw [] a6 a9 p15 a20 a22 p24 p25 k26 p28 p29 k30 h0 n0  O0 hne13 E_14 S_16 hk17 F18 F19 F21 F23 V27 V31 hk32) hZ (hw _ (gw 49 rfl)) (hw _ (gw 9 rfl)) (by decide) (by decide)) q33a q33c (g := (mkF m 18 #[.val (.ref a1), .val (.ref a2)] [(.ref a9), (.ref a6)])) rfl (by rw [hml]; rfl) (Steps.refl _) (argsL := [(.ref a9)]) (rest := []) (lenOf pd_14 rfl) rfl (by show 2 * 0 + _ ≤ _; exact Nat.le_of_eq rfl) (hb hby d7_18) (fun _ _ => ⟨rfl, e11, (by decide : 0 + 0 ≤ _), (by decide : 0 + 0 ≤ _)⟩)
  dsimp only [Pt.U, Pt.locs, Pt.cells, Pt.slots] at X33 l33 y33 z33 st33 hQ33
  subst l33 y33 z33
  obtain ⟨rfl, u35, u36⟩ := hQ33
  have N33 := Fr.app N0 u35
  obtain ⟨fs, hr, hrun, hended, hW, hsame⟩ := X33.leave (v := some (.int (0 : Int32))) (fun h => by rw [Bd.returns] at h; cases h)
  refine ⟨_, _, pre0 _ ?_, hrun, hended, _, _, rfl, ?_, ⟨_, rfl⟩, hW, hsame.mono (by decide) (by decide)⟩
  · show Steps p.tables e below (s₁.setTop (mkF m 0 #[.val (.ref a1), .val (.ref a2)] [])) _
    refine XS.aloadN X0.here hx rfl (hb hby d7_0) rfl rfl ?_
    refine st4 _ ?_
    refine XS.ifNo X4.here hx rfl (hb hby d7_4) rfl ((if0 _ _).trans (feq (by decide +kernel : ¬ ((1 : Int32) = (0 : Int32)))).1) ?_
    refine XS.aloadN X4.here hx rfl (hb hby d7_7) rfl rfl ?_
    refine st5 _ ?_
    refine st8 _ ?_
    refine XS.aloadN X8.here hx rfl (hb hby d7_14) rfl rfl ?_
    refine st11 _ ?_
    refine st33.trans ?_
    show Steps p.tables e below (T33.setTop (mkF m 21 #[.val (.ref a1), .val (.ref a2)] [(.int (0 : Int32))])) _
    refine XS.ifYes X33.here hx rfl (pc0 := 21) (pc' := 28) rfl (hb hby d7_21) rfl ((if0 _ _).trans (teq (by decide +kernel : (0 : Int32) = (0 : Int32))).1) (by decide) (by decide) ?_
    refine XS.iconst X33.here hx rfl (hb hby d7_28) ?_
    show Steps p.tables e below (T33.setTop (mkF m 29 #[.val (.ref a1), .val (.ref a2)] [(.int (0 : Int32))])) _
    exact retN X33 hx (t := .boolean) Bd.returns (by simp) (hb hby d7_29) hr
  · show Q7_54 Z _ _ _ _ _ _ _ _ _ _ _ _ _ h0 n0 _ T33.heap _
    rw [u36]
    exact ⟨rfl, N33, rfl⟩
theorem ef_rm0 (m : MethodId) (x0 : Int32) (x1 : Int32) (x2 : Int32) : entryFrame m #[(.int x0), (.int x1), (.int x2)] maxLocals = mkF m 0 #[.val (.int x0), .val (.int x1), .val (.int x2), .unset, .unset, .unset, .unset, .unset, .unset, .unset] [] := by first | (simp [entryFrame, mkF, argsToLocals, Value.category, maxLocals]; done) | rfl
def Q0 (Z : State) (p1 : Int32) (p2 : Int32) (p3 : Int32) (p11 : Int32) (h0 : Heap) (n0 : Nat) (v : Option Value) (h : Heap) (L : List Loc) : Prop := v = some (.int 1) ∧ Fr n0 L
set_option maxRecDepth 65536 in
set_option maxHeartbeats 40000000 in
theorem rm0 (l : Launch) (Z : State) (a0 : Array Value) (hw : ∀ d ∈ own_ws, d.before a0 Z = true) (ws : List Jvm.Cond) (p1 : Int32) (p2 : Int32) (p3 : Int32) (p11 : Int32) (h0 : Heap) (n0 : Nat) (O0 : Old Z n0 h0) (S_12 : Sta Z Z.heap C_0 "COMPACT_STRINGS" "Z" (.int p11)) (hk13 : ¬ (p11 = (0 : Int32))) :
    MetFree l x (head1 (Jvm.Cond.code x code maxLocals ret :: ws) room_1) (fun a U => a = #[(.int p1), (.int p2), (.int p3)] ∧ Z.Warmed39 U.vm ∧ U.heap = h0 ∧ CHv Z own_EL U.vm h0) (fun _ _ _ _ _ => True) (fun _ U o U' => ∃ v L, o = .returned v ∧ Q0 Z p1 p2 p3 p11 h0 n0 v U'.heap L ∧ ReturnedEndW U o U' L room_1.cells room_1.slots) := by
  refine MetFree.of_bodySF (plainFor_of_name pn_0) hisR ?_
  intro p e s m args below meth c s₁ Bd hml0 hP hK
  obtain ⟨rfl, hZ, hh, hCH⟩ := hP
  have hx := Bd.exec
  have hby := Bd.bytes
  have hml : c.maxLocals = 10 := hml0
  have hown : s.vm.findClass "com/example/vestry/vestry/NumeralEqualsPinLaw" = some m.cls := findClass_of_methodNamed Bd.named
  have hnm := (name_of_methodNamed Bd.named Bd.method).1
  have X0 : Stand p l e room_1 s m #[(.int p1), (.int p2), (.int p3)] below meth c s₁ [] 0 0 := Stand.of_body Bd
  have e0 : s₁.heap = h0 := by rw [← hh, Bd.state]; rfl
  have N0 := Fr.nil n0
  have Y0 : h0.size ≤ h0.size := Nat.le_refl _
  have hS0 : s.Since s.vm h0.size := (State.WarmedH.refl s).since _
  have CR0 : CHr Z own_EL s.vm h0 s.vm h0 := CHr.refl hCH
  have pre0 : ∀ t, Steps p.tables e below (s₁.setTop (mkF m 0 #[.val (.int p1), .val (.int p2), .val (.int p3), .unset, .unset, .unset, .unset, .unset, .unset, .unset] [])) t → Steps p.tables e below (s₁.setTop (entryFrame m #[(.int p1), (.int p2), (.int p3)] maxLocals)) t := fun t k => castTop (ef_rm0 m p1 p2 p3) k
  refine Classical.byContradiction fun hno => ?_
  obtain ⟨i4, hi4⟩ : ∃ z, z = (p3 &&& (4 : Int32)) := ⟨_, rfl⟩
  have pre5 : ∀ t, Steps p.tables e below (s₁.setTop (mkF m 3 #[.val (.int p1), .val (.int p2), .val (.int p3), .unset, .unset, .unset, .unset, .unset, .unset, .unset] [(.int i4)])) t → Steps p.tables e below (s₁.setTop (entryFrame m #[(.int p1), (.int p2), (.int p3)] maxLocals)) t := by
    intro t kt
    refine pre0 t ?_
    show Steps p.tables e below (s₁.setTop (mkF m 0 #[.val (.int p1), .val (.int p2), .val (.int p3), .unset, .unset, .unset, .unset, .unset, .unset, .unset] [])) _
    refine XS.iloadN X0.here hx rfl (hb hby at_0) rfl ?_
    refine XS.iconst X0.here hx rfl (hb hby at_1) ?_
    refine XS.iand X0.here hx rfl (hb hby at_2) rfl ?_
    show Steps p.tables e below (s₁.setTop (mkF m 3 #[.val (.int p1), .val (.int p2), .val (.int p3), .unset, .unset, .unset, .unset, .unset, .unset, .unset] [(.int (p3 &&& (4 : Int32)))])) _
    rw [← hi4]
    exact kt
  have join7 : ∀ (i8 : Int32), (∀ t, Steps p.tables e below (s₁.setTop (mkF m 11 #[.val (.int p1), .val (.int p2), .val (.int p3), .unset, .unset, .unset, .unset, .unset, .unset, .unset] [(.int i8)])) t → Steps p.tables e below (s₁.setTop (entryFrame m #[(.int p1), (.int p2), (.int p3)] maxLocals)) t) → False := by
    rintro i8 pre10
    have pre15 : ∀ t, Steps p.tables e below (s₁.setTop (mkF m 13 #[.val (.int p1), .val (.int p2), .val (.int p3), .val (.int i8), .unset, .unset, .unset, .unset, .unset, .unset] [(.int p1)])) t → Steps p.tables e below (s₁.setTop (entryFrame m #[(.int p1), (.int p2), (.int p3)] maxLocals)) t := by
      intro t kt
      refine pre10 t ?_
      show Steps p.tables e below (s₁.setTop (mkF m 11 #[.val (.int p1), .val (.int p2), .val (.int p3), .unset, .unset, .unset, .unset, .unset, .unset, .unset] [(.int i8)])) _
      refine XS.istoreN X0.here hx rfl (hb hby at_11) rfl (l' := #[.val (.int p1), .val (.int p2), .val (.int p3), .val (.int i8), .unset, .unset, .unset, .unset, .unset, .unset]) rfl ?_
      refine XS.iloadN X0.here hx rfl (hb hby at_12) rfl ?_
      show Steps p.tables e below (s₁.setTop (mkF m 13 #[.val (.int p1), .val (.int p2), .val (.int p3), .val (.int i8), .unset, .unset, .unset, .unset, .unset, .unset] [(.int p1)])) _
      exact kt
    obtain ⟨_, _, ⟨T14, L14, k14, n14⟩, -, X14, sn14, gr14, ⟨Lc14, hQ14, l14, y14, z14, cg14⟩, st14⟩ := callSS X0 hx (y := M_10) hown (mvT hZ (hw _ (gw 0 rfl))) (mvT hZ (hw _ (gw 1 rfl))) (mvT hZ (hw _ (gw 2 rfl))) (mvT hZ (hw _ (gw 3 rfl))) (by decide) (backOfSH (s := s) (vm0 := s.vm) (EL := own_EL) (W := 0) (rm1_2 l Z a0 hw [] p1 p11 h0 n0  O0 S_12 hk13) hZ (hw _ (gw 3 rfl)) (hw _ (gw 2 rfl)) (by decide) (by decide) (own_EW hw) CR0.1) (g := (mkF m 13 #[.val (.int p1), .val (.int p2), .val (.int p3), .val (.int i8), .unset, .unset, .unset, .unset, .unset, .unset] [(.int p1)])) rfl (by rw [hml]; rfl) (argsL := [(.int p1)]) (rest := []) (lenOf pd_10 rfl) rfl (by show 2 * 0 + _ ≤ _; exact Nat.le_of_eq rfl) (hb hby at_13) (fun _ _ => ⟨rfl, e0, (by decide : 0 + 6 ≤ _), (by decide : 0 + 12 ≤ _)⟩)
    dsimp only [Pt.U, Pt.locs, Pt.cells, Pt.slots] at X14 l14 y14 z14 st14 hQ14 sn14 gr14 cg14
    subst l14 y14 z14
    have gs14 : h0.size ≤ T14.heap.size := by have q := gr14; rw [e0] at q; exact q
    have hS14 : s.Since T14.vm T14.heap.size := hS0.trans sn14 (Nat.le_trans Y0 gs14)
    have hZ14 : Z.Warmed39 (s.setVm T14.vm).vm := State.Warmed39.trans (t := s) hZ sn14.1
    have hown14 : (s.setVm T14.vm).vm.findClass "com/example/vestry/vestry/NumeralEqualsPinLaw" = some m.cls := by rw [show (s.setVm T14.vm).vm = T14.vm from rfl, sn14.1.alike.findClass]; exact hown
    rcases hQ14 with ⟨i16, i17, b18, b19, k20, u21, u22, u23, rfl, u25, u26, u27, u28, Ku29, u30, u31, u32, u33⟩ | ⟨i34, i35, i36, i37, b38, b39, k40, u41, u42, u43, u44, u45, rfl, u47, u48, u49, u50, u51, u52, Ku53, u54, u55, u56, u57, u58⟩ | ⟨i59, i60, i61, i62, i63, i64, i65, b66, b67, k68, u69, u70, u71, u72, u73, u74, u75, u76, rfl, u78, u79, u80, u81, u82, u83, Ku84, u85, u86, u87, u88, u89⟩
    · skip
      have Ou29 : Old Z n0 T14.heap := O0.keep Ku29 all0
      have chu29 := cg14
      have CRu29 := CR0.trans chu29
      have g_b18 : n0 ≤ b18 := Nat.le_trans (own_z O0) u26
      have sz_b18 : h0.size ≤ b18 := Nat.le_trans (Nat.le_refl _) u26
      have N14 := Fr.app N0 u25
      have pre91 : ∀ t, Steps p.tables e below (T14.setTop (mkF m 19 #[.val (.int p1), .val (.int p2), .val (.int p3), .val (.int i8), .val (.ref b18), .unset, .unset, .unset, .unset, .unset] [(.int i8)])) t → Steps p.tables e below (s₁.setTop (entryFrame m #[(.int p1), (.int p2), (.int p3)] maxLocals)) t := by
        intro t kt
        refine pre15 t ?_
        refine st14.trans ?_
        show Steps p.tables e below (T14.setTop (mkF m 16 #[.val (.int p1), .val (.int p2), .val (.int p3), .val (.int i8), .unset, .unset, .unset, .unset, .unset, .unset] [(.ref b18)])) _
        refine XS.astore X14.here hx rfl (hb hby at_16) rfl rfl (l' := #[.val (.int p1), .val (.int p2), .val (.int p3), .val (.int i8), .val (.ref b18), .unset, .unset, .unset, .unset, .unset]) rfl ?_
        refine XS.iloadN X14.here hx rfl (hb hby at_18) rfl ?_
        show Steps p.tables e below (T14.setTop (mkF m 19 #[.val (.int p1), .val (.int p2), .val (.int p3), .val (.int i8), .val (.ref b18), .unset, .unset, .unset, .unset, .unset] [(.int i8)])) _
        exact kt
      obtain ⟨_, _, ⟨T90, L90, k90, n90⟩, -, X90, sn90, gr90, ⟨Lc90, hQ90, l90, y90, z90, cg90⟩, st90⟩ := callSS X14 hx (y := M_10) hown14 (mvT hZ14 (hw _ (gw 0 rfl))) (mvT hZ14 (hw _ (gw 1 rfl))) (mvT hZ14 (hw _ (gw 2 rfl))) (mvT hZ14 (hw _ (gw 3 rfl))) (by decide) (backOfSH (s := s) (vm0 := T14.vm) (EL := own_EL) (W := 0) (rm1_2 l Z a0 hw [] i8 p11 T14.heap n0  Ou29 S_12 hk13) hZ14 (hw _ (gw 3 rfl)) (hw _ (gw 2 rfl)) (by decide) (by decide) (own_EW hw) CRu29.1) (g := (mkF m 19 #[.val (.int p1), .val (.int p2), .val (.int p3), .val (.int i8), .val (.ref b18), .unset, .unset, .unset, .unset, .unset] [(.int i8)])) rfl (by rw [hml]; rfl) (argsL := [(.int i8)]) (rest := []) (lenOf pd_10 rfl) rfl (by show 2 * 0 + _ ≤ _; exact Nat.le_of_eq rfl) (hb hby at_19) (fun _ _ => ⟨rfl, rfl, (by decide : 6 + 6 ≤ _), (by decide : 12 + 12 ≤ _)⟩)
      dsimp only [Pt.U, Pt.locs, Pt.cells, Pt.slots] at X90 l90 y90 z90 st90 hQ90 sn90 gr90 cg90
      subst l90 y90 z90
      have gs90 : T14.heap.size ≤ T90.heap.size := gr90
      have hS90 : s.Since T90.vm T90.heap.size := hS14.trans sn90 (Nat.le_trans (Nat.le_refl _) gs90)
      have hZ90 : Z.Warmed39 (s.setVm T90.vm).vm := State.Warmed39.trans (t := (s.setVm T14.vm)) hZ14 sn90.1
      have hown90 : (s.setVm T90.vm).vm.findClass "com/example/vestry/vestry/NumeralEqualsPinLaw" = some m.cls := by rw [show (s.setVm T90.vm).vm = T90.vm from rfl, sn90.1.alike.findClass]; exact hown14
      rcases hQ90 with ⟨i92, i93, b94, b95, k96, u97, u98, u99, rfl, u101, u102, u103, u104, Ku105, u106, u107, u108, u109⟩ | ⟨i110, i111, i112, i113, b114, b115, k116, u117, u118, u119, u120, u121, rfl, u123, u124, u125, u126, u127, u128, Ku129, u130, u131, u132, u133, u134⟩ | ⟨i135, i136, i137, i138, i139, i140, i141, b142, b143, k144, u145, u146, u147, u148, u149, u150, u151, u152, rfl, u154, u155, u156, u157, u158, u159, Ku160, u161, u162, u163, u164, u165⟩
      · skip
        have Ou105 : Old Z n0 T90.heap := Ou29.keep Ku105 all0
        have chu105 := cg90
        have CRu105 := CRu29.trans chu105
        have g_b94 : n0 ≤ b94 := Nat.le_trans (own_z Ou29) u102
        have sz_b94 : h0.size ≤ b94 := Nat.le_trans Ku29.1 u102
        have N90 := Fr.app N14 u101
        obtain ⟨T166, h166, X166, e166, E166, A166, D166, -, st166⟩ := newO X90 hx hZ90 hown90 (hw _ (gw 29 rfl)) (hw _ (gw 30 rfl)) (hw _ (gw 31 rfl)) rfl (g := (mkF m 24 #[.val (.int p1), .val (.int p2), .val (.int p3), .val (.int i8), .val (.ref b18), .val (.ref b94), .unset, .unset, .unset, .unset] [])) rfl (hb hby at_24) (by decide) (by decide)
        obtain ⟨b166, g166⟩ : ∃ z, z = T90.heap.size := ⟨_, rfl⟩
        rw [← g166] at A166 D166 st166
        have O166 : Old Z n0 h166 := Ou105.ext E166
        have ch166 := CHr.ext E166 CRu105.1
        have CR166 := CRu105.trans ch166
        have bd_b166 : T90.heap.size ≤ b166 := Nat.le_of_eq g166.symm
        have g_b166 : n0 ≤ b166 := Nat.le_trans (own_z Ou105) bd_b166
        have sz_b166 : h0.size ≤ b166 := Nat.le_trans (Nat.le_trans Ku29.1 Ku105.1) bd_b166
        have lt_b166 : b166 < h166.size := A166.lt
        have sfb_b166 : Safe Z own_EL T90.vm h166 b166 := Safe.ext E166 CRu105.1 (Safe.new bd_b166)
        have D166_37 : Fld Z h166 b166 C_1 "written" C_2 .null := D166 (Or.inr (hw _ (gw 37 rfl))) (ty := (.object "java/lang/String")) (by decide)
        obtain ⟨_, _, ⟨T167, L167, k167, n167⟩, -, X167, ⟨Lc167, hQ167, l167, y167, z167⟩, st167⟩ := X166.specialBack hx (y := M_11) rfl hown90 (mvT hZ90 (hw _ (gw 32 rfl))) (mvT hZ90 (hw _ (gw 33 rfl))) (mvT hZ90 (hw _ (gw 34 rfl))) (by decide) (backOf (W := 1) (rm6_15 l Z a0 hw [] b166 b18 h166 n0  O166 A166 D166_37 g_b166) hZ90 (hw _ (gw 34 rfl)) (hw _ (gw 31 rfl)) (by decide) (by decide)) (g := (mkF m 30 #[.val (.int p1), .val (.int p2), .val (.int p3), .val (.int i8), .val (.ref b18), .val (.ref b94), .unset, .unset, .unset, .unset] [(.ref b18), (.ref b166), (.ref b166)])) rfl (by rw [hml]; rfl) (Steps.refl _) (a := b166) (argsL := [(.ref b18)]) (rest := [(.ref b166)]) (lenOf pd_11 rfl) rfl (by show 2 * 0 + _ ≤ _; exact Nat.le_of_eq rfl) (hb hby at_30) (fun _ _ => ⟨rfl, e166, (by decide : 13 + 0 ≤ _), (by decide : 25 + 0 ≤ _)⟩)
        dsimp only [Pt.U, Pt.locs, Pt.cells, Pt.slots] at X167 l167 y167 z167 st167 hQ167
        subst l167 y167 z167
        obtain ⟨rfl, u169, Ku170, u171, u172⟩ := hQ167
        have Ou170 : Old Z n0 T167.heap := O166.keep Ku170 (allS g_b166 all0)
        have chu170 := CHr.keep Ku170 (allS (Safe.exa hZ90.alike A166 (by decide) (by decide)) all0) CR166.1
        have CRu170 := CR166.trans chu170
        have N167 := Fr.app N90 u169
        obtain ⟨i173, hi173⟩ : ∃ z, z = (p3 &&& (3 : Int32)) := ⟨_, rfl⟩
        have pre174 : ∀ t, Steps p.tables e below (T167.setTop (mkF m 42 #[.val (.int p1), .val (.int p2), .val (.int p3), .val (.int i8), .val (.ref b18), .val (.ref b94), .val (.ref b166), .val (.int i173), .unset, .unset] [(.int i173)])) t → Steps p.tables e below (s₁.setTop (entryFrame m #[(.int p1), (.int p2), (.int p3)] maxLocals)) t := by
          intro t kt
          refine pre91 t ?_
          refine st90.trans ?_
          show Steps p.tables e below (T90.setTop (mkF m 22 #[.val (.int p1), .val (.int p2), .val (.int p3), .val (.int i8), .val (.ref b18), .unset, .unset, .unset, .unset, .unset] [(.ref b94)])) _
          refine XS.astore X90.here hx rfl (hb hby at_22) rfl rfl (l' := #[.val (.int p1), .val (.int p2), .val (.int p3), .val (.int i8), .val (.ref b18), .val (.ref b94), .unset, .unset, .unset, .unset]) rfl ?_
          refine st166 _ ?_
          refine XS.dup X166.here hx rfl (hb hby at_27) rfl rfl ?_
          refine XS.aload X166.here hx rfl (hb hby at_28) rfl rfl ?_
          refine st167.trans ?_
          refine XS.astore X167.here hx rfl (hb hby at_33) rfl rfl (l' := #[.val (.int p1), .val (.int p2), .val (.int p3), .val (.int i8), .val (.ref b18), .val (.ref b94), .val (.ref b166), .unset, .unset, .unset]) rfl ?_
          refine XS.iloadN X167.here hx rfl (hb hby at_35) rfl ?_
          refine XS.iconst X167.here hx rfl (hb hby at_36) ?_
          refine XS.iand X167.here hx rfl (hb hby at_37) rfl ?_
          show Steps p.tables e below (T167.setTop (mkF m 38 #[.val (.int p1), .val (.int p2), .val (.int p3), .val (.int i8), .val (.ref b18), .val (.ref b94), .val (.ref b166), .unset, .unset, .unset] [(.int (p3 &&& (3 : Int32)))])) _
          rw [← hi173]
          refine XS.istore X167.here hx rfl (hb hby at_38) rfl (l' := #[.val (.int p1), .val (.int p2), .val (.int p3), .val (.int i8), .val (.ref b18), .val (.ref b94), .val (.ref b166), .val (.int i173), .unset, .unset]) rfl ?_
          refine XS.iload X167.here hx rfl (hb hby at_40) rfl ?_
          exact kt
        by_cases hc175 : i173 = (0 : Int32)
        · skip
          subst hc175
          obtain ⟨T176, h176, X176, e176, E176, A176, D176, -, st176⟩ := newO X167 hx hZ90 hown90 (hw _ (gw 29 rfl)) (hw _ (gw 30 rfl)) (hw _ (gw 31 rfl)) rfl (g := (mkF m 45 #[.val (.int p1), .val (.int p2), .val (.int p3), .val (.int i8), .val (.ref b18), .val (.ref b94), .val (.ref b166), .val (.int (0 : Int32)), .unset, .unset] [])) rfl (hb hby at_45) (by decide) (by decide)
          obtain ⟨b176, g176⟩ : ∃ z, z = T167.heap.size := ⟨_, rfl⟩
          rw [← g176] at A176 D176 st176
          have O176 : Old Z n0 h176 := Ou170.ext E176
          have ch176 := CHr.ext E176 CRu170.1
          have CR176 := CRu170.trans ch176
          have bd_b176 : T167.heap.size ≤ b176 := Nat.le_of_eq g176.symm
          have g_b176 : n0 ≤ b176 := Nat.le_trans (own_z Ou170) bd_b176
          have sz_b176 : h0.size ≤ b176 := Nat.le_trans (Nat.le_trans (Nat.le_trans (Nat.le_trans Ku29.1 Ku105.1) E166.1) Ku170.1) bd_b176
          have lt_b176 : b176 < h176.size := A176.lt
          have sfb_b176 : Safe Z own_EL T90.vm h176 b176 := Safe.ext E176 CRu170.1 (Safe.new bd_b176)
          have D176_37 : Fld Z h176 b176 C_1 "written" C_2 .null := D176 (Or.inr (hw _ (gw 37 rfl))) (ty := (.object "java/lang/String")) (by decide)
          obtain ⟨_, _, ⟨T177, L177, k177, n177⟩, -, X177, ⟨Lc177, hQ177, l177, y177, z177⟩, st177⟩ := X176.specialBack hx (y := M_11) rfl hown90 (mvT hZ90 (hw _ (gw 32 rfl))) (mvT hZ90 (hw _ (gw 33 rfl))) (mvT hZ90 (hw _ (gw 34 rfl))) (by decide) (backOf (W := 1) (rm6_15 l Z a0 hw [] b176 b94 h176 n0  O176 A176 D176_37 g_b176) hZ90 (hw _ (gw 34 rfl)) (hw _ (gw 31 rfl)) (by decide) (by decide)) (g := (mkF m 51 #[.val (.int p1), .val (.int p2), .val (.int p3), .val (.int i8), .val (.ref b18), .val (.ref b94), .val (.ref b166), .val (.int (0 : Int32)), .unset, .unset] [(.ref b94), (.ref b176), (.ref b176)])) rfl (by rw [hml]; rfl) (Steps.refl _) (a := b176) (argsL := [(.ref b94)]) (rest := [(.ref b176)]) (lenOf pd_11 rfl) rfl (by show 2 * 0 + _ ≤ _; exact Nat.le_of_eq rfl) (hb hby at_51) (fun _ _ => ⟨rfl, e176, (by decide : 14 + 0 ≤ _), (by decide : 26 + 0 ≤ _)⟩)
          dsimp only [Pt.U, Pt.locs, Pt.cells, Pt.slots] at X177 l177 y177 z177 st177 hQ177
          subst l177 y177 z177
          obtain ⟨rfl, u179, Ku180, u181, u182⟩ := hQ177
          have Ou180 : Old Z n0 T177.heap := O176.keep Ku180 (allS g_b176 all0)
          have chu180 := CHr.keep Ku180 (allS (Safe.exa hZ90.alike A176 (by decide) (by decide)) all0) CR176.1
          have CRu180 := CR176.trans chu180
          have N177 := Fr.app N167 u179
          have pre184 : ∀ t, Steps p.tables e below (T177.setTop (mkF m 58 #[.val (.int p1), .val (.int p2), .val (.int p3), .val (.int i8), .val (.ref b18), .val (.ref b94), .val (.ref b166), .val (.int (0 : Int32)), .val (.ref b176), .unset] [(.int i8), (.int p1)])) t → Steps p.tables e below (s₁.setTop (entryFrame m #[(.int p1), (.int p2), (.int p3)] maxLocals)) t := by
            intro t kt
            refine pre174 t ?_
            show Steps p.tables e below (T167.setTop (mkF m 42 #[.val (.int p1), .val (.int p2), .val (.int p3), .val (.int i8), .val (.ref b18), .val (.ref b94), .val (.ref b166), .val (.int (0 : Int32)), .unset, .unset] [(.int (0 : Int32))])) _
            refine XS.ifNo X167.here hx rfl (hb hby at_42) rfl ((if0 _ _).trans (teq (by decide +kernel : (0 : Int32) = (0 : Int32))).2) ?_
            refine st176 _ ?_
            refine XS.dup X176.here hx rfl (hb hby at_48) rfl rfl ?_
            refine XS.aload X176.here hx rfl (hb hby at_49) rfl rfl ?_
            refine st177.trans ?_
            refine XS.astore X177.here hx rfl (hb hby at_54) rfl rfl (l' := #[.val (.int p1), .val (.int p2), .val (.int p3), .val (.int i8), .val (.ref b18), .val (.ref b94), .val (.ref b166), .val (.int (0 : Int32)), .val (.ref b176), .unset]) rfl ?_
            refine XS.iloadN X177.here hx rfl (hb hby at_56) rfl ?_
            refine XS.iloadN X177.here hx rfl (hb hby at_57) rfl ?_
            show Steps p.tables e below (T177.setTop (mkF m 58 #[.val (.int p1), .val (.int p2), .val (.int p3), .val (.int i8), .val (.ref b18), .val (.ref b94), .val (.ref b166), .val (.int (0 : Int32)), .val (.ref b176), .unset] [(.int i8), (.int p1)])) _
            exact kt
          obtain ⟨_, _, ⟨T183, L183, k183, n183⟩, -, X183, ⟨Lc183, hQ183, l183, y183, z183⟩, st183⟩ := Jvm.LawKit.callS X177 hx (y := M_12) hown90 (mvT hZ90 (hw _ (gw 77 rfl))) (mvT hZ90 (hw _ (gw 78 rfl))) (mvT hZ90 (hw _ (gw 2 rfl))) (mvT hZ90 (hw _ (gw 79 rfl))) (by decide) (backOf (W := 0) (rm16_16 l Z a0 hw [] p1 i8 T177.heap n0  Ou180) hZ90 (hw _ (gw 79 rfl)) (hw _ (gw 2 rfl)) (by decide) (by decide)) (g := (mkF m 58 #[.val (.int p1), .val (.int p2), .val (.int p3), .val (.int i8), .val (.ref b18), .val (.ref b94), .val (.ref b166), .val (.int (0 : Int32)), .val (.ref b176), .unset] [(.int i8), (.int p1)])) rfl (by rw [hml]; rfl) (argsL := [(.int p1), (.int i8)]) (rest := []) (lenOf pd_12 rfl) rfl (by show 2 * 0 + _ ≤ _; exact Nat.le_of_eq rfl) (hb hby at_58) (fun _ _ => ⟨rfl, rfl, (by decide : 14 + 0 ≤ _), (by decide : 26 + 0 ≤ _)⟩)
          dsimp only [Pt.U, Pt.locs, Pt.cells, Pt.slots] at X183 l183 y183 z183 st183 hQ183
          subst l183 y183 z183
          rcases hQ183 with ⟨i185, i186, i187, i188, u189, u190, u191, u192, u193, u194, rfl, u196, u197⟩ | ⟨i198, i199, i200, i201, u202, u203, u204, u205, u206, u207, rfl, u209, u210⟩ | ⟨i211, i212, i213, i214, u215, u216, u217, u218, u219, u220, rfl, u222, u223⟩ | ⟨i224, i225, i226, i227, u228, u229, u230, u231, u232, u233, rfl, u235, u236⟩ | ⟨i237, i238, i239, i240, i241, i242, u243, u244, u245, u246, u247, u248, u249, u250, u251, rfl, u253, u254⟩ | ⟨i255, i256, i257, i258, i259, i260, u261, u262, u263, u264, u265, u266, u267, u268, u269, rfl, u271, u272⟩ | ⟨i273, i274, i275, i276, u277, u278, u279, u280, u281, u282, rfl, u284, u285⟩ | ⟨i286, i287, i288, i289, u290, u291, u292, u293, u294, u295, rfl, u297, u298⟩ | ⟨i299, i300, i301, i302, u303, u304, u305, u306, u307, u308, rfl, u310, u311⟩ | ⟨i312, i313, i314, i315, i316, i317, i318, i319, i320, i321, u322, u323, u324, u325, u326, u327, u328, u329, u330, u331, u332, u333, u334, u335, rfl, u337, u338⟩ | ⟨i339, i340, i341, i342, i343, i344, i345, i346, i347, i348, u349, u350, u351, u352, u353, u354, u355, u356, u357, u358, u359, u360, u361, u362, rfl, u364, u365⟩ | ⟨i366, i367, i368, i369, i370, i371, u372, u373, u374, u375, u376, u377, u378, u379, u380, rfl, u382, u383⟩
          · skip
            have N183 := Fr.app N177 u196
            have pre384 : ∀ t, Steps p.tables e below (T183.setTop (mkF m 61 #[.val (.int p1), .val (.int p2), .val (.int p3), .val (.int i8), .val (.ref b18), .val (.ref b94), .val (.ref b166), .val (.int (0 : Int32)), .val (.ref b176), .unset] [(.int (1 : Int32))])) t → Steps p.tables e below (s₁.setTop (entryFrame m #[(.int p1), (.int p2), (.int p3)] maxLocals)) t := by
              intro t kt
              refine pre184 t ?_
              refine st183 _ ?_
              exact kt
            obtain rfl : i16 = i187 := (u193.trans u23.symm).symm
            obtain rfl : i17 = i188 := (u191.trans u22.symm).symm
            obtain rfl : i92 = i185 := (u194.trans u99.symm).symm
            obtain rfl : i93 = i186 := (u192.trans u98.symm).symm
            have f385 : Fld Z T177.heap b166 C_1 "written" C_2 (.ref b18) := ((Fld.ext E176 u172).keep Ku180 (ninS (Nat.ne_of_lt (Nat.lt_of_lt_of_le (Nat.lt_of_lt_of_le lt_b166 Ku170.1) bd_b176)) nin0))
            have f386 : Exa Z T177.heap b94 C_0 := ((Exa.ext E176 ((Exa.ext E166 u106).keep Ku170)).keep Ku180)
            have f387 : Exa Z T177.heap b18 C_0 := ((Exa.ext E176 ((Exa.ext E166 (u30.keep Ku105)).keep Ku170)).keep Ku180)
            have f388 : Fld Z T177.heap b94 C_0 "coder" "B" (.int (0 : Int32)) := ((Fld.ext E176 ((Fld.ext E166 u107).keep Ku170 (ninS (Nat.ne_of_lt (Nat.lt_of_lt_of_le u103 bd_b166)) nin0))).keep Ku180 (ninS (Nat.ne_of_lt (Nat.lt_of_lt_of_le (Nat.lt_of_lt_of_le (Nat.lt_of_lt_of_le u103 E166.1) Ku170.1) bd_b176)) nin0))
            have f389 : Fld Z T177.heap b18 C_0 "coder" "B" (.int (0 : Int32)) := ((Fld.ext E176 ((Fld.ext E166 (u31.keep Ku105 nin0)).keep Ku170 (ninS (Nat.ne_of_lt (Nat.lt_of_lt_of_le (Nat.lt_of_lt_of_le u27 Ku105.1) bd_b166)) nin0))).keep Ku180 (ninS (Nat.ne_of_lt (Nat.lt_of_lt_of_le (Nat.lt_of_lt_of_le (Nat.lt_of_lt_of_le (Nat.lt_of_lt_of_le u27 Ku105.1) E166.1) Ku170.1) bd_b176)) nin0))
            have f390 : Fld Z T177.heap b94 C_0 "value" "[B" (.ref b95) := ((Fld.ext E176 ((Fld.ext E166 u108).keep Ku170 (ninS (Nat.ne_of_lt (Nat.lt_of_lt_of_le u103 bd_b166)) nin0))).keep Ku180 (ninS (Nat.ne_of_lt (Nat.lt_of_lt_of_le (Nat.lt_of_lt_of_le (Nat.lt_of_lt_of_le u103 E166.1) Ku170.1) bd_b176)) nin0))
            have f391 : Fld Z T177.heap b18 C_0 "value" "[B" (.ref b19) := ((Fld.ext E176 ((Fld.ext E166 (u32.keep Ku105 nin0)).keep Ku170 (ninS (Nat.ne_of_lt (Nat.lt_of_lt_of_le (Nat.lt_of_lt_of_le u27 Ku105.1) bd_b166)) nin0))).keep Ku180 (ninS (Nat.ne_of_lt (Nat.lt_of_lt_of_le (Nat.lt_of_lt_of_le (Nat.lt_of_lt_of_le (Nat.lt_of_lt_of_le u27 Ku105.1) E166.1) Ku170.1) bd_b176)) nin0))
            have f392 : Arv Z T177.heap b95 k96 .byte (0 : Int32) [] (.int 0) := ((((u109.ext E166).keep Ku170 (ninS (Nat.ne_of_lt (Nat.lt_of_lt_of_le u104 bd_b166)) nin0)).ext E176).keep Ku180 (ninS (Nat.ne_of_lt (Nat.lt_of_lt_of_le (Nat.lt_of_lt_of_le (Nat.lt_of_lt_of_le u104 E166.1) Ku170.1) bd_b176)) nin0))
            have f393 : Arv Z T177.heap b19 k20 .byte (0 : Int32) [] (.int 0) := (((((u33.keep Ku105 nin0).ext E166).keep Ku170 (ninS (Nat.ne_of_lt (Nat.lt_of_lt_of_le (Nat.lt_of_lt_of_le u28 Ku105.1) bd_b166)) nin0)).ext E176).keep Ku180 (ninS (Nat.ne_of_lt (Nat.lt_of_lt_of_le (Nat.lt_of_lt_of_le (Nat.lt_of_lt_of_le (Nat.lt_of_lt_of_le u28 Ku105.1) E166.1) Ku170.1) bd_b176)) nin0))
            have f395 : Exa Z T177.heap b166 C_1 := ((Exa.ext E176 u171).keep Ku180)
            obtain ⟨cq394, kq394, q394a, q394b, q394c⟩ := isOf hZ90 u197 f395
            obtain ⟨_, _, ⟨T394, L394, k394, n394⟩, -, X394, ⟨Lc394, hQ394, l394, y394, z394⟩, st394⟩ := X183.virtualBack hx (y := M_15) (z := M_15) hown90 (mvT hZ90 (hw _ (gw 38 rfl))) (mvT hZ90 (hw _ (gw 39 rfl))) (notFace_of_selects (args := #[]) (mvT hZ90 (hw _ (gw 41 rfl)))) (mvT hZ90 (hw _ (gw 41 rfl))) (mvT hZ90 (hw _ (gw 40 rfl))) (by decide) (backOf (W := 0) (rm7_17 l Z a0 hw [] b166 b176 b94 b18 p11 b95 b19 k96 k20 T177.heap n0  Ou180 u181 u182 f385 f386 (Ne.symm (Nat.ne_of_lt (Nat.lt_of_lt_of_le u27 u102))) f387 S_12 hk13 f388 f389 f390 f391 f392 f393) hZ90 (hw _ (gw 42 rfl)) (hw _ (gw 31 rfl)) (by decide) (by decide)) q394a q394c (g := (mkF m 67 #[.val (.int p1), .val (.int p2), .val (.int p3), .val (.int i8), .val (.ref b18), .val (.ref b94), .val (.ref b166), .val (.int (0 : Int32)), .val (.ref b176), .val (.int (1 : Int32))] [(.ref b176), (.ref b166)])) rfl (by rw [hml]; rfl) (Steps.refl _) (argsL := [(.ref b176)]) (rest := []) (lenOf pd_14 rfl) rfl (by show 2 * 0 + _ ≤ _; exact Nat.le_of_eq rfl) (hb hby at_67) (fun _ _ => ⟨rfl, u197, (by decide : 14 + 0 ≤ _), (by decide : 26 + 0 ≤ _)⟩)
            dsimp only [Pt.U, Pt.locs, Pt.cells, Pt.slots] at X394 l394 y394 z394 st394 hQ394
            subst l394 y394 z394
            obtain ⟨rfl, u397, u398⟩ := hQ394
            have N394 := Fr.app N183 u397
            obtain ⟨cq399, kq399, q399a, q399b, q399c⟩ := isOf hZ90 u398 u181
            obtain ⟨_, _, ⟨T399, L399, k399, n399⟩, -, X399, ⟨Lc399, hQ399, l399, y399, z399⟩, st399⟩ := X394.virtualBack hx (y := M_15) (z := M_15) hown90 (mvT hZ90 (hw _ (gw 38 rfl))) (mvT hZ90 (hw _ (gw 39 rfl))) (notFace_of_selects (args := #[]) (mvT hZ90 (hw _ (gw 41 rfl)))) (mvT hZ90 (hw _ (gw 41 rfl))) (mvT hZ90 (hw _ (gw 40 rfl))) (by decide) (backOf (W := 0) (rm7_17 l Z a0 hw [] b176 b166 b18 b94 p11 b19 b95 k20 k96 T177.heap n0  Ou180 f395 f385 u182 f387 (Nat.ne_of_lt (Nat.lt_of_lt_of_le u27 u102)) f386 S_12 hk13 f389 f388 f391 f390 f393 f392) hZ90 (hw _ (gw 42 rfl)) (hw _ (gw 31 rfl)) (by decide) (by decide)) q399a q399c (g := (mkF m 79 #[.val (.int p1), .val (.int p2), .val (.int p3), .val (.int i8), .val (.ref b18), .val (.ref b94), .val (.ref b166), .val (.int (0 : Int32)), .val (.ref b176), .val (.int (1 : Int32))] [(.ref b166), (.ref b176)])) rfl (by rw [hml]; rfl) (Steps.refl _) (argsL := [(.ref b166)]) (rest := []) (lenOf pd_14 rfl) rfl (by show 2 * 0 + _ ≤ _; exact Nat.le_of_eq rfl) (hb hby at_79) (fun _ _ => ⟨rfl, u398, (by decide : 14 + 0 ≤ _), (by decide : 26 + 0 ≤ _)⟩)
            dsimp only [Pt.U, Pt.locs, Pt.cells, Pt.slots] at X399 l399 y399 z399 st399 hQ399
            subst l399 y399 z399
            obtain ⟨rfl, u401, u402⟩ := hQ399
            have N399 := Fr.app N394 u401
            obtain ⟨fs, hr, hrun, hended, hEnd⟩ := X399.leaveW (s := s) (vm₁ := T90.vm) hS90 (by rw [u402]; exact (Nat.le_trans (Nat.le_trans (Nat.le_trans (Nat.le_trans (Nat.le_refl _) E166.1) Ku170.1) E176.1) Ku180.1)) (v := some (.int (1 : Int32))) (fun h => by rw [Bd.returns] at h; cases h)
            refine hno ⟨_, _, pre384 _ ?_, hrun, hended, _, _, rfl, ?_, hEnd.1, hEnd.2.1, hEnd.2.2.1, hEnd.2.2.2.mono (by decide) (by decide)⟩
            · show Steps p.tables e below (T183.setTop (mkF m 61 #[.val (.int p1), .val (.int p2), .val (.int p3), .val (.int i8), .val (.ref b18), .val (.ref b94), .val (.ref b166), .val (.int (0 : Int32)), .val (.ref b176), .unset] [(.int (1 : Int32))])) _
              refine XS.istore X183.here hx rfl (hb hby at_61) rfl (l' := #[.val (.int p1), .val (.int p2), .val (.int p3), .val (.int i8), .val (.ref b18), .val (.ref b94), .val (.ref b166), .val (.int (0 : Int32)), .val (.ref b176), .val (.int (1 : Int32))]) rfl ?_
              refine XS.aload X183.here hx rfl (hb hby at_63) rfl rfl ?_
              refine XS.aload X183.here hx rfl (hb hby at_65) rfl rfl ?_
              refine st394.trans ?_
              refine XS.iload X394.here hx rfl (hb hby at_70) rfl ?_
              refine XS.icmpNo X394.here hx rfl (hb hby at_72) rfl (teq (by decide +kernel : (1 : Int32) = (1 : Int32))).2 ?_
              refine XS.aload X394.here hx rfl (hb hby at_75) rfl rfl ?_
              refine XS.aload X394.here hx rfl (hb hby at_77) rfl rfl ?_
              refine st399.trans ?_
              show Steps p.tables e below (T399.setTop (mkF m 82 #[.val (.int p1), .val (.int p2), .val (.int p3), .val (.int i8), .val (.ref b18), .val (.ref b94), .val (.ref b166), .val (.int (0 : Int32)), .val (.ref b176), .val (.int (1 : Int32))] [(.int (1 : Int32))])) _
              refine XS.iload X399.here hx rfl (hb hby at_82) rfl ?_
              refine XS.icmpNo X399.here hx rfl (hb hby at_84) rfl (teq (by decide +kernel : (1 : Int32) = (1 : Int32))).2 ?_
              refine XS.iconst X399.here hx rfl (hb hby at_87) ?_
              refine XS.goto X399.here hx rfl (pc0 := 88) (pc' := 92) rfl (hb hby at_88) (by decide) (by decide) ?_
              show Steps p.tables e below (T399.setTop (mkF m 92 #[.val (.int p1), .val (.int p2), .val (.int p3), .val (.int i8), .val (.ref b18), .val (.ref b94), .val (.ref b166), .val (.int (0 : Int32)), .val (.ref b176), .val (.int (1 : Int32))] [(.int (1 : Int32))])) _
              exact retN X399 hx (t := .boolean) Bd.returns (by simp) (hb hby at_92) hr
            · show Q0 Z _ _ _ _ h0 n0 _ T399.heap _
              rw [u402]
              exact ⟨rfl, N399⟩
          · skip
            have N183 := Fr.app N177 u209
            have pre403 : ∀ t, Steps p.tables e below (T183.setTop (mkF m 61 #[.val (.int p1), .val (.int p2), .val (.int p3), .val (.int i8), .val (.ref b18), .val (.ref b94), .val (.ref b166), .val (.int (0 : Int32)), .val (.ref b176), .unset] [(.int (0 : Int32))])) t → Steps p.tables e below (s₁.setTop (entryFrame m #[(.int p1), (.int p2), (.int p3)] maxLocals)) t := by
              intro t kt
              refine pre184 t ?_
              refine st183 _ ?_
              exact kt
            obtain rfl : i16 = i200 := (u206.trans u23.symm).symm
            obtain rfl : i17 = i201 := (u204.trans u22.symm).symm
            obtain rfl : i92 = i198 := (u207.trans u99.symm).symm
            obtain rfl : i93 = i199 := (u205.trans u98.symm).symm
            exact absurd (u203.trans u97.symm) (by decide +kernel)
          · skip
            have N183 := Fr.app N177 u222
            have pre404 : ∀ t, Steps p.tables e below (T183.setTop (mkF m 61 #[.val (.int p1), .val (.int p2), .val (.int p3), .val (.int i8), .val (.ref b18), .val (.ref b94), .val (.ref b166), .val (.int (0 : Int32)), .val (.ref b176), .unset] [(.int (0 : Int32))])) t → Steps p.tables e below (s₁.setTop (entryFrame m #[(.int p1), (.int p2), (.int p3)] maxLocals)) t := by
              intro t kt
              refine pre184 t ?_
              refine st183 _ ?_
              exact kt
            obtain rfl : i16 = i213 := (u219.trans u23.symm).symm
            obtain rfl : i17 = i214 := (u217.trans u22.symm).symm
            obtain rfl : i92 = i211 := (u220.trans u99.symm).symm
            obtain rfl : i93 = i212 := (u218.trans u98.symm).symm
            exact absurd (u216.trans u97.symm) (by decide +kernel)
          · skip
            have N183 := Fr.app N177 u235
            have pre405 : ∀ t, Steps p.tables e below (T183.setTop (mkF m 61 #[.val (.int p1), .val (.int p2), .val (.int p3), .val (.int i8), .val (.ref b18), .val (.ref b94), .val (.ref b166), .val (.int (0 : Int32)), .val (.ref b176), .unset] [(.int (0 : Int32))])) t → Steps p.tables e below (s₁.setTop (entryFrame m #[(.int p1), (.int p2), (.int p3)] maxLocals)) t := by
              intro t kt
              refine pre184 t ?_
              refine st183 _ ?_
              exact kt
            obtain rfl : i16 = i224 := (u232.trans u23.symm).symm
            obtain rfl : i17 = i225 := (u230.trans u22.symm).symm
            exact absurd (u228.trans u21.symm) (by decide +kernel)
          · skip
            have N183 := Fr.app N177 u253
            have pre406 : ∀ t, Steps p.tables e below (T183.setTop (mkF m 61 #[.val (.int p1), .val (.int p2), .val (.int p3), .val (.int i8), .val (.ref b18), .val (.ref b94), .val (.ref b166), .val (.int (0 : Int32)), .val (.ref b176), .unset] [(.int (1 : Int32))])) t → Steps p.tables e below (s₁.setTop (entryFrame m #[(.int p1), (.int p2), (.int p3)] maxLocals)) t := by
              intro t kt
              refine pre184 t ?_
              refine st183 _ ?_
              exact kt
            obtain rfl : i16 = i237 := (u249.trans u23.symm).symm
            obtain rfl : i17 = i238 := (u245.trans u22.symm).symm
            exact absurd (u243.trans u21.symm) (by decide +kernel)
          · skip
            have N183 := Fr.app N177 u271
            have pre407 : ∀ t, Steps p.tables e below (T183.setTop (mkF m 61 #[.val (.int p1), .val (.int p2), .val (.int p3), .val (.int i8), .val (.ref b18), .val (.ref b94), .val (.ref b166), .val (.int (0 : Int32)), .val (.ref b176), .unset] [(.int (0 : Int32))])) t → Steps p.tables e below (s₁.setTop (entryFrame m #[(.int p1), (.int p2), (.int p3)] maxLocals)) t := by
              intro t kt
              refine pre184 t ?_
              refine st183 _ ?_
              exact kt
            obtain rfl : i16 = i255 := (u267.trans u23.symm).symm
            obtain rfl : i17 = i256 := (u263.trans u22.symm).symm
            exact absurd (u261.trans u21.symm) (by decide +kernel)
          · skip
            have N183 := Fr.app N177 u284
            have pre408 : ∀ t, Steps p.tables e below (T183.setTop (mkF m 61 #[.val (.int p1), .val (.int p2), .val (.int p3), .val (.int i8), .val (.ref b18), .val (.ref b94), .val (.ref b166), .val (.int (0 : Int32)), .val (.ref b176), .unset] [(.int (0 : Int32))])) t → Steps p.tables e below (s₁.setTop (entryFrame m #[(.int p1), (.int p2), (.int p3)] maxLocals)) t := by
              intro t kt
              refine pre184 t ?_
              refine st183 _ ?_
              exact kt
            obtain rfl : i16 = i273 := (u281.trans u23.symm).symm
            obtain rfl : i17 = i274 := (u279.trans u22.symm).symm
            exact absurd (u277.trans u21.symm) (by decide +kernel)
          · skip
            have N183 := Fr.app N177 u297
            have pre409 : ∀ t, Steps p.tables e below (T183.setTop (mkF m 61 #[.val (.int p1), .val (.int p2), .val (.int p3), .val (.int i8), .val (.ref b18), .val (.ref b94), .val (.ref b166), .val (.int (0 : Int32)), .val (.ref b176), .unset] [(.int (0 : Int32))])) t → Steps p.tables e below (s₁.setTop (entryFrame m #[(.int p1), (.int p2), (.int p3)] maxLocals)) t := by
              intro t kt
              refine pre184 t ?_
              refine st183 _ ?_
              exact kt
            obtain rfl : i16 = i286 := (u294.trans u23.symm).symm
            obtain rfl : i17 = i287 := (u292.trans u22.symm).symm
            exact absurd (u290.trans u21.symm) (by decide +kernel)
          · skip
            have N183 := Fr.app N177 u310
            have pre410 : ∀ t, Steps p.tables e below (T183.setTop (mkF m 61 #[.val (.int p1), .val (.int p2), .val (.int p3), .val (.int i8), .val (.ref b18), .val (.ref b94), .val (.ref b166), .val (.int (0 : Int32)), .val (.ref b176), .unset] [(.int (0 : Int32))])) t → Steps p.tables e below (s₁.setTop (entryFrame m #[(.int p1), (.int p2), (.int p3)] maxLocals)) t := by
              intro t kt
              refine pre184 t ?_
              refine st183 _ ?_
              exact kt
            obtain rfl : i16 = i299 := (u307.trans u23.symm).symm
            obtain rfl : i17 = i300 := (u305.trans u22.symm).symm
            exact absurd (u303.trans u21.symm) (by decide +kernel)
          · skip
            have N183 := Fr.app N177 u337
            have pre411 : ∀ t, Steps p.tables e below (T183.setTop (mkF m 61 #[.val (.int p1), .val (.int p2), .val (.int p3), .val (.int i8), .val (.ref b18), .val (.ref b94), .val (.ref b166), .val (.int (0 : Int32)), .val (.ref b176), .unset] [(.int (1 : Int32))])) t → Steps p.tables e below (s₁.setTop (entryFrame m #[(.int p1), (.int p2), (.int p3)] maxLocals)) t := by
              intro t kt
              refine pre184 t ?_
              refine st183 _ ?_
              exact kt
            obtain rfl : i16 = i320 := (u330.trans u23.symm).symm
            obtain rfl : i17 = i321 := (u324.trans u22.symm).symm
            exact absurd (u322.trans u21.symm) (by decide +kernel)
          · skip
            have N183 := Fr.app N177 u364
            have pre412 : ∀ t, Steps p.tables e below (T183.setTop (mkF m 61 #[.val (.int p1), .val (.int p2), .val (.int p3), .val (.int i8), .val (.ref b18), .val (.ref b94), .val (.ref b166), .val (.int (0 : Int32)), .val (.ref b176), .unset] [(.int (0 : Int32))])) t → Steps p.tables e below (s₁.setTop (entryFrame m #[(.int p1), (.int p2), (.int p3)] maxLocals)) t := by
              intro t kt
              refine pre184 t ?_
              refine st183 _ ?_
              exact kt
            obtain rfl : i16 = i347 := (u357.trans u23.symm).symm
            obtain rfl : i17 = i348 := (u351.trans u22.symm).symm
            exact absurd (u349.trans u21.symm) (by decide +kernel)
          · skip
            have N183 := Fr.app N177 u382
            have pre413 : ∀ t, Steps p.tables e below (T183.setTop (mkF m 61 #[.val (.int p1), .val (.int p2), .val (.int p3), .val (.int i8), .val (.ref b18), .val (.ref b94), .val (.ref b166), .val (.int (0 : Int32)), .val (.ref b176), .unset] [(.int (0 : Int32))])) t → Steps p.tables e below (s₁.setTop (entryFrame m #[(.int p1), (.int p2), (.int p3)] maxLocals)) t := by
              intro t kt
              refine pre184 t ?_
              refine st183 _ ?_
              exact kt
            obtain rfl : i16 = i370 := (u378.trans u23.symm).symm
            obtain rfl : i17 = i371 := (u374.trans u22.symm).symm
            exact absurd (u372.trans u21.symm) (by decide +kernel)
        · skip
          have pre414 : ∀ t, Steps p.tables e below (T167.setTop (mkF m 96 #[.val (.int p1), .val (.int p2), .val (.int p3), .val (.int i8), .val (.ref b18), .val (.ref b94), .val (.ref b166), .val (.int i173), .unset, .unset] [(.int (1 : Int32)), (.int i173)])) t → Steps p.tables e below (s₁.setTop (entryFrame m #[(.int p1), (.int p2), (.int p3)] maxLocals)) t := by
            intro t kt
            refine pre174 t ?_
            show Steps p.tables e below (T167.setTop (mkF m 42 #[.val (.int p1), .val (.int p2), .val (.int p3), .val (.int i8), .val (.ref b18), .val (.ref b94), .val (.ref b166), .val (.int i173), .unset, .unset] [(.int i173)])) _
            refine XS.ifYes X167.here hx rfl (pc0 := 42) (pc' := 93) rfl (hb hby at_42) rfl ((if0 _ _).trans (feq hc175).2) (by decide) (by decide) ?_
            refine XS.iload X167.here hx rfl (hb hby at_93) rfl ?_
            refine XS.iconst X167.here hx rfl (hb hby at_95) ?_
            exact kt
          by_cases hc415 : i173 = (1 : Int32)
          · skip
            subst hc415
            have f416 : Exa Z T167.heap b94 C_0 := ((Exa.ext E166 u106).keep Ku170)
            obtain ⟨cq417, kq417, q417a, q417b, q417c⟩ := isOf hZ90 rfl u171
            obtain ⟨_, _, ⟨T417, L417, k417, n417⟩, -, X417, ⟨Lc417, hQ417, l417, y417, z417⟩, st417⟩ := X167.virtualBack hx (y := M_15) (z := M_15) hown90 (mvT hZ90 (hw _ (gw 38 rfl))) (mvT hZ90 (hw _ (gw 39 rfl))) (notFace_of_selects (args := #[]) (mvT hZ90 (hw _ (gw 41 rfl)))) (mvT hZ90 (hw _ (gw 41 rfl))) (mvT hZ90 (hw _ (gw 40 rfl))) (by decide) (backOf (W := 0) (rm7_20 l Z a0 hw [] b166 b94 T167.heap n0  Ou170 f416) hZ90 (hw _ (gw 42 rfl)) (hw _ (gw 31 rfl)) (by decide) (by decide)) q417a q417c (g := (mkF m 107 #[.val (.int p1), .val (.int p2), .val (.int p3), .val (.int i8), .val (.ref b18), .val (.ref b94), .val (.ref b166), .val (.int (1 : Int32)), .val (.ref b94), .unset] [(.ref b94), (.ref b166)])) rfl (by rw [hml]; rfl) (Steps.refl _) (argsL := [(.ref b94)]) (rest := []) (lenOf pd_14 rfl) rfl (by show 2 * 0 + _ ≤ _; exact Nat.le_of_eq rfl) (hb hby at_107) (fun _ _ => ⟨rfl, rfl, (by decide : 13 + 0 ≤ _), (by decide : 25 + 0 ≤ _)⟩)
            dsimp only [Pt.U, Pt.locs, Pt.cells, Pt.slots] at X417 l417 y417 z417 st417 hQ417
            subst l417 y417 z417
            obtain ⟨rfl, u419, u420⟩ := hQ417
            have N417 := Fr.app N167 u419
            obtain ⟨fs, hr, hrun, hended, hEnd⟩ := X417.leaveW (s := s) (vm₁ := T90.vm) hS90 (by rw [u420]; exact (Nat.le_trans (Nat.le_trans (Nat.le_refl _) E166.1) Ku170.1)) (v := some (.int (1 : Int32))) (fun h => by rw [Bd.returns] at h; cases h)
            refine hno ⟨_, _, pre414 _ ?_, hrun, hended, _, _, rfl, ?_, hEnd.1, hEnd.2.1, hEnd.2.2.1, hEnd.2.2.2.mono (by decide) (by decide)⟩
            · show Steps p.tables e below (T167.setTop (mkF m 96 #[.val (.int p1), .val (.int p2), .val (.int p3), .val (.int i8), .val (.ref b18), .val (.ref b94), .val (.ref b166), .val (.int (1 : Int32)), .unset, .unset] [(.int (1 : Int32)), (.int (1 : Int32))])) _
              refine XS.icmpNo X167.here hx rfl (hb hby at_96) rfl (teq (by decide +kernel : (1 : Int32) = (1 : Int32))).2 ?_
              refine XS.aload X167.here hx rfl (hb hby at_99) rfl rfl ?_
              refine XS.astore X167.here hx rfl (hb hby at_101) rfl rfl (l' := #[.val (.int p1), .val (.int p2), .val (.int p3), .val (.int i8), .val (.ref b18), .val (.ref b94), .val (.ref b166), .val (.int (1 : Int32)), .val (.ref b94), .unset]) rfl ?_
              refine XS.aload X167.here hx rfl (hb hby at_103) rfl rfl ?_
              refine XS.aload X167.here hx rfl (hb hby at_105) rfl rfl ?_
              refine st417.trans ?_
              refine XS.ifNo X417.here hx rfl (hb hby at_110) rfl ((if0 _ _).trans (teq (by decide +kernel : (0 : Int32) = (0 : Int32))).2) ?_
              refine XS.iconst X417.here hx rfl (hb hby at_113) ?_
              refine XS.goto X417.here hx rfl (pc0 := 114) (pc' := 118) rfl (hb hby at_114) (by decide) (by decide) ?_
              show Steps p.tables e below (T417.setTop (mkF m 118 #[.val (.int p1), .val (.int p2), .val (.int p3), .val (.int i8), .val (.ref b18), .val (.ref b94), .val (.ref b166), .val (.int (1 : Int32)), .val (.ref b94), .unset] [(.int (1 : Int32))])) _
              exact retN X417 hx (t := .boolean) Bd.returns (by simp) (hb hby at_118) hr
            · show Q0 Z _ _ _ _ h0 n0 _ T417.heap _
              rw [u420]
              exact ⟨rfl, N417⟩
          · skip
            have pre421 : ∀ t, Steps p.tables e below (T167.setTop (mkF m 122 #[.val (.int p1), .val (.int p2), .val (.int p3), .val (.int i8), .val (.ref b18), .val (.ref b94), .val (.ref b166), .val (.int i173), .unset, .unset] [(.int (2 : Int32)), (.int i173)])) t → Steps p.tables e below (s₁.setTop (entryFrame m #[(.int p1), (.int p2), (.int p3)] maxLocals)) t := by
              intro t kt
              refine pre414 t ?_
              show Steps p.tables e below (T167.setTop (mkF m 96 #[.val (.int p1), .val (.int p2), .val (.int p3), .val (.int i8), .val (.ref b18), .val (.ref b94), .val (.ref b166), .val (.int i173), .unset, .unset] [(.int (1 : Int32)), (.int i173)])) _
              refine XS.icmpYes X167.here hx rfl (pc0 := 96) (pc' := 119) rfl (hb hby at_96) rfl (feq hc415).2 (by decide) (by decide) ?_
              refine XS.iload X167.here hx rfl (hb hby at_119) rfl ?_
              refine XS.iconst X167.here hx rfl (hb hby at_121) ?_
              exact kt
            by_cases hc422 : i173 = (2 : Int32)
            · skip
              subst hc422
              obtain ⟨cq423, kq423, q423a, q423b, q423c⟩ := isOf hZ90 rfl u171
              obtain ⟨_, _, ⟨T423, L423, k423, n423⟩, -, X423, ⟨Lc423, hQ423, l423, y423, z423⟩, st423⟩ := X167.virtualBack hx (y := M_15) (z := M_15) hown90 (mvT hZ90 (hw _ (gw 38 rfl))) (mvT hZ90 (hw _ (gw 39 rfl))) (notFace_of_selects (args := #[]) (mvT hZ90 (hw _ (gw 41 rfl)))) (mvT hZ90 (hw _ (gw 41 rfl))) (mvT hZ90 (hw _ (gw 40 rfl))) (by decide) (backOf (W := 0) (rm7_21 l Z a0 hw [] b166 T167.heap n0  Ou170) hZ90 (hw _ (gw 42 rfl)) (hw _ (gw 31 rfl)) (by decide) (by decide)) q423a q423c (g := (mkF m 128 #[.val (.int p1), .val (.int p2), .val (.int p3), .val (.int i8), .val (.ref b18), .val (.ref b94), .val (.ref b166), .val (.int (2 : Int32)), .unset, .unset] [.null, (.ref b166)])) rfl (by rw [hml]; rfl) (Steps.refl _) (argsL := [.null]) (rest := []) (lenOf pd_14 rfl) rfl (by show 2 * 0 + _ ≤ _; exact Nat.le_of_eq rfl) (hb hby at_128) (fun _ _ => ⟨rfl, rfl, (by decide : 13 + 0 ≤ _), (by decide : 25 + 0 ≤ _)⟩)
              dsimp only [Pt.U, Pt.locs, Pt.cells, Pt.slots] at X423 l423 y423 z423 st423 hQ423
              subst l423 y423 z423
              obtain ⟨rfl, u425, u426⟩ := hQ423
              have N423 := Fr.app N167 u425
              obtain ⟨fs, hr, hrun, hended, hEnd⟩ := X423.leaveW (s := s) (vm₁ := T90.vm) hS90 (by rw [u426]; exact (Nat.le_trans (Nat.le_trans (Nat.le_refl _) E166.1) Ku170.1)) (v := some (.int (1 : Int32))) (fun h => by rw [Bd.returns] at h; cases h)
              refine hno ⟨_, _, pre421 _ ?_, hrun, hended, _, _, rfl, ?_, hEnd.1, hEnd.2.1, hEnd.2.2.1, hEnd.2.2.2.mono (by decide) (by decide)⟩
              · show Steps p.tables e below (T167.setTop (mkF m 122 #[.val (.int p1), .val (.int p2), .val (.int p3), .val (.int i8), .val (.ref b18), .val (.ref b94), .val (.ref b166), .val (.int (2 : Int32)), .unset, .unset] [(.int (2 : Int32)), (.int (2 : Int32))])) _
                refine XS.icmpNo X167.here hx rfl (hb hby at_122) rfl (teq (by decide +kernel : (2 : Int32) = (2 : Int32))).2 ?_
                refine XS.aload X167.here hx rfl (hb hby at_125) rfl rfl ?_
                refine XS.aconstNull X167.here hx rfl (hb hby at_127) ?_
                refine st423.trans ?_
                refine XS.ifNo X423.here hx rfl (hb hby at_131) rfl ((if0 _ _).trans (teq (by decide +kernel : (0 : Int32) = (0 : Int32))).2) ?_
                refine XS.iconst X423.here hx rfl (hb hby at_134) ?_
                refine XS.goto X423.here hx rfl (pc0 := 135) (pc' := 139) rfl (hb hby at_135) (by decide) (by decide) ?_
                show Steps p.tables e below (T423.setTop (mkF m 139 #[.val (.int p1), .val (.int p2), .val (.int p3), .val (.int i8), .val (.ref b18), .val (.ref b94), .val (.ref b166), .val (.int (2 : Int32)), .unset, .unset] [(.int (1 : Int32))])) _
                exact retN X423 hx (t := .boolean) Bd.returns (by simp) (hb hby at_139) hr
              · show Q0 Z _ _ _ _ h0 n0 _ T423.heap _
                rw [u426]
                exact ⟨rfl, N423⟩
            · skip
              have f427 : Exa Z T167.heap b18 C_0 := ((Exa.ext E166 (u30.keep Ku105)).keep Ku170)
              obtain ⟨cq428, kq428, q428a, q428b, q428c⟩ := isOf hZ90 rfl u171
              obtain ⟨_, _, ⟨T428, L428, k428, n428⟩, -, X428, ⟨Lc428, hQ428, l428, y428, z428⟩, st428⟩ := X167.virtualBack hx (y := M_15) (z := M_15) hown90 (mvT hZ90 (hw _ (gw 38 rfl))) (mvT hZ90 (hw _ (gw 39 rfl))) (notFace_of_selects (args := #[]) (mvT hZ90 (hw _ (gw 41 rfl)))) (mvT hZ90 (hw _ (gw 41 rfl))) (mvT hZ90 (hw _ (gw 40 rfl))) (by decide) (backOf (W := 0) (rm7_22 l Z a0 hw [] b166 b18 T167.heap n0  Ou170 u171 u172 f427) hZ90 (hw _ (gw 42 rfl)) (hw _ (gw 31 rfl)) (by decide) (by decide)) q428a q428c (g := (mkF m 148 #[.val (.int p1), .val (.int p2), .val (.int p3), .val (.int i8), .val (.ref b18), .val (.ref b94), .val (.ref b166), .val (.int i173), .val (.ref b166), .unset] [(.ref b166), (.ref b166)])) rfl (by rw [hml]; rfl) (Steps.refl _) (argsL := [(.ref b166)]) (rest := []) (lenOf pd_14 rfl) rfl (by show 2 * 0 + _ ≤ _; exact Nat.le_of_eq rfl) (hb hby at_148) (fun _ _ => ⟨rfl, rfl, (by decide : 13 + 0 ≤ _), (by decide : 25 + 0 ≤ _)⟩)
              dsimp only [Pt.U, Pt.locs, Pt.cells, Pt.slots] at X428 l428 y428 z428 st428 hQ428
              subst l428 y428 z428
              obtain ⟨rfl, u430, u431⟩ := hQ428
              have N428 := Fr.app N167 u430
              obtain ⟨fs, hr, hrun, hended, hEnd⟩ := X428.leaveW (s := s) (vm₁ := T90.vm) hS90 (by rw [u431]; exact (Nat.le_trans (Nat.le_trans (Nat.le_refl _) E166.1) Ku170.1)) (v := some (.int (1 : Int32))) (fun h => by rw [Bd.returns] at h; cases h)
              refine hno ⟨_, _, pre421 _ ?_, hrun, hended, _, _, rfl, ?_, hEnd.1, hEnd.2.1, hEnd.2.2.1, hEnd.2.2.2.mono (by decide) (by decide)⟩
              · show Steps p.tables e below (T167.setTop (mkF m 122 #[.val (.int p1), .val (.int p2), .val (.int p3), .val (.int i8), .val (.ref b18), .val (.ref b94), .val (.ref b166), .val (.int i173), .unset, .unset] [(.int (2 : Int32)), (.int i173)])) _
                refine XS.icmpYes X167.here hx rfl (pc0 := 122) (pc' := 140) rfl (hb hby at_122) rfl (feq hc422).2 (by decide) (by decide) ?_
                refine XS.aload X167.here hx rfl (hb hby at_140) rfl rfl ?_
                refine XS.astore X167.here hx rfl (hb hby at_142) rfl rfl (l' := #[.val (.int p1), .val (.int p2), .val (.int p3), .val (.int i8), .val (.ref b18), .val (.ref b94), .val (.ref b166), .val (.int i173), .val (.ref b166), .unset]) rfl ?_
                refine XS.aload X167.here hx rfl (hb hby at_144) rfl rfl ?_
                refine XS.aload X167.here hx rfl (hb hby at_146) rfl rfl ?_
                refine st428.trans ?_
                show Steps p.tables e below (T428.setTop (mkF m 151 #[.val (.int p1), .val (.int p2), .val (.int p3), .val (.int i8), .val (.ref b18), .val (.ref b94), .val (.ref b166), .val (.int i173), .val (.ref b166), .unset] [(.int (1 : Int32))])) _
                exact retN X428 hx (t := .boolean) Bd.returns (by simp) (hb hby at_151) hr
              · show Q0 Z _ _ _ _ h0 n0 _ T428.heap _
                rw [u431]
                exact ⟨rfl, N428⟩
      · skip
        have Ou129 : Old Z n0 T90.heap := Ou29.keep Ku129 all0
        have chu129 := cg90
        have CRu129 := CRu29.trans chu129
        have g_b114 : n0 ≤ b114 := Nat.le_trans (own_z Ou29) u124
        have sz_b114 : h0.size ≤ b114 := Nat.le_trans Ku29.1 u124
        have g_b115 : n0 ≤ b115 := Nat.le_trans (own_z Ou29) u126
        have sz_b115 : h0.size ≤ b115 := Nat.le_trans Ku29.1 u126
        have N90 := Fr.app N14 u123
        obtain ⟨T432, h432, X432, e432, E432, A432, D432, -, st432⟩ := newO X90 hx hZ90 hown90 (hw _ (gw 29 rfl)) (hw _ (gw 30 rfl)) (hw _ (gw 31 rfl)) rfl (g := (mkF m 24 #[.val (.int p1), .val (.int p2), .val (.int p3), .val (.int i8), .val (.ref b18), .val (.ref b114), .unset, .unset, .unset, .unset] [])) rfl (hb hby at_24) (by decide) (by decide)
        obtain ⟨b432, g432⟩ : ∃ z, z = T90.heap.size := ⟨_, rfl⟩
        rw [← g432] at A432 D432 st432
        have O432 : Old Z n0 h432 := Ou129.ext E432
        have ch432 := CHr.ext E432 CRu129.1
        have CR432 := CRu129.trans ch432
        have bd_b432 : T90.heap.size ≤ b432 := Nat.le_of_eq g432.symm
        have g_b432 : n0 ≤ b432 := Nat.le_trans (own_z Ou129) bd_b432
        have sz_b432 : h0.size ≤ b432 := Nat.le_trans (Nat.le_trans Ku29.1 Ku129.1) bd_b432
        have lt_b432 : b432 < h432.size := A432.lt
        have sfb_b432 : Safe Z own_EL T90.vm h432 b432 := Safe.ext E432 CRu129.1 (Safe.new bd_b432)
        have D432_37 : Fld Z h432 b432 C_1 "written" C_2 .null := D432 (Or.inr (hw _ (gw 37 rfl))) (ty := (.object "java/lang/String")) (by decide)
        obtain ⟨_, _, ⟨T433, L433, k433, n433⟩, -, X433, ⟨Lc433, hQ433, l433, y433, z433⟩, st433⟩ := X432.specialBack hx (y := M_11) rfl hown90 (mvT hZ90 (hw _ (gw 32 rfl))) (mvT hZ90 (hw _ (gw 33 rfl))) (mvT hZ90 (hw _ (gw 34 rfl))) (by decide) (backOf (W := 1) (rm6_15 l Z a0 hw [] b432 b18 h432 n0  O432 A432 D432_37 g_b432) hZ90 (hw _ (gw 34 rfl)) (hw _ (gw 31 rfl)) (by decide) (by decide)) (g := (mkF m 30 #[.val (.int p1), .val (.int p2), .val (.int p3), .val (.int i8), .val (.ref b18), .val (.ref b114), .unset, .unset, .unset, .unset] [(.ref b18), (.ref b432), (.ref b432)])) rfl (by rw [hml]; rfl) (Steps.refl _) (a := b432) (argsL := [(.ref b18)]) (rest := [(.ref b432)]) (lenOf pd_11 rfl) rfl (by show 2 * 0 + _ ≤ _; exact Nat.le_of_eq rfl) (hb hby at_30) (fun _ _ => ⟨rfl, e432, (by decide : 13 + 0 ≤ _), (by decide : 25 + 0 ≤ _)⟩)
        dsimp only [Pt.U, Pt.locs, Pt.cells, Pt.slots] at X433 l433 y433 z433 st433 hQ433
        subst l433 y433 z433
        obtain ⟨rfl, u435, Ku436, u437, u438⟩ := hQ433
        have Ou436 : Old Z n0 T433.heap := O432.keep Ku436 (allS g_b432 all0)
        have chu436 := CHr.keep Ku436 (allS (Safe.exa hZ90.alike A432 (by decide) (by decide)) all0) CR432.1
        have CRu436 := CR432.trans chu436
        have N433 := Fr.app N90 u435
        obtain ⟨i439, hi439⟩ : ∃ z, z = (p3 &&& (3 : Int32)) := ⟨_, rfl⟩
        have pre440 : ∀ t, Steps p.tables e below (T433.setTop (mkF m 42 #[.val (.int p1), .val (.int p2), .val (.int p3), .val (.int i8), .val (.ref b18), .val (.ref b114), .val (.ref b432), .val (.int i439), .unset, .unset] [(.int i439)])) t → Steps p.tables e below (s₁.setTop (entryFrame m #[(.int p1), (.int p2), (.int p3)] maxLocals)) t := by
          intro t kt
          refine pre91 t ?_
          refine st90.trans ?_
          show Steps p.tables e below (T90.setTop (mkF m 22 #[.val (.int p1), .val (.int p2), .val (.int p3), .val (.int i8), .val (.ref b18), .unset, .unset, .unset, .unset, .unset] [(.ref b114)])) _
          refine XS.astore X90.here hx rfl (hb hby at_22) rfl rfl (l' := #[.val (.int p1), .val (.int p2), .val (.int p3), .val (.int i8), .val (.ref b18), .val (.ref b114), .unset, .unset, .unset, .unset]) rfl ?_
          refine st432 _ ?_
          refine XS.dup X432.here hx rfl (hb hby at_27) rfl rfl ?_
          refine XS.aload X432.here hx rfl (hb hby at_28) rfl rfl ?_
          refine st433.trans ?_
          refine XS.astore X433.here hx rfl (hb hby at_33) rfl rfl (l' := #[.val (.int p1), .val (.int p2), .val (.int p3), .val (.int i8), .val (.ref b18), .val (.ref b114), .val (.ref b432), .unset, .unset, .unset]) rfl ?_
          refine XS.iloadN X433.here hx rfl (hb hby at_35) rfl ?_
          refine XS.iconst X433.here hx rfl (hb hby at_36) ?_
          refine XS.iand X433.here hx rfl (hb hby at_37) rfl ?_
          show Steps p.tables e below (T433.setTop (mkF m 38 #[.val (.int p1), .val (.int p2), .val (.int p3), .val (.int i8), .val (.ref b18), .val (.ref b114), .val (.ref b432), .unset, .unset, .unset] [(.int (p3 &&& (3 : Int32)))])) _
          rw [← hi439]
          refine XS.istore X433.here hx rfl (hb hby at_38) rfl (l' := #[.val (.int p1), .val (.int p2), .val (.int p3), .val (.int i8), .val (.ref b18), .val (.ref b114), .val (.ref b432), .val (.int i439), .unset, .unset]) rfl ?_
          refine XS.iload X433.here hx rfl (hb hby at_40) rfl ?_
          exact kt
        by_cases hc441 : i439 = (0 : Int32)
        · skip
          subst hc441
          obtain ⟨T442, h442, X442, e442, E442, A442, D442, -, st442⟩ := newO X433 hx hZ90 hown90 (hw _ (gw 29 rfl)) (hw _ (gw 30 rfl)) (hw _ (gw 31 rfl)) rfl (g := (mkF m 45 #[.val (.int p1), .val (.int p2), .val (.int p3), .val (.int i8), .val (.ref b18), .val (.ref b114), .val (.ref b432), .val (.int (0 : Int32)), .unset, .unset] [])) rfl (hb hby at_45) (by decide) (by decide)
          obtain ⟨b442, g442⟩ : ∃ z, z = T433.heap.size := ⟨_, rfl⟩
          rw [← g442] at A442 D442 st442
          have O442 : Old Z n0 h442 := Ou436.ext E442
          have ch442 := CHr.ext E442 CRu436.1
          have CR442 := CRu436.trans ch442
          have bd_b442 : T433.heap.size ≤ b442 := Nat.le_of_eq g442.symm
          have g_b442 : n0 ≤ b442 := Nat.le_trans (own_z Ou436) bd_b442
          have sz_b442 : h0.size ≤ b442 := Nat.le_trans (Nat.le_trans (Nat.le_trans (Nat.le_trans Ku29.1 Ku129.1) E432.1) Ku436.1) bd_b442
          have lt_b442 : b442 < h442.size := A442.lt
          have sfb_b442 : Safe Z own_EL T90.vm h442 b442 := Safe.ext E442 CRu436.1 (Safe.new bd_b442)
          have D442_37 : Fld Z h442 b442 C_1 "written" C_2 .null := D442 (Or.inr (hw _ (gw 37 rfl))) (ty := (.object "java/lang/String")) (by decide)
          obtain ⟨_, _, ⟨T443, L443, k443, n443⟩, -, X443, ⟨Lc443, hQ443, l443, y443, z443⟩, st443⟩ := X442.specialBack hx (y := M_11) rfl hown90 (mvT hZ90 (hw _ (gw 32 rfl))) (mvT hZ90 (hw _ (gw 33 rfl))) (mvT hZ90 (hw _ (gw 34 rfl))) (by decide) (backOf (W := 1) (rm6_15 l Z a0 hw [] b442 b114 h442 n0  O442 A442 D442_37 g_b442) hZ90 (hw _ (gw 34 rfl)) (hw _ (gw 31 rfl)) (by decide) (by decide)) (g := (mkF m 51 #[.val (.int p1), .val (.int p2), .val (.int p3), .val (.int i8), .val (.ref b18), .val (.ref b114), .val (.ref b432), .val (.int (0 : Int32)), .unset, .unset] [(.ref b114), (.ref b442), (.ref b442)])) rfl (by rw [hml]; rfl) (Steps.refl _) (a := b442) (argsL := [(.ref b114)]) (rest := [(.ref b442)]) (lenOf pd_11 rfl) rfl (by show 2 * 0 + _ ≤ _; exact Nat.le_of_eq rfl) (hb hby at_51) (fun _ _ => ⟨rfl, e442, (by decide : 14 + 0 ≤ _), (by decide : 26 + 0 ≤ _)⟩)
          dsimp only [Pt.U, Pt.locs, Pt.cells, Pt.slots] at X443 l443 y443 z443 st443 hQ443
          subst l443 y443 z443
          obtain ⟨rfl, u445, Ku446, u447, u448⟩ := hQ443
          have Ou446 : Old Z n0 T443.heap := O442.keep Ku446 (allS g_b442 all0)
          have chu446 := CHr.keep Ku446 (allS (Safe.exa hZ90.alike A442 (by decide) (by decide)) all0) CR442.1
          have CRu446 := CR442.trans chu446
          have N443 := Fr.app N433 u445
          have pre450 : ∀ t, Steps p.tables e below (T443.setTop (mkF m 58 #[.val (.int p1), .val (.int p2), .val (.int p3), .val (.int i8), .val (.ref b18), .val (.ref b114), .val (.ref b432), .val (.int (0 : Int32)), .val (.ref b442), .unset] [(.int i8), (.int p1)])) t → Steps p.tables e below (s₁.setTop (entryFrame m #[(.int p1), (.int p2), (.int p3)] maxLocals)) t := by
            intro t kt
            refine pre440 t ?_
            show Steps p.tables e below (T433.setTop (mkF m 42 #[.val (.int p1), .val (.int p2), .val (.int p3), .val (.int i8), .val (.ref b18), .val (.ref b114), .val (.ref b432), .val (.int (0 : Int32)), .unset, .unset] [(.int (0 : Int32))])) _
            refine XS.ifNo X433.here hx rfl (hb hby at_42) rfl ((if0 _ _).trans (teq (by decide +kernel : (0 : Int32) = (0 : Int32))).2) ?_
            refine st442 _ ?_
            refine XS.dup X442.here hx rfl (hb hby at_48) rfl rfl ?_
            refine XS.aload X442.here hx rfl (hb hby at_49) rfl rfl ?_
            refine st443.trans ?_
            refine XS.astore X443.here hx rfl (hb hby at_54) rfl rfl (l' := #[.val (.int p1), .val (.int p2), .val (.int p3), .val (.int i8), .val (.ref b18), .val (.ref b114), .val (.ref b432), .val (.int (0 : Int32)), .val (.ref b442), .unset]) rfl ?_
            refine XS.iloadN X443.here hx rfl (hb hby at_56) rfl ?_
            refine XS.iloadN X443.here hx rfl (hb hby at_57) rfl ?_
            show Steps p.tables e below (T443.setTop (mkF m 58 #[.val (.int p1), .val (.int p2), .val (.int p3), .val (.int i8), .val (.ref b18), .val (.ref b114), .val (.ref b432), .val (.int (0 : Int32)), .val (.ref b442), .unset] [(.int i8), (.int p1)])) _
            exact kt
          obtain ⟨_, _, ⟨T449, L449, k449, n449⟩, -, X449, ⟨Lc449, hQ449, l449, y449, z449⟩, st449⟩ := Jvm.LawKit.callS X443 hx (y := M_12) hown90 (mvT hZ90 (hw _ (gw 77 rfl))) (mvT hZ90 (hw _ (gw 78 rfl))) (mvT hZ90 (hw _ (gw 2 rfl))) (mvT hZ90 (hw _ (gw 79 rfl))) (by decide) (backOf (W := 0) (rm16_16 l Z a0 hw [] p1 i8 T443.heap n0  Ou446) hZ90 (hw _ (gw 79 rfl)) (hw _ (gw 2 rfl)) (by decide) (by decide)) (g := (mkF m 58 #[.val (.int p1), .val (.int p2), .val (.int p3), .val (.int i8), .val (.ref b18), .val (.ref b114), .val (.ref b432), .val (.int (0 : Int32)), .val (.ref b442), .unset] [(.int i8), (.int p1)])) rfl (by rw [hml]; rfl) (argsL := [(.int p1), (.int i8)]) (rest := []) (lenOf pd_12 rfl) rfl (by show 2 * 0 + _ ≤ _; exact Nat.le_of_eq rfl) (hb hby at_58) (fun _ _ => ⟨rfl, rfl, (by decide : 14 + 0 ≤ _), (by decide : 26 + 0 ≤ _)⟩)
          dsimp only [Pt.U, Pt.locs, Pt.cells, Pt.slots] at X449 l449 y449 z449 st449 hQ449
          subst l449 y449 z449
          rcases hQ449 with ⟨i451, i452, i453, i454, u455, u456, u457, u458, u459, u460, rfl, u462, u463⟩ | ⟨i464, i465, i466, i467, u468, u469, u470, u471, u472, u473, rfl, u475, u476⟩ | ⟨i477, i478, i479, i480, u481, u482, u483, u484, u485, u486, rfl, u488, u489⟩ | ⟨i490, i491, i492, i493, u494, u495, u496, u497, u498, u499, rfl, u501, u502⟩ | ⟨i503, i504, i505, i506, i507, i508, u509, u510, u511, u512, u513, u514, u515, u516, u517, rfl, u519, u520⟩ | ⟨i521, i522, i523, i524, i525, i526, u527, u528, u529, u530, u531, u532, u533, u534, u535, rfl, u537, u538⟩ | ⟨i539, i540, i541, i542, u543, u544, u545, u546, u547, u548, rfl, u550, u551⟩ | ⟨i552, i553, i554, i555, u556, u557, u558, u559, u560, u561, rfl, u563, u564⟩ | ⟨i565, i566, i567, i568, u569, u570, u571, u572, u573, u574, rfl, u576, u577⟩ | ⟨i578, i579, i580, i581, i582, i583, i584, i585, i586, i587, u588, u589, u590, u591, u592, u593, u594, u595, u596, u597, u598, u599, u600, u601, rfl, u603, u604⟩ | ⟨i605, i606, i607, i608, i609, i610, i611, i612, i613, i614, u615, u616, u617, u618, u619, u620, u621, u622, u623, u624, u625, u626, u627, u628, rfl, u630, u631⟩ | ⟨i632, i633, i634, i635, i636, i637, u638, u639, u640, u641, u642, u643, u644, u645, u646, rfl, u648, u649⟩
          · skip
            have N449 := Fr.app N443 u462
            have pre650 : ∀ t, Steps p.tables e below (T449.setTop (mkF m 61 #[.val (.int p1), .val (.int p2), .val (.int p3), .val (.int i8), .val (.ref b18), .val (.ref b114), .val (.ref b432), .val (.int (0 : Int32)), .val (.ref b442), .unset] [(.int (1 : Int32))])) t → Steps p.tables e below (s₁.setTop (entryFrame m #[(.int p1), (.int p2), (.int p3)] maxLocals)) t := by
              intro t kt
              refine pre450 t ?_
              refine st449 _ ?_
              exact kt
            obtain rfl : i16 = i453 := (u459.trans u23.symm).symm
            obtain rfl : i17 = i454 := (u457.trans u22.symm).symm
            obtain rfl : i110 = i451 := (u460.trans u121.symm).symm
            obtain rfl : i111 = i452 := (u458.trans u118.symm).symm
            exact absurd (u456.trans u117.symm) (by decide +kernel)
          · skip
            have N449 := Fr.app N443 u475
            have pre651 : ∀ t, Steps p.tables e below (T449.setTop (mkF m 61 #[.val (.int p1), .val (.int p2), .val (.int p3), .val (.int i8), .val (.ref b18), .val (.ref b114), .val (.ref b432), .val (.int (0 : Int32)), .val (.ref b442), .unset] [(.int (0 : Int32))])) t → Steps p.tables e below (s₁.setTop (entryFrame m #[(.int p1), (.int p2), (.int p3)] maxLocals)) t := by
              intro t kt
              refine pre450 t ?_
              refine st449 _ ?_
              exact kt
            obtain rfl : i16 = i466 := (u472.trans u23.symm).symm
            obtain rfl : i17 = i467 := (u470.trans u22.symm).symm
            obtain rfl : i110 = i464 := (u473.trans u121.symm).symm
            obtain rfl : i111 = i465 := (u471.trans u118.symm).symm
            have f652 : Fld Z T443.heap b432 C_1 "written" C_2 (.ref b18) := ((Fld.ext E442 u438).keep Ku446 (ninS (Nat.ne_of_lt (Nat.lt_of_lt_of_le (Nat.lt_of_lt_of_le lt_b432 Ku436.1) bd_b442)) nin0))
            have f653 : Exa Z T443.heap b114 C_0 := ((Exa.ext E442 ((Exa.ext E432 u130).keep Ku436)).keep Ku446)
            have f654 : Exa Z T443.heap b18 C_0 := ((Exa.ext E442 ((Exa.ext E432 (u30.keep Ku129)).keep Ku436)).keep Ku446)
            have f655 : Fld Z T443.heap b114 C_0 "coder" "B" (.int (0 : Int32)) := ((Fld.ext E442 ((Fld.ext E432 u131).keep Ku436 (ninS (Nat.ne_of_lt (Nat.lt_of_lt_of_le u125 bd_b432)) nin0))).keep Ku446 (ninS (Nat.ne_of_lt (Nat.lt_of_lt_of_le (Nat.lt_of_lt_of_le (Nat.lt_of_lt_of_le u125 E432.1) Ku436.1) bd_b442)) nin0))
            have f656 : Fld Z T443.heap b18 C_0 "coder" "B" (.int (0 : Int32)) := ((Fld.ext E442 ((Fld.ext E432 (u31.keep Ku129 nin0)).keep Ku436 (ninS (Nat.ne_of_lt (Nat.lt_of_lt_of_le (Nat.lt_of_lt_of_le u27 Ku129.1) bd_b432)) nin0))).keep Ku446 (ninS (Nat.ne_of_lt (Nat.lt_of_lt_of_le (Nat.lt_of_lt_of_le (Nat.lt_of_lt_of_le (Nat.lt_of_lt_of_le u27 Ku129.1) E432.1) Ku436.1) bd_b442)) nin0))
            have f657 : Fld Z T443.heap b114 C_0 "value" "[B" (.ref b115) := ((Fld.ext E442 ((Fld.ext E432 u132).keep Ku436 (ninS (Nat.ne_of_lt (Nat.lt_of_lt_of_le u125 bd_b432)) nin0))).keep Ku446 (ninS (Nat.ne_of_lt (Nat.lt_of_lt_of_le (Nat.lt_of_lt_of_le (Nat.lt_of_lt_of_le u125 E432.1) Ku436.1) bd_b442)) nin0))
            have f658 : Fld Z T443.heap b18 C_0 "value" "[B" (.ref b19) := ((Fld.ext E442 ((Fld.ext E432 (u32.keep Ku129 nin0)).keep Ku436 (ninS (Nat.ne_of_lt (Nat.lt_of_lt_of_le (Nat.lt_of_lt_of_le u27 Ku129.1) bd_b432)) nin0))).keep Ku446 (ninS (Nat.ne_of_lt (Nat.lt_of_lt_of_le (Nat.lt_of_lt_of_le (Nat.lt_of_lt_of_le (Nat.lt_of_lt_of_le u27 Ku129.1) E432.1) Ku436.1) bd_b442)) nin0))
            have f659 : Arv Z T443.heap b115 k116 .byte (1 : Int32) [(.int i113)] (.int (0 : Int32)) := ((((u134.ext E432).keep Ku436 (ninS (Nat.ne_of_lt (Nat.lt_of_lt_of_le u127 bd_b432)) nin0)).ext E442).keep Ku446 (ninS (Nat.ne_of_lt (Nat.lt_of_lt_of_le (Nat.lt_of_lt_of_le (Nat.lt_of_lt_of_le u127 E432.1) Ku436.1) bd_b442)) nin0))
            have f660 : Arv Z T443.heap b19 k20 .byte (0 : Int32) [] (.int 0) := (((((u33.keep Ku129 nin0).ext E432).keep Ku436 (ninS (Nat.ne_of_lt (Nat.lt_of_lt_of_le (Nat.lt_of_lt_of_le u28 Ku129.1) bd_b432)) nin0)).ext E442).keep Ku446 (ninS (Nat.ne_of_lt (Nat.lt_of_lt_of_le (Nat.lt_of_lt_of_le (Nat.lt_of_lt_of_le (Nat.lt_of_lt_of_le u28 Ku129.1) E432.1) Ku436.1) bd_b442)) nin0))
            have f662 : Exa Z T443.heap b432 C_1 := ((Exa.ext E442 u437).keep Ku446)
            obtain ⟨cq661, kq661, q661a, q661b, q661c⟩ := isOf hZ90 u476 f662
            obtain ⟨_, _, ⟨T661, L661, k661, n661⟩, -, X661, ⟨Lc661, hQ661, l661, y661, z661⟩, st661⟩ := X449.virtualBack hx (y := M_15) (z := M_15) hown90 (mvT hZ90 (hw _ (gw 38 rfl))) (mvT hZ90 (hw _ (gw 39 rfl))) (notFace_of_selects (args := #[]) (mvT hZ90 (hw _ (gw 41 rfl)))) (mvT hZ90 (hw _ (gw 41 rfl))) (mvT hZ90 (hw _ (gw 40 rfl))) (by decide) (backOf (W := 0) (rm7_24 l Z a0 hw [] b432 b442 b114 b18 p11 b115 b19 i113 k116 k20 T443.heap n0  Ou446 u447 u448 f652 f653 (Ne.symm (Nat.ne_of_lt (Nat.lt_of_lt_of_le u27 u124))) f654 S_12 hk13 f655 f656 f657 f658 f659 f660) hZ90 (hw _ (gw 42 rfl)) (hw _ (gw 31 rfl)) (by decide) (by decide)) q661a q661c (g := (mkF m 67 #[.val (.int p1), .val (.int p2), .val (.int p3), .val (.int i8), .val (.ref b18), .val (.ref b114), .val (.ref b432), .val (.int (0 : Int32)), .val (.ref b442), .val (.int (0 : Int32))] [(.ref b442), (.ref b432)])) rfl (by rw [hml]; rfl) (Steps.refl _) (argsL := [(.ref b442)]) (rest := []) (lenOf pd_14 rfl) rfl (by show 2 * 0 + _ ≤ _; exact Nat.le_of_eq rfl) (hb hby at_67) (fun _ _ => ⟨rfl, u476, (by decide : 14 + 0 ≤ _), (by decide : 26 + 0 ≤ _)⟩)
            dsimp only [Pt.U, Pt.locs, Pt.cells, Pt.slots] at X661 l661 y661 z661 st661 hQ661
            subst l661 y661 z661
            obtain ⟨rfl, u664, u665⟩ := hQ661
            have N661 := Fr.app N449 u664
            obtain ⟨cq666, kq666, q666a, q666b, q666c⟩ := isOf hZ90 u665 u447
            obtain ⟨_, _, ⟨T666, L666, k666, n666⟩, -, X666, ⟨Lc666, hQ666, l666, y666, z666⟩, st666⟩ := X661.virtualBack hx (y := M_15) (z := M_15) hown90 (mvT hZ90 (hw _ (gw 38 rfl))) (mvT hZ90 (hw _ (gw 39 rfl))) (notFace_of_selects (args := #[]) (mvT hZ90 (hw _ (gw 41 rfl)))) (mvT hZ90 (hw _ (gw 41 rfl))) (mvT hZ90 (hw _ (gw 40 rfl))) (by decide) (backOf (W := 0) (rm7_27 l Z a0 hw [] b442 b432 b18 b114 p11 b19 b115 k20 i113 k116 T443.heap n0  Ou446 f662 f652 u448 f654 (Nat.ne_of_lt (Nat.lt_of_lt_of_le u27 u124)) f653 S_12 hk13 f656 f655 f658 f657 f660 f659) hZ90 (hw _ (gw 42 rfl)) (hw _ (gw 31 rfl)) (by decide) (by decide)) q666a q666c (g := (mkF m 79 #[.val (.int p1), .val (.int p2), .val (.int p3), .val (.int i8), .val (.ref b18), .val (.ref b114), .val (.ref b432), .val (.int (0 : Int32)), .val (.ref b442), .val (.int (0 : Int32))] [(.ref b432), (.ref b442)])) rfl (by rw [hml]; rfl) (Steps.refl _) (argsL := [(.ref b432)]) (rest := []) (lenOf pd_14 rfl) rfl (by show 2 * 0 + _ ≤ _; exact Nat.le_of_eq rfl) (hb hby at_79) (fun _ _ => ⟨rfl, u665, (by decide : 14 + 0 ≤ _), (by decide : 26 + 0 ≤ _)⟩)
            dsimp only [Pt.U, Pt.locs, Pt.cells, Pt.slots] at X666 l666 y666 z666 st666 hQ666
            subst l666 y666 z666
            obtain ⟨rfl, u668, u669⟩ := hQ666
            have N666 := Fr.app N661 u668
            obtain ⟨fs, hr, hrun, hended, hEnd⟩ := X666.leaveW (s := s) (vm₁ := T90.vm) hS90 (by rw [u669]; exact (Nat.le_trans (Nat.le_trans (Nat.le_trans (Nat.le_trans (Nat.le_refl _) E432.1) Ku436.1) E442.1) Ku446.1)) (v := some (.int (1 : Int32))) (fun h => by rw [Bd.returns] at h; cases h)
            refine hno ⟨_, _, pre651 _ ?_, hrun, hended, _, _, rfl, ?_, hEnd.1, hEnd.2.1, hEnd.2.2.1, hEnd.2.2.2.mono (by decide) (by decide)⟩
            · show Steps p.tables e below (T449.setTop (mkF m 61 #[.val (.int p1), .val (.int p2), .val (.int p3), .val (.int i8), .val (.ref b18), .val (.ref b114), .val (.ref b432), .val (.int (0 : Int32)), .val (.ref b442), .unset] [(.int (0 : Int32))])) _
              refine XS.istore X449.here hx rfl (hb hby at_61) rfl (l' := #[.val (.int p1), .val (.int p2), .val (.int p3), .val (.int i8), .val (.ref b18), .val (.ref b114), .val (.ref b432), .val (.int (0 : Int32)), .val (.ref b442), .val (.int (0 : Int32))]) rfl ?_
              refine XS.aload X449.here hx rfl (hb hby at_63) rfl rfl ?_
              refine XS.aload X449.here hx rfl (hb hby at_65) rfl rfl ?_
              refine st661.trans ?_
              refine XS.iload X661.here hx rfl (hb hby at_70) rfl ?_
              refine XS.icmpNo X661.here hx rfl (hb hby at_72) rfl (teq (by decide +kernel : (0 : Int32) = (0 : Int32))).2 ?_
              refine XS.aload X661.here hx rfl (hb hby at_75) rfl rfl ?_
              refine XS.aload X661.here hx rfl (hb hby at_77) rfl rfl ?_
              refine st666.trans ?_
              show Steps p.tables e below (T666.setTop (mkF m 82 #[.val (.int p1), .val (.int p2), .val (.int p3), .val (.int i8), .val (.ref b18), .val (.ref b114), .val (.ref b432), .val (.int (0 : Int32)), .val (.ref b442), .val (.int (0 : Int32))] [(.int (0 : Int32))])) _
              refine XS.iload X666.here hx rfl (hb hby at_82) rfl ?_
              refine XS.icmpNo X666.here hx rfl (hb hby at_84) rfl (teq (by decide +kernel : (0 : Int32) = (0 : Int32))).2 ?_
              refine XS.iconst X666.here hx rfl (hb hby at_87) ?_
              refine XS.goto X666.here hx rfl (pc0 := 88) (pc' := 92) rfl (hb hby at_88) (by decide) (by decide) ?_
              show Steps p.tables e below (T666.setTop (mkF m 92 #[.val (.int p1), .val (.int p2), .val (.int p3), .val (.int i8), .val (.ref b18), .val (.ref b114), .val (.ref b432), .val (.int (0 : Int32)), .val (.ref b442), .val (.int (0 : Int32))] [(.int (1 : Int32))])) _
              exact retN X666 hx (t := .boolean) Bd.returns (by simp) (hb hby at_92) hr
            · show Q0 Z _ _ _ _ h0 n0 _ T666.heap _
              rw [u669]
              exact ⟨rfl, N666⟩
          · skip
            have N449 := Fr.app N443 u488
            have pre670 : ∀ t, Steps p.tables e below (T449.setTop (mkF m 61 #[.val (.int p1), .val (.int p2), .val (.int p3), .val (.int i8), .val (.ref b18), .val (.ref b114), .val (.ref b432), .val (.int (0 : Int32)), .val (.ref b442), .unset] [(.int (0 : Int32))])) t → Steps p.tables e below (s₁.setTop (entryFrame m #[(.int p1), (.int p2), (.int p3)] maxLocals)) t := by
              intro t kt
              refine pre450 t ?_
              refine st449 _ ?_
              exact kt
            obtain rfl : i16 = i479 := (u485.trans u23.symm).symm
            obtain rfl : i17 = i480 := (u483.trans u22.symm).symm
            obtain rfl : i110 = i477 := (u486.trans u121.symm).symm
            obtain rfl : i111 = i478 := (u484.trans u118.symm).symm
            exact absurd (u482.trans u117.symm) (by decide +kernel)
          · skip
            have N449 := Fr.app N443 u501
            have pre671 : ∀ t, Steps p.tables e below (T449.setTop (mkF m 61 #[.val (.int p1), .val (.int p2), .val (.int p3), .val (.int i8), .val (.ref b18), .val (.ref b114), .val (.ref b432), .val (.int (0 : Int32)), .val (.ref b442), .unset] [(.int (0 : Int32))])) t → Steps p.tables e below (s₁.setTop (entryFrame m #[(.int p1), (.int p2), (.int p3)] maxLocals)) t := by
              intro t kt
              refine pre450 t ?_
              refine st449 _ ?_
              exact kt
            obtain rfl : i16 = i490 := (u498.trans u23.symm).symm
            obtain rfl : i17 = i491 := (u496.trans u22.symm).symm
            exact absurd (u494.trans u21.symm) (by decide +kernel)
          · skip
            have N449 := Fr.app N443 u519
            have pre672 : ∀ t, Steps p.tables e below (T449.setTop (mkF m 61 #[.val (.int p1), .val (.int p2), .val (.int p3), .val (.int i8), .val (.ref b18), .val (.ref b114), .val (.ref b432), .val (.int (0 : Int32)), .val (.ref b442), .unset] [(.int (1 : Int32))])) t → Steps p.tables e below (s₁.setTop (entryFrame m #[(.int p1), (.int p2), (.int p3)] maxLocals)) t := by
              intro t kt
              refine pre450 t ?_
              refine st449 _ ?_
              exact kt
            obtain rfl : i112 = i508 := (u514.trans u120.symm).symm
            obtain rfl : i16 = i503 := (u515.trans u23.symm).symm
            obtain rfl : i17 = i504 := (u511.trans u22.symm).symm
            exact absurd (u509.trans u21.symm) (by decide +kernel)
          · skip
            have N449 := Fr.app N443 u537
            have pre673 : ∀ t, Steps p.tables e below (T449.setTop (mkF m 61 #[.val (.int p1), .val (.int p2), .val (.int p3), .val (.int i8), .val (.ref b18), .val (.ref b114), .val (.ref b432), .val (.int (0 : Int32)), .val (.ref b442), .unset] [(.int (0 : Int32))])) t → Steps p.tables e below (s₁.setTop (entryFrame m #[(.int p1), (.int p2), (.int p3)] maxLocals)) t := by
              intro t kt
              refine pre450 t ?_
              refine st449 _ ?_
              exact kt
            obtain rfl : i112 = i526 := (u532.trans u120.symm).symm
            obtain rfl : i16 = i521 := (u533.trans u23.symm).symm
            obtain rfl : i17 = i522 := (u529.trans u22.symm).symm
            exact absurd (u527.trans u21.symm) (by decide +kernel)
          · skip
            have N449 := Fr.app N443 u550
            have pre674 : ∀ t, Steps p.tables e below (T449.setTop (mkF m 61 #[.val (.int p1), .val (.int p2), .val (.int p3), .val (.int i8), .val (.ref b18), .val (.ref b114), .val (.ref b432), .val (.int (0 : Int32)), .val (.ref b442), .unset] [(.int (0 : Int32))])) t → Steps p.tables e below (s₁.setTop (entryFrame m #[(.int p1), (.int p2), (.int p3)] maxLocals)) t := by
              intro t kt
              refine pre450 t ?_
              refine st449 _ ?_
              exact kt
            obtain rfl : i16 = i539 := (u547.trans u23.symm).symm
            obtain rfl : i17 = i540 := (u545.trans u22.symm).symm
            exact absurd (u543.trans u21.symm) (by decide +kernel)
          · skip
            have N449 := Fr.app N443 u563
            have pre675 : ∀ t, Steps p.tables e below (T449.setTop (mkF m 61 #[.val (.int p1), .val (.int p2), .val (.int p3), .val (.int i8), .val (.ref b18), .val (.ref b114), .val (.ref b432), .val (.int (0 : Int32)), .val (.ref b442), .unset] [(.int (0 : Int32))])) t → Steps p.tables e below (s₁.setTop (entryFrame m #[(.int p1), (.int p2), (.int p3)] maxLocals)) t := by
              intro t kt
              refine pre450 t ?_
              refine st449 _ ?_
              exact kt
            obtain rfl : i16 = i552 := (u560.trans u23.symm).symm
            obtain rfl : i17 = i553 := (u558.trans u22.symm).symm
            exact absurd (u556.trans u21.symm) (by decide +kernel)
          · skip
            have N449 := Fr.app N443 u576
            have pre676 : ∀ t, Steps p.tables e below (T449.setTop (mkF m 61 #[.val (.int p1), .val (.int p2), .val (.int p3), .val (.int i8), .val (.ref b18), .val (.ref b114), .val (.ref b432), .val (.int (0 : Int32)), .val (.ref b442), .unset] [(.int (0 : Int32))])) t → Steps p.tables e below (s₁.setTop (entryFrame m #[(.int p1), (.int p2), (.int p3)] maxLocals)) t := by
              intro t kt
              refine pre450 t ?_
              refine st449 _ ?_
              exact kt
            obtain rfl : i16 = i565 := (u573.trans u23.symm).symm
            obtain rfl : i17 = i566 := (u571.trans u22.symm).symm
            exact absurd (u569.trans u21.symm) (by decide +kernel)
          · skip
            have N449 := Fr.app N443 u603
            have pre677 : ∀ t, Steps p.tables e below (T449.setTop (mkF m 61 #[.val (.int p1), .val (.int p2), .val (.int p3), .val (.int i8), .val (.ref b18), .val (.ref b114), .val (.ref b432), .val (.int (0 : Int32)), .val (.ref b442), .unset] [(.int (1 : Int32))])) t → Steps p.tables e below (s₁.setTop (entryFrame m #[(.int p1), (.int p2), (.int p3)] maxLocals)) t := by
              intro t kt
              refine pre450 t ?_
              refine st449 _ ?_
              exact kt
            obtain rfl : i112 = i581 := (u593.trans u120.symm).symm
            obtain rfl : i16 = i586 := (u596.trans u23.symm).symm
            obtain rfl : i17 = i587 := (u590.trans u22.symm).symm
            exact absurd (u588.trans u21.symm) (by decide +kernel)
          · skip
            have N449 := Fr.app N443 u630
            have pre678 : ∀ t, Steps p.tables e below (T449.setTop (mkF m 61 #[.val (.int p1), .val (.int p2), .val (.int p3), .val (.int i8), .val (.ref b18), .val (.ref b114), .val (.ref b432), .val (.int (0 : Int32)), .val (.ref b442), .unset] [(.int (0 : Int32))])) t → Steps p.tables e below (s₁.setTop (entryFrame m #[(.int p1), (.int p2), (.int p3)] maxLocals)) t := by
              intro t kt
              refine pre450 t ?_
              refine st449 _ ?_
              exact kt
            obtain rfl : i112 = i608 := (u620.trans u120.symm).symm
            obtain rfl : i16 = i613 := (u623.trans u23.symm).symm
            obtain rfl : i17 = i614 := (u617.trans u22.symm).symm
            exact absurd (u615.trans u21.symm) (by decide +kernel)
          · skip
            have N449 := Fr.app N443 u648
            have pre679 : ∀ t, Steps p.tables e below (T449.setTop (mkF m 61 #[.val (.int p1), .val (.int p2), .val (.int p3), .val (.int i8), .val (.ref b18), .val (.ref b114), .val (.ref b432), .val (.int (0 : Int32)), .val (.ref b442), .unset] [(.int (0 : Int32))])) t → Steps p.tables e below (s₁.setTop (entryFrame m #[(.int p1), (.int p2), (.int p3)] maxLocals)) t := by
              intro t kt
              refine pre450 t ?_
              refine st449 _ ?_
              exact kt
            obtain rfl : i112 = i635 := (u643.trans u120.symm).symm
            obtain rfl : i16 = i636 := (u644.trans u23.symm).symm
            obtain rfl : i17 = i637 := (u640.trans u22.symm).symm
            exact absurd (u638.trans u21.symm) (by decide +kernel)
        · skip
          have pre680 : ∀ t, Steps p.tables e below (T433.setTop (mkF m 96 #[.val (.int p1), .val (.int p2), .val (.int p3), .val (.int i8), .val (.ref b18), .val (.ref b114), .val (.ref b432), .val (.int i439), .unset, .unset] [(.int (1 : Int32)), (.int i439)])) t → Steps p.tables e below (s₁.setTop (entryFrame m #[(.int p1), (.int p2), (.int p3)] maxLocals)) t := by
            intro t kt
            refine pre440 t ?_
            show Steps p.tables e below (T433.setTop (mkF m 42 #[.val (.int p1), .val (.int p2), .val (.int p3), .val (.int i8), .val (.ref b18), .val (.ref b114), .val (.ref b432), .val (.int i439), .unset, .unset] [(.int i439)])) _
            refine XS.ifYes X433.here hx rfl (pc0 := 42) (pc' := 93) rfl (hb hby at_42) rfl ((if0 _ _).trans (feq hc441).2) (by decide) (by decide) ?_
            refine XS.iload X433.here hx rfl (hb hby at_93) rfl ?_
            refine XS.iconst X433.here hx rfl (hb hby at_95) ?_
            exact kt
          by_cases hc681 : i439 = (1 : Int32)
          · skip
            subst hc681
            have f682 : Exa Z T433.heap b114 C_0 := ((Exa.ext E432 u130).keep Ku436)
            obtain ⟨cq683, kq683, q683a, q683b, q683c⟩ := isOf hZ90 rfl u437
            obtain ⟨_, _, ⟨T683, L683, k683, n683⟩, -, X683, ⟨Lc683, hQ683, l683, y683, z683⟩, st683⟩ := X433.virtualBack hx (y := M_15) (z := M_15) hown90 (mvT hZ90 (hw _ (gw 38 rfl))) (mvT hZ90 (hw _ (gw 39 rfl))) (notFace_of_selects (args := #[]) (mvT hZ90 (hw _ (gw 41 rfl)))) (mvT hZ90 (hw _ (gw 41 rfl))) (mvT hZ90 (hw _ (gw 40 rfl))) (by decide) (backOf (W := 0) (rm7_20 l Z a0 hw [] b432 b114 T433.heap n0  Ou436 f682) hZ90 (hw _ (gw 42 rfl)) (hw _ (gw 31 rfl)) (by decide) (by decide)) q683a q683c (g := (mkF m 107 #[.val (.int p1), .val (.int p2), .val (.int p3), .val (.int i8), .val (.ref b18), .val (.ref b114), .val (.ref b432), .val (.int (1 : Int32)), .val (.ref b114), .unset] [(.ref b114), (.ref b432)])) rfl (by rw [hml]; rfl) (Steps.refl _) (argsL := [(.ref b114)]) (rest := []) (lenOf pd_14 rfl) rfl (by show 2 * 0 + _ ≤ _; exact Nat.le_of_eq rfl) (hb hby at_107) (fun _ _ => ⟨rfl, rfl, (by decide : 13 + 0 ≤ _), (by decide : 25 + 0 ≤ _)⟩)
            dsimp only [Pt.U, Pt.locs, Pt.cells, Pt.slots] at X683 l683 y683 z683 st683 hQ683
            subst l683 y683 z683
            obtain ⟨rfl, u685, u686⟩ := hQ683
            have N683 := Fr.app N433 u685
            obtain ⟨fs, hr, hrun, hended, hEnd⟩ := X683.leaveW (s := s) (vm₁ := T90.vm) hS90 (by rw [u686]; exact (Nat.le_trans (Nat.le_trans (Nat.le_refl _) E432.1) Ku436.1)) (v := some (.int (1 : Int32))) (fun h => by rw [Bd.returns] at h; cases h)
            refine hno ⟨_, _, pre680 _ ?_, hrun, hended, _, _, rfl, ?_, hEnd.1, hEnd.2.1, hEnd.2.2.1, hEnd.2.2.2.mono (by decide) (by decide)⟩
            · show Steps p.tables e below (T433.setTop (mkF m 96 #[.val (.int p1), .val (.int p2), .val (.int p3), .val (.int i8), .val (.ref b18), .val (.ref b114), .val (.ref b432), .val (.int (1 : Int32)), .unset, .unset] [(.int (1 : Int32)), (.int (1 : Int32))])) _
              refine XS.icmpNo X433.here hx rfl (hb hby at_96) rfl (teq (by decide +kernel : (1 : Int32) = (1 : Int32))).2 ?_
              refine XS.aload X433.here hx rfl (hb hby at_99) rfl rfl ?_
              refine XS.astore X433.here hx rfl (hb hby at_101) rfl rfl (l' := #[.val (.int p1), .val (.int p2), .val (.int p3), .val (.int i8), .val (.ref b18), .val (.ref b114), .val (.ref b432), .val (.int (1 : Int32)), .val (.ref b114), .unset]) rfl ?_
              refine XS.aload X433.here hx rfl (hb hby at_103) rfl rfl ?_
              refine XS.aload X433.here hx rfl (hb hby at_105) rfl rfl ?_
              refine st683.trans ?_
              refine XS.ifNo X683.here hx rfl (hb hby at_110) rfl ((if0 _ _).trans (teq (by decide +kernel : (0 : Int32) = (0 : Int32))).2) ?_
              refine XS.iconst X683.here hx rfl (hb hby at_113) ?_
              refine XS.goto X683.here hx rfl (pc0 := 114) (pc' := 118) rfl (hb hby at_114) (by decide) (by decide) ?_
              show Steps p.tables e below (T683.setTop (mkF m 118 #[.val (.int p1), .val (.int p2), .val (.int p3), .val (.int i8), .val (.ref b18), .val (.ref b114), .val (.ref b432), .val (.int (1 : Int32)), .val (.ref b114), .unset] [(.int (1 : Int32))])) _
              exact retN X683 hx (t := .boolean) Bd.returns (by simp) (hb hby at_118) hr
            · show Q0 Z _ _ _ _ h0 n0 _ T683.heap _
              rw [u686]
              exact ⟨rfl, N683⟩
          · skip
            have pre687 : ∀ t, Steps p.tables e below (T433.setTop (mkF m 122 #[.val (.int p1), .val (.int p2), .val (.int p3), .val (.int i8), .val (.ref b18), .val (.ref b114), .val (.ref b432), .val (.int i439), .unset, .unset] [(.int (2 : Int32)), (.int i439)])) t → Steps p.tables e below (s₁.setTop (entryFrame m #[(.int p1), (.int p2), (.int p3)] maxLocals)) t := by
              intro t kt
              refine pre680 t ?_
              show Steps p.tables e below (T433.setTop (mkF m 96 #[.val (.int p1), .val (.int p2), .val (.int p3), .val (.int i8), .val (.ref b18), .val (.ref b114), .val (.ref b432), .val (.int i439), .unset, .unset] [(.int (1 : Int32)), (.int i439)])) _
              refine XS.icmpYes X433.here hx rfl (pc0 := 96) (pc' := 119) rfl (hb hby at_96) rfl (feq hc681).2 (by decide) (by decide) ?_
              refine XS.iload X433.here hx rfl (hb hby at_119) rfl ?_
              refine XS.iconst X433.here hx rfl (hb hby at_121) ?_
              exact kt
            by_cases hc688 : i439 = (2 : Int32)
            · skip
              subst hc688
              obtain ⟨cq689, kq689, q689a, q689b, q689c⟩ := isOf hZ90 rfl u437
              obtain ⟨_, _, ⟨T689, L689, k689, n689⟩, -, X689, ⟨Lc689, hQ689, l689, y689, z689⟩, st689⟩ := X433.virtualBack hx (y := M_15) (z := M_15) hown90 (mvT hZ90 (hw _ (gw 38 rfl))) (mvT hZ90 (hw _ (gw 39 rfl))) (notFace_of_selects (args := #[]) (mvT hZ90 (hw _ (gw 41 rfl)))) (mvT hZ90 (hw _ (gw 41 rfl))) (mvT hZ90 (hw _ (gw 40 rfl))) (by decide) (backOf (W := 0) (rm7_21 l Z a0 hw [] b432 T433.heap n0  Ou436) hZ90 (hw _ (gw 42 rfl)) (hw _ (gw 31 rfl)) (by decide) (by decide)) q689a q689c (g := (mkF m 128 #[.val (.int p1), .val (.int p2), .val (.int p3), .val (.int i8), .val (.ref b18), .val (.ref b114), .val (.ref b432), .val (.int (2 : Int32)), .unset, .unset] [.null, (.ref b432)])) rfl (by rw [hml]; rfl) (Steps.refl _) (argsL := [.null]) (rest := []) (lenOf pd_14 rfl) rfl (by show 2 * 0 + _ ≤ _; exact Nat.le_of_eq rfl) (hb hby at_128) (fun _ _ => ⟨rfl, rfl, (by decide : 13 + 0 ≤ _), (by decide : 25 + 0 ≤ _)⟩)
              dsimp only [Pt.U, Pt.locs, Pt.cells, Pt.slots] at X689 l689 y689 z689 st689 hQ689
              subst l689 y689 z689
              obtain ⟨rfl, u691, u692⟩ := hQ689
              have N689 := Fr.app N433 u691
              obtain ⟨fs, hr, hrun, hended, hEnd⟩ := X689.leaveW (s := s) (vm₁ := T90.vm) hS90 (by rw [u692]; exact (Nat.le_trans (Nat.le_trans (Nat.le_refl _) E432.1) Ku436.1)) (v := some (.int (1 : Int32))) (fun h => by rw [Bd.returns] at h; cases h)
              refine hno ⟨_, _, pre687 _ ?_, hrun, hended, _, _, rfl, ?_, hEnd.1, hEnd.2.1, hEnd.2.2.1, hEnd.2.2.2.mono (by decide) (by decide)⟩
              · show Steps p.tables e below (T433.setTop (mkF m 122 #[.val (.int p1), .val (.int p2), .val (.int p3), .val (.int i8), .val (.ref b18), .val (.ref b114), .val (.ref b432), .val (.int (2 : Int32)), .unset, .unset] [(.int (2 : Int32)), (.int (2 : Int32))])) _
                refine XS.icmpNo X433.here hx rfl (hb hby at_122) rfl (teq (by decide +kernel : (2 : Int32) = (2 : Int32))).2 ?_
                refine XS.aload X433.here hx rfl (hb hby at_125) rfl rfl ?_
                refine XS.aconstNull X433.here hx rfl (hb hby at_127) ?_
                refine st689.trans ?_
                refine XS.ifNo X689.here hx rfl (hb hby at_131) rfl ((if0 _ _).trans (teq (by decide +kernel : (0 : Int32) = (0 : Int32))).2) ?_
                refine XS.iconst X689.here hx rfl (hb hby at_134) ?_
                refine XS.goto X689.here hx rfl (pc0 := 135) (pc' := 139) rfl (hb hby at_135) (by decide) (by decide) ?_
                show Steps p.tables e below (T689.setTop (mkF m 139 #[.val (.int p1), .val (.int p2), .val (.int p3), .val (.int i8), .val (.ref b18), .val (.ref b114), .val (.ref b432), .val (.int (2 : Int32)), .unset, .unset] [(.int (1 : Int32))])) _
                exact retN X689 hx (t := .boolean) Bd.returns (by simp) (hb hby at_139) hr
              · show Q0 Z _ _ _ _ h0 n0 _ T689.heap _
                rw [u692]
                exact ⟨rfl, N689⟩
            · skip
              have f693 : Exa Z T433.heap b18 C_0 := ((Exa.ext E432 (u30.keep Ku129)).keep Ku436)
              obtain ⟨cq694, kq694, q694a, q694b, q694c⟩ := isOf hZ90 rfl u437
              obtain ⟨_, _, ⟨T694, L694, k694, n694⟩, -, X694, ⟨Lc694, hQ694, l694, y694, z694⟩, st694⟩ := X433.virtualBack hx (y := M_15) (z := M_15) hown90 (mvT hZ90 (hw _ (gw 38 rfl))) (mvT hZ90 (hw _ (gw 39 rfl))) (notFace_of_selects (args := #[]) (mvT hZ90 (hw _ (gw 41 rfl)))) (mvT hZ90 (hw _ (gw 41 rfl))) (mvT hZ90 (hw _ (gw 40 rfl))) (by decide) (backOf (W := 0) (rm7_22 l Z a0 hw [] b432 b18 T433.heap n0  Ou436 u437 u438 f693) hZ90 (hw _ (gw 42 rfl)) (hw _ (gw 31 rfl)) (by decide) (by decide)) q694a q694c (g := (mkF m 148 #[.val (.int p1), .val (.int p2), .val (.int p3), .val (.int i8), .val (.ref b18), .val (.ref b114), .val (.ref b432), .val (.int i439), .val (.ref b432), .unset] [(.ref b432), (.ref b432)])) rfl (by rw [hml]; rfl) (Steps.refl _) (argsL := [(.ref b432)]) (rest := []) (lenOf pd_14 rfl) rfl (by show 2 * 0 + _ ≤ _; exact Nat.le_of_eq rfl) (hb hby at_148) (fun _ _ => ⟨rfl, rfl, (by decide : 13 + 0 ≤ _), (by decide : 25 + 0 ≤ _)⟩)
              dsimp only [Pt.U, Pt.locs, Pt.cells, Pt.slots] at X694 l694 y694 z694 st694 hQ694
              subst l694 y694 z694
              obtain ⟨rfl, u696, u697⟩ := hQ694
              have N694 := Fr.app N433 u696
              obtain ⟨fs, hr, hrun, hended, hEnd⟩ := X694.leaveW (s := s) (vm₁ := T90.vm) hS90 (by rw [u697]; exact (Nat.le_trans (Nat.le_trans (Nat.le_refl _) E432.1) Ku436.1)) (v := some (.int (1 : Int32))) (fun h => by rw [Bd.returns] at h; cases h)
              refine hno ⟨_, _, pre687 _ ?_, hrun, hended, _, _, rfl, ?_, hEnd.1, hEnd.2.1, hEnd.2.2.1, hEnd.2.2.2.mono (by decide) (by decide)⟩
              · show Steps p.tables e below (T433.setTop (mkF m 122 #[.val (.int p1), .val (.int p2), .val (.int p3), .val (.int i8), .val (.ref b18), .val (.ref b114), .val (.ref b432), .val (.int i439), .unset, .unset] [(.int (2 : Int32)), (.int i439)])) _
                refine XS.icmpYes X433.here hx rfl (pc0 := 122) (pc' := 140) rfl (hb hby at_122) rfl (feq hc688).2 (by decide) (by decide) ?_
                refine XS.aload X433.here hx rfl (hb hby at_140) rfl rfl ?_
                refine XS.astore X433.here hx rfl (hb hby at_142) rfl rfl (l' := #[.val (.int p1), .val (.int p2), .val (.int p3), .val (.int i8), .val (.ref b18), .val (.ref b114), .val (.ref b432), .val (.int i439), .val (.ref b432), .unset]) rfl ?_
                refine XS.aload X433.here hx rfl (hb hby at_144) rfl rfl ?_
                refine XS.aload X433.here hx rfl (hb hby at_146) rfl rfl ?_
                refine st694.trans ?_
                show Steps p.tables e below (T694.setTop (mkF m 151 #[.val (.int p1), .val (.int p2), .val (.int p3), .val (.int i8), .val (.ref b18), .val (.ref b114), .val (.ref b432), .val (.int i439), .val (.ref b432), .unset] [(.int (1 : Int32))])) _
                exact retN X694 hx (t := .boolean) Bd.returns (by simp) (hb hby at_151) hr
              · show Q0 Z _ _ _ _ h0 n0 _ T694.heap _
                rw [u697]
                exact ⟨rfl, N694⟩
      · skip
        have Ou160 : Old Z n0 T90.heap := Ou29.keep Ku160 all0
        have chu160 := cg90
        have CRu160 := CRu29.trans chu160
        have g_b142 : n0 ≤ b142 := Nat.le_trans (own_z Ou29) u155
        have sz_b142 : h0.size ≤ b142 := Nat.le_trans Ku29.1 u155
        have g_b143 : n0 ≤ b143 := Nat.le_trans (own_z Ou29) u157
        have sz_b143 : h0.size ≤ b143 := Nat.le_trans Ku29.1 u157
        have N90 := Fr.app N14 u154
        obtain ⟨T698, h698, X698, e698, E698, A698, D698, -, st698⟩ := newO X90 hx hZ90 hown90 (hw _ (gw 29 rfl)) (hw _ (gw 30 rfl)) (hw _ (gw 31 rfl)) rfl (g := (mkF m 24 #[.val (.int p1), .val (.int p2), .val (.int p3), .val (.int i8), .val (.ref b18), .val (.ref b142), .unset, .unset, .unset, .unset] [])) rfl (hb hby at_24) (by decide) (by decide)
        obtain ⟨b698, g698⟩ : ∃ z, z = T90.heap.size := ⟨_, rfl⟩
        rw [← g698] at A698 D698 st698
        have O698 : Old Z n0 h698 := Ou160.ext E698
        have ch698 := CHr.ext E698 CRu160.1
        have CR698 := CRu160.trans ch698
        have bd_b698 : T90.heap.size ≤ b698 := Nat.le_of_eq g698.symm
        have g_b698 : n0 ≤ b698 := Nat.le_trans (own_z Ou160) bd_b698
        have sz_b698 : h0.size ≤ b698 := Nat.le_trans (Nat.le_trans Ku29.1 Ku160.1) bd_b698
        have lt_b698 : b698 < h698.size := A698.lt
        have sfb_b698 : Safe Z own_EL T90.vm h698 b698 := Safe.ext E698 CRu160.1 (Safe.new bd_b698)
        have D698_37 : Fld Z h698 b698 C_1 "written" C_2 .null := D698 (Or.inr (hw _ (gw 37 rfl))) (ty := (.object "java/lang/String")) (by decide)
        obtain ⟨_, _, ⟨T699, L699, k699, n699⟩, -, X699, ⟨Lc699, hQ699, l699, y699, z699⟩, st699⟩ := X698.specialBack hx (y := M_11) rfl hown90 (mvT hZ90 (hw _ (gw 32 rfl))) (mvT hZ90 (hw _ (gw 33 rfl))) (mvT hZ90 (hw _ (gw 34 rfl))) (by decide) (backOf (W := 1) (rm6_15 l Z a0 hw [] b698 b18 h698 n0  O698 A698 D698_37 g_b698) hZ90 (hw _ (gw 34 rfl)) (hw _ (gw 31 rfl)) (by decide) (by decide)) (g := (mkF m 30 #[.val (.int p1), .val (.int p2), .val (.int p3), .val (.int i8), .val (.ref b18), .val (.ref b142), .unset, .unset, .unset, .unset] [(.ref b18), (.ref b698), (.ref b698)])) rfl (by rw [hml]; rfl) (Steps.refl _) (a := b698) (argsL := [(.ref b18)]) (rest := [(.ref b698)]) (lenOf pd_11 rfl) rfl (by show 2 * 0 + _ ≤ _; exact Nat.le_of_eq rfl) (hb hby at_30) (fun _ _ => ⟨rfl, e698, (by decide : 13 + 0 ≤ _), (by decide : 25 + 0 ≤ _)⟩)
        dsimp only [Pt.U, Pt.locs, Pt.cells, Pt.slots] at X699 l699 y699 z699 st699 hQ699
        subst l699 y699 z699
        obtain ⟨rfl, u701, Ku702, u703, u704⟩ := hQ699
        have Ou702 : Old Z n0 T699.heap := O698.keep Ku702 (allS g_b698 all0)
        have chu702 := CHr.keep Ku702 (allS (Safe.exa hZ90.alike A698 (by decide) (by decide)) all0) CR698.1
        have CRu702 := CR698.trans chu702
        have N699 := Fr.app N90 u701
        obtain ⟨i705, hi705⟩ : ∃ z, z = (p3 &&& (3 : Int32)) := ⟨_, rfl⟩
        have pre706 : ∀ t, Steps p.tables e below (T699.setTop (mkF m 42 #[.val (.int p1), .val (.int p2), .val (.int p3), .val (.int i8), .val (.ref b18), .val (.ref b142), .val (.ref b698), .val (.int i705), .unset, .unset] [(.int i705)])) t → Steps p.tables e below (s₁.setTop (entryFrame m #[(.int p1), (.int p2), (.int p3)] maxLocals)) t := by
          intro t kt
          refine pre91 t ?_
          refine st90.trans ?_
          show Steps p.tables e below (T90.setTop (mkF m 22 #[.val (.int p1), .val (.int p2), .val (.int p3), .val (.int i8), .val (.ref b18), .unset, .unset, .unset, .unset, .unset] [(.ref b142)])) _
          refine XS.astore X90.here hx rfl (hb hby at_22) rfl rfl (l' := #[.val (.int p1), .val (.int p2), .val (.int p3), .val (.int i8), .val (.ref b18), .val (.ref b142), .unset, .unset, .unset, .unset]) rfl ?_
          refine st698 _ ?_
          refine XS.dup X698.here hx rfl (hb hby at_27) rfl rfl ?_
          refine XS.aload X698.here hx rfl (hb hby at_28) rfl rfl ?_
          refine st699.trans ?_
          refine XS.astore X699.here hx rfl (hb hby at_33) rfl rfl (l' := #[.val (.int p1), .val (.int p2), .val (.int p3), .val (.int i8), .val (.ref b18), .val (.ref b142), .val (.ref b698), .unset, .unset, .unset]) rfl ?_
          refine XS.iloadN X699.here hx rfl (hb hby at_35) rfl ?_
          refine XS.iconst X699.here hx rfl (hb hby at_36) ?_
          refine XS.iand X699.here hx rfl (hb hby at_37) rfl ?_
          show Steps p.tables e below (T699.setTop (mkF m 38 #[.val (.int p1), .val (.int p2), .val (.int p3), .val (.int i8), .val (.ref b18), .val (.ref b142), .val (.ref b698), .unset, .unset, .unset] [(.int (p3 &&& (3 : Int32)))])) _
          rw [← hi705]
          refine XS.istore X699.here hx rfl (hb hby at_38) rfl (l' := #[.val (.int p1), .val (.int p2), .val (.int p3), .val (.int i8), .val (.ref b18), .val (.ref b142), .val (.ref b698), .val (.int i705), .unset, .unset]) rfl ?_
          refine XS.iload X699.here hx rfl (hb hby at_40) rfl ?_
          exact kt
        by_cases hc707 : i705 = (0 : Int32)
        · skip
          subst hc707
          obtain ⟨T708, h708, X708, e708, E708, A708, D708, -, st708⟩ := newO X699 hx hZ90 hown90 (hw _ (gw 29 rfl)) (hw _ (gw 30 rfl)) (hw _ (gw 31 rfl)) rfl (g := (mkF m 45 #[.val (.int p1), .val (.int p2), .val (.int p3), .val (.int i8), .val (.ref b18), .val (.ref b142), .val (.ref b698), .val (.int (0 : Int32)), .unset, .unset] [])) rfl (hb hby at_45) (by decide) (by decide)
          obtain ⟨b708, g708⟩ : ∃ z, z = T699.heap.size := ⟨_, rfl⟩
          rw [← g708] at A708 D708 st708
          have O708 : Old Z n0 h708 := Ou702.ext E708
          have ch708 := CHr.ext E708 CRu702.1
          have CR708 := CRu702.trans ch708
          have bd_b708 : T699.heap.size ≤ b708 := Nat.le_of_eq g708.symm
          have g_b708 : n0 ≤ b708 := Nat.le_trans (own_z Ou702) bd_b708
          have sz_b708 : h0.size ≤ b708 := Nat.le_trans (Nat.le_trans (Nat.le_trans (Nat.le_trans Ku29.1 Ku160.1) E698.1) Ku702.1) bd_b708
          have lt_b708 : b708 < h708.size := A708.lt
          have sfb_b708 : Safe Z own_EL T90.vm h708 b708 := Safe.ext E708 CRu702.1 (Safe.new bd_b708)
          have D708_37 : Fld Z h708 b708 C_1 "written" C_2 .null := D708 (Or.inr (hw _ (gw 37 rfl))) (ty := (.object "java/lang/String")) (by decide)
          obtain ⟨_, _, ⟨T709, L709, k709, n709⟩, -, X709, ⟨Lc709, hQ709, l709, y709, z709⟩, st709⟩ := X708.specialBack hx (y := M_11) rfl hown90 (mvT hZ90 (hw _ (gw 32 rfl))) (mvT hZ90 (hw _ (gw 33 rfl))) (mvT hZ90 (hw _ (gw 34 rfl))) (by decide) (backOf (W := 1) (rm6_15 l Z a0 hw [] b708 b142 h708 n0  O708 A708 D708_37 g_b708) hZ90 (hw _ (gw 34 rfl)) (hw _ (gw 31 rfl)) (by decide) (by decide)) (g := (mkF m 51 #[.val (.int p1), .val (.int p2), .val (.int p3), .val (.int i8), .val (.ref b18), .val (.ref b142), .val (.ref b698), .val (.int (0 : Int32)), .unset, .unset] [(.ref b142), (.ref b708), (.ref b708)])) rfl (by rw [hml]; rfl) (Steps.refl _) (a := b708) (argsL := [(.ref b142)]) (rest := [(.ref b708)]) (lenOf pd_11 rfl) rfl (by show 2 * 0 + _ ≤ _; exact Nat.le_of_eq rfl) (hb hby at_51) (fun _ _ => ⟨rfl, e708, (by decide : 14 + 0 ≤ _), (by decide : 26 + 0 ≤ _)⟩)
          dsimp only [Pt.U, Pt.locs, Pt.cells, Pt.slots] at X709 l709 y709 z709 st709 hQ709
          subst l709 y709 z709
          obtain ⟨rfl, u711, Ku712, u713, u714⟩ := hQ709
          have Ou712 : Old Z n0 T709.heap := O708.keep Ku712 (allS g_b708 all0)
          have chu712 := CHr.keep Ku712 (allS (Safe.exa hZ90.alike A708 (by decide) (by decide)) all0) CR708.1
          have CRu712 := CR708.trans chu712
          have N709 := Fr.app N699 u711
          have pre716 : ∀ t, Steps p.tables e below (T709.setTop (mkF m 58 #[.val (.int p1), .val (.int p2), .val (.int p3), .val (.int i8), .val (.ref b18), .val (.ref b142), .val (.ref b698), .val (.int (0 : Int32)), .val (.ref b708), .unset] [(.int i8), (.int p1)])) t → Steps p.tables e below (s₁.setTop (entryFrame m #[(.int p1), (.int p2), (.int p3)] maxLocals)) t := by
            intro t kt
            refine pre706 t ?_
            show Steps p.tables e below (T699.setTop (mkF m 42 #[.val (.int p1), .val (.int p2), .val (.int p3), .val (.int i8), .val (.ref b18), .val (.ref b142), .val (.ref b698), .val (.int (0 : Int32)), .unset, .unset] [(.int (0 : Int32))])) _
            refine XS.ifNo X699.here hx rfl (hb hby at_42) rfl ((if0 _ _).trans (teq (by decide +kernel : (0 : Int32) = (0 : Int32))).2) ?_
            refine st708 _ ?_
            refine XS.dup X708.here hx rfl (hb hby at_48) rfl rfl ?_
            refine XS.aload X708.here hx rfl (hb hby at_49) rfl rfl ?_
            refine st709.trans ?_
            refine XS.astore X709.here hx rfl (hb hby at_54) rfl rfl (l' := #[.val (.int p1), .val (.int p2), .val (.int p3), .val (.int i8), .val (.ref b18), .val (.ref b142), .val (.ref b698), .val (.int (0 : Int32)), .val (.ref b708), .unset]) rfl ?_
            refine XS.iloadN X709.here hx rfl (hb hby at_56) rfl ?_
            refine XS.iloadN X709.here hx rfl (hb hby at_57) rfl ?_
            show Steps p.tables e below (T709.setTop (mkF m 58 #[.val (.int p1), .val (.int p2), .val (.int p3), .val (.int i8), .val (.ref b18), .val (.ref b142), .val (.ref b698), .val (.int (0 : Int32)), .val (.ref b708), .unset] [(.int i8), (.int p1)])) _
            exact kt
          obtain ⟨_, _, ⟨T715, L715, k715, n715⟩, -, X715, ⟨Lc715, hQ715, l715, y715, z715⟩, st715⟩ := Jvm.LawKit.callS X709 hx (y := M_12) hown90 (mvT hZ90 (hw _ (gw 77 rfl))) (mvT hZ90 (hw _ (gw 78 rfl))) (mvT hZ90 (hw _ (gw 2 rfl))) (mvT hZ90 (hw _ (gw 79 rfl))) (by decide) (backOf (W := 0) (rm16_16 l Z a0 hw [] p1 i8 T709.heap n0  Ou712) hZ90 (hw _ (gw 79 rfl)) (hw _ (gw 2 rfl)) (by decide) (by decide)) (g := (mkF m 58 #[.val (.int p1), .val (.int p2), .val (.int p3), .val (.int i8), .val (.ref b18), .val (.ref b142), .val (.ref b698), .val (.int (0 : Int32)), .val (.ref b708), .unset] [(.int i8), (.int p1)])) rfl (by rw [hml]; rfl) (argsL := [(.int p1), (.int i8)]) (rest := []) (lenOf pd_12 rfl) rfl (by show 2 * 0 + _ ≤ _; exact Nat.le_of_eq rfl) (hb hby at_58) (fun _ _ => ⟨rfl, rfl, (by decide : 14 + 0 ≤ _), (by decide : 26 + 0 ≤ _)⟩)
          dsimp only [Pt.U, Pt.locs, Pt.cells, Pt.slots] at X715 l715 y715 z715 st715 hQ715
          subst l715 y715 z715
          rcases hQ715 with ⟨i717, i718, i719, i720, u721, u722, u723, u724, u725, u726, rfl, u728, u729⟩ | ⟨i730, i731, i732, i733, u734, u735, u736, u737, u738, u739, rfl, u741, u742⟩ | ⟨i743, i744, i745, i746, u747, u748, u749, u750, u751, u752, rfl, u754, u755⟩ | ⟨i756, i757, i758, i759, u760, u761, u762, u763, u764, u765, rfl, u767, u768⟩ | ⟨i769, i770, i771, i772, i773, i774, u775, u776, u777, u778, u779, u780, u781, u782, u783, rfl, u785, u786⟩ | ⟨i787, i788, i789, i790, i791, i792, u793, u794, u795, u796, u797, u798, u799, u800, u801, rfl, u803, u804⟩ | ⟨i805, i806, i807, i808, u809, u810, u811, u812, u813, u814, rfl, u816, u817⟩ | ⟨i818, i819, i820, i821, u822, u823, u824, u825, u826, u827, rfl, u829, u830⟩ | ⟨i831, i832, i833, i834, u835, u836, u837, u838, u839, u840, rfl, u842, u843⟩ | ⟨i844, i845, i846, i847, i848, i849, i850, i851, i852, i853, u854, u855, u856, u857, u858, u859, u860, u861, u862, u863, u864, u865, u866, u867, rfl, u869, u870⟩ | ⟨i871, i872, i873, i874, i875, i876, i877, i878, i879, i880, u881, u882, u883, u884, u885, u886, u887, u888, u889, u890, u891, u892, u893, u894, rfl, u896, u897⟩ | ⟨i898, i899, i900, i901, i902, i903, u904, u905, u906, u907, u908, u909, u910, u911, u912, rfl, u914, u915⟩
          · skip
            have N715 := Fr.app N709 u728
            have pre916 : ∀ t, Steps p.tables e below (T715.setTop (mkF m 61 #[.val (.int p1), .val (.int p2), .val (.int p3), .val (.int i8), .val (.ref b18), .val (.ref b142), .val (.ref b698), .val (.int (0 : Int32)), .val (.ref b708), .unset] [(.int (1 : Int32))])) t → Steps p.tables e below (s₁.setTop (entryFrame m #[(.int p1), (.int p2), (.int p3)] maxLocals)) t := by
              intro t kt
              refine pre716 t ?_
              refine st715 _ ?_
              exact kt
            obtain rfl : i16 = i719 := (u725.trans u23.symm).symm
            obtain rfl : i17 = i720 := (u723.trans u22.symm).symm
            obtain rfl : i136 = i717 := (u726.trans u151.symm).symm
            obtain rfl : i137 = i718 := (u724.trans u146.symm).symm
            exact absurd (u722.trans u145.symm) (by decide +kernel)
          · skip
            have N715 := Fr.app N709 u741
            have pre917 : ∀ t, Steps p.tables e below (T715.setTop (mkF m 61 #[.val (.int p1), .val (.int p2), .val (.int p3), .val (.int i8), .val (.ref b18), .val (.ref b142), .val (.ref b698), .val (.int (0 : Int32)), .val (.ref b708), .unset] [(.int (0 : Int32))])) t → Steps p.tables e below (s₁.setTop (entryFrame m #[(.int p1), (.int p2), (.int p3)] maxLocals)) t := by
              intro t kt
              refine pre716 t ?_
              refine st715 _ ?_
              exact kt
            obtain rfl : i16 = i732 := (u738.trans u23.symm).symm
            obtain rfl : i17 = i733 := (u736.trans u22.symm).symm
            obtain rfl : i136 = i730 := (u739.trans u151.symm).symm
            obtain rfl : i137 = i731 := (u737.trans u146.symm).symm
            exact absurd (u735.trans u145.symm) (by decide +kernel)
          · skip
            have N715 := Fr.app N709 u754
            have pre918 : ∀ t, Steps p.tables e below (T715.setTop (mkF m 61 #[.val (.int p1), .val (.int p2), .val (.int p3), .val (.int i8), .val (.ref b18), .val (.ref b142), .val (.ref b698), .val (.int (0 : Int32)), .val (.ref b708), .unset] [(.int (0 : Int32))])) t → Steps p.tables e below (s₁.setTop (entryFrame m #[(.int p1), (.int p2), (.int p3)] maxLocals)) t := by
              intro t kt
              refine pre716 t ?_
              refine st715 _ ?_
              exact kt
            obtain rfl : i16 = i745 := (u751.trans u23.symm).symm
            obtain rfl : i17 = i746 := (u749.trans u22.symm).symm
            obtain rfl : i136 = i743 := (u752.trans u151.symm).symm
            obtain rfl : i137 = i744 := (u750.trans u146.symm).symm
            have f919 : Fld Z T709.heap b698 C_1 "written" C_2 (.ref b18) := ((Fld.ext E708 u704).keep Ku712 (ninS (Nat.ne_of_lt (Nat.lt_of_lt_of_le (Nat.lt_of_lt_of_le lt_b698 Ku702.1) bd_b708)) nin0))
            have f920 : Exa Z T709.heap b142 C_0 := ((Exa.ext E708 ((Exa.ext E698 u161).keep Ku702)).keep Ku712)
            have f921 : Exa Z T709.heap b18 C_0 := ((Exa.ext E708 ((Exa.ext E698 (u30.keep Ku160)).keep Ku702)).keep Ku712)
            have f922 : Fld Z T709.heap b142 C_0 "coder" "B" (.int (0 : Int32)) := ((Fld.ext E708 ((Fld.ext E698 u162).keep Ku702 (ninS (Nat.ne_of_lt (Nat.lt_of_lt_of_le u156 bd_b698)) nin0))).keep Ku712 (ninS (Nat.ne_of_lt (Nat.lt_of_lt_of_le (Nat.lt_of_lt_of_le (Nat.lt_of_lt_of_le u156 E698.1) Ku702.1) bd_b708)) nin0))
            have f923 : Fld Z T709.heap b18 C_0 "coder" "B" (.int (0 : Int32)) := ((Fld.ext E708 ((Fld.ext E698 (u31.keep Ku160 nin0)).keep Ku702 (ninS (Nat.ne_of_lt (Nat.lt_of_lt_of_le (Nat.lt_of_lt_of_le u27 Ku160.1) bd_b698)) nin0))).keep Ku712 (ninS (Nat.ne_of_lt (Nat.lt_of_lt_of_le (Nat.lt_of_lt_of_le (Nat.lt_of_lt_of_le (Nat.lt_of_lt_of_le u27 Ku160.1) E698.1) Ku702.1) bd_b708)) nin0))
            have f924 : Fld Z T709.heap b142 C_0 "value" "[B" (.ref b143) := ((Fld.ext E708 ((Fld.ext E698 u163).keep Ku702 (ninS (Nat.ne_of_lt (Nat.lt_of_lt_of_le u156 bd_b698)) nin0))).keep Ku712 (ninS (Nat.ne_of_lt (Nat.lt_of_lt_of_le (Nat.lt_of_lt_of_le (Nat.lt_of_lt_of_le u156 E698.1) Ku702.1) bd_b708)) nin0))
            have f925 : Fld Z T709.heap b18 C_0 "value" "[B" (.ref b19) := ((Fld.ext E708 ((Fld.ext E698 (u32.keep Ku160 nin0)).keep Ku702 (ninS (Nat.ne_of_lt (Nat.lt_of_lt_of_le (Nat.lt_of_lt_of_le u27 Ku160.1) bd_b698)) nin0))).keep Ku712 (ninS (Nat.ne_of_lt (Nat.lt_of_lt_of_le (Nat.lt_of_lt_of_le (Nat.lt_of_lt_of_le (Nat.lt_of_lt_of_le u27 Ku160.1) E698.1) Ku702.1) bd_b708)) nin0))
            have f926 : Arv Z T709.heap b143 k144 .byte (2 : Int32) [(.int i141), (.int i140)] (.int (0 : Int32)) := ((((u165.ext E698).keep Ku702 (ninS (Nat.ne_of_lt (Nat.lt_of_lt_of_le u158 bd_b698)) nin0)).ext E708).keep Ku712 (ninS (Nat.ne_of_lt (Nat.lt_of_lt_of_le (Nat.lt_of_lt_of_le (Nat.lt_of_lt_of_le u158 E698.1) Ku702.1) bd_b708)) nin0))
            have f927 : Arv Z T709.heap b19 k20 .byte (0 : Int32) [] (.int 0) := (((((u33.keep Ku160 nin0).ext E698).keep Ku702 (ninS (Nat.ne_of_lt (Nat.lt_of_lt_of_le (Nat.lt_of_lt_of_le u28 Ku160.1) bd_b698)) nin0)).ext E708).keep Ku712 (ninS (Nat.ne_of_lt (Nat.lt_of_lt_of_le (Nat.lt_of_lt_of_le (Nat.lt_of_lt_of_le (Nat.lt_of_lt_of_le u28 Ku160.1) E698.1) Ku702.1) bd_b708)) nin0))
            have f929 : Exa Z T709.heap b698 C_1 := ((Exa.ext E708 u703).keep Ku712)
            obtain ⟨cq928, kq928, q928a, q928b, q928c⟩ := isOf hZ90 u755 f929
            obtain ⟨_, _, ⟨T928, L928, k928, n928⟩, -, X928, ⟨Lc928, hQ928, l928, y928, z928⟩, st928⟩ := X715.virtualBack hx (y := M_15) (z := M_15) hown90 (mvT hZ90 (hw _ (gw 38 rfl))) (mvT hZ90 (hw _ (gw 39 rfl))) (notFace_of_selects (args := #[]) (mvT hZ90 (hw _ (gw 41 rfl)))) (mvT hZ90 (hw _ (gw 41 rfl))) (mvT hZ90 (hw _ (gw 40 rfl))) (by decide) (backOf (W := 0) (rm7_30 l Z a0 hw [] b698 b708 b142 b18 p11 b143 b19 i141 i140 k144 k20 T709.heap n0  Ou712 u713 u714 f919 f920 (Ne.symm (Nat.ne_of_lt (Nat.lt_of_lt_of_le u27 u155))) f921 S_12 hk13 f922 f923 f924 f925 f926 f927) hZ90 (hw _ (gw 42 rfl)) (hw _ (gw 31 rfl)) (by decide) (by decide)) q928a q928c (g := (mkF m 67 #[.val (.int p1), .val (.int p2), .val (.int p3), .val (.int i8), .val (.ref b18), .val (.ref b142), .val (.ref b698), .val (.int (0 : Int32)), .val (.ref b708), .val (.int (0 : Int32))] [(.ref b708), (.ref b698)])) rfl (by rw [hml]; rfl) (Steps.refl _) (argsL := [(.ref b708)]) (rest := []) (lenOf pd_14 rfl) rfl (by show 2 * 0 + _ ≤ _; exact Nat.le_of_eq rfl) (hb hby at_67) (fun _ _ => ⟨rfl, u755, (by decide : 14 + 0 ≤ _), (by decide : 26 + 0 ≤ _)⟩)
            dsimp only [Pt.U, Pt.locs, Pt.cells, Pt.slots] at X928 l928 y928 z928 st928 hQ928
            subst l928 y928 z928
            obtain ⟨rfl, u931, u932⟩ := hQ928
            have N928 := Fr.app N715 u931
            obtain ⟨cq933, kq933, q933a, q933b, q933c⟩ := isOf hZ90 u932 u713
            obtain ⟨_, _, ⟨T933, L933, k933, n933⟩, -, X933, ⟨Lc933, hQ933, l933, y933, z933⟩, st933⟩ := X928.virtualBack hx (y := M_15) (z := M_15) hown90 (mvT hZ90 (hw _ (gw 38 rfl))) (mvT hZ90 (hw _ (gw 39 rfl))) (notFace_of_selects (args := #[]) (mvT hZ90 (hw _ (gw 41 rfl)))) (mvT hZ90 (hw _ (gw 41 rfl))) (mvT hZ90 (hw _ (gw 40 rfl))) (by decide) (backOf (W := 0) (rm7_33 l Z a0 hw [] b708 b698 b18 b142 p11 b19 b143 k20 i141 i140 k144 T709.heap n0  Ou712 f929 f919 u714 f921 (Nat.ne_of_lt (Nat.lt_of_lt_of_le u27 u155)) f920 S_12 hk13 f923 f922 f925 f924 f927 f926) hZ90 (hw _ (gw 42 rfl)) (hw _ (gw 31 rfl)) (by decide) (by decide)) q933a q933c (g := (mkF m 79 #[.val (.int p1), .val (.int p2), .val (.int p3), .val (.int i8), .val (.ref b18), .val (.ref b142), .val (.ref b698), .val (.int (0 : Int32)), .val (.ref b708), .val (.int (0 : Int32))] [(.ref b698), (.ref b708)])) rfl (by rw [hml]; rfl) (Steps.refl _) (argsL := [(.ref b698)]) (rest := []) (lenOf pd_14 rfl) rfl (by show 2 * 0 + _ ≤ _; exact Nat.le_of_eq rfl) (hb hby at_79) (fun _ _ => ⟨rfl, u932, (by decide : 14 + 0 ≤ _), (by decide : 26 + 0 ≤ _)⟩)
            dsimp only [Pt.U, Pt.locs, Pt.cells, Pt.slots] at X933 l933 y933 z933 st933 hQ933
            subst l933 y933 z933
            obtain ⟨rfl, u935, u936⟩ := hQ933
            have N933 := Fr.app N928 u935
            obtain ⟨fs, hr, hrun, hended, hEnd⟩ := X933.leaveW (s := s) (vm₁ := T90.vm) hS90 (by rw [u936]; exact (Nat.le_trans (Nat.le_trans (Nat.le_trans (Nat.le_trans (Nat.le_refl _) E698.1) Ku702.1) E708.1) Ku712.1)) (v := some (.int (1 : Int32))) (fun h => by rw [Bd.returns] at h; cases h)
            refine hno ⟨_, _, pre918 _ ?_, hrun, hended, _, _, rfl, ?_, hEnd.1, hEnd.2.1, hEnd.2.2.1, hEnd.2.2.2.mono (by decide) (by decide)⟩
            · show Steps p.tables e below (T715.setTop (mkF m 61 #[.val (.int p1), .val (.int p2), .val (.int p3), .val (.int i8), .val (.ref b18), .val (.ref b142), .val (.ref b698), .val (.int (0 : Int32)), .val (.ref b708), .unset] [(.int (0 : Int32))])) _
              refine XS.istore X715.here hx rfl (hb hby at_61) rfl (l' := #[.val (.int p1), .val (.int p2), .val (.int p3), .val (.int i8), .val (.ref b18), .val (.ref b142), .val (.ref b698), .val (.int (0 : Int32)), .val (.ref b708), .val (.int (0 : Int32))]) rfl ?_
              refine XS.aload X715.here hx rfl (hb hby at_63) rfl rfl ?_
              refine XS.aload X715.here hx rfl (hb hby at_65) rfl rfl ?_
              refine st928.trans ?_
              refine XS.iload X928.here hx rfl (hb hby at_70) rfl ?_
              refine XS.icmpNo X928.here hx rfl (hb hby at_72) rfl (teq (by decide +kernel : (0 : Int32) = (0 : Int32))).2 ?_
              refine XS.aload X928.here hx rfl (hb hby at_75) rfl rfl ?_
              refine XS.aload X928.here hx rfl (hb hby at_77) rfl rfl ?_
              refine st933.trans ?_
              show Steps p.tables e below (T933.setTop (mkF m 82 #[.val (.int p1), .val (.int p2), .val (.int p3), .val (.int i8), .val (.ref b18), .val (.ref b142), .val (.ref b698), .val (.int (0 : Int32)), .val (.ref b708), .val (.int (0 : Int32))] [(.int (0 : Int32))])) _
              refine XS.iload X933.here hx rfl (hb hby at_82) rfl ?_
              refine XS.icmpNo X933.here hx rfl (hb hby at_84) rfl (teq (by decide +kernel : (0 : Int32) = (0 : Int32))).2 ?_
              refine XS.iconst X933.here hx rfl (hb hby at_87) ?_
              refine XS.goto X933.here hx rfl (pc0 := 88) (pc' := 92) rfl (hb hby at_88) (by decide) (by decide) ?_
              show Steps p.tables e below (T933.setTop (mkF m 92 #[.val (.int p1), .val (.int p2), .val (.int p3), .val (.int i8), .val (.ref b18), .val (.ref b142), .val (.ref b698), .val (.int (0 : Int32)), .val (.ref b708), .val (.int (0 : Int32))] [(.int (1 : Int32))])) _
              exact retN X933 hx (t := .boolean) Bd.returns (by simp) (hb hby at_92) hr
            · show Q0 Z _ _ _ _ h0 n0 _ T933.heap _
              rw [u936]
              exact ⟨rfl, N933⟩
          · skip
            have N715 := Fr.app N709 u767
            have pre937 : ∀ t, Steps p.tables e below (T715.setTop (mkF m 61 #[.val (.int p1), .val (.int p2), .val (.int p3), .val (.int i8), .val (.ref b18), .val (.ref b142), .val (.ref b698), .val (.int (0 : Int32)), .val (.ref b708), .unset] [(.int (0 : Int32))])) t → Steps p.tables e below (s₁.setTop (entryFrame m #[(.int p1), (.int p2), (.int p3)] maxLocals)) t := by
              intro t kt
              refine pre716 t ?_
              refine st715 _ ?_
              exact kt
            obtain rfl : i16 = i756 := (u764.trans u23.symm).symm
            obtain rfl : i17 = i757 := (u762.trans u22.symm).symm
            exact absurd (u760.trans u21.symm) (by decide +kernel)
          · skip
            have N715 := Fr.app N709 u785
            have pre938 : ∀ t, Steps p.tables e below (T715.setTop (mkF m 61 #[.val (.int p1), .val (.int p2), .val (.int p3), .val (.int i8), .val (.ref b18), .val (.ref b142), .val (.ref b698), .val (.int (0 : Int32)), .val (.ref b708), .unset] [(.int (1 : Int32))])) t → Steps p.tables e below (s₁.setTop (entryFrame m #[(.int p1), (.int p2), (.int p3)] maxLocals)) t := by
              intro t kt
              refine pre716 t ?_
              refine st715 _ ?_
              exact kt
            obtain rfl : i135 = i774 := (u780.trans u149.symm).symm
            obtain rfl : i16 = i769 := (u781.trans u23.symm).symm
            obtain rfl : i17 = i770 := (u777.trans u22.symm).symm
            exact absurd (u775.trans u21.symm) (by decide +kernel)
          · skip
            have N715 := Fr.app N709 u803
            have pre939 : ∀ t, Steps p.tables e below (T715.setTop (mkF m 61 #[.val (.int p1), .val (.int p2), .val (.int p3), .val (.int i8), .val (.ref b18), .val (.ref b142), .val (.ref b698), .val (.int (0 : Int32)), .val (.ref b708), .unset] [(.int (0 : Int32))])) t → Steps p.tables e below (s₁.setTop (entryFrame m #[(.int p1), (.int p2), (.int p3)] maxLocals)) t := by
              intro t kt
              refine pre716 t ?_
              refine st715 _ ?_
              exact kt
            obtain rfl : i135 = i792 := (u798.trans u149.symm).symm
            obtain rfl : i16 = i787 := (u799.trans u23.symm).symm
            obtain rfl : i17 = i788 := (u795.trans u22.symm).symm
            exact absurd (u793.trans u21.symm) (by decide +kernel)
          · skip
            have N715 := Fr.app N709 u816
            have pre940 : ∀ t, Steps p.tables e below (T715.setTop (mkF m 61 #[.val (.int p1), .val (.int p2), .val (.int p3), .val (.int i8), .val (.ref b18), .val (.ref b142), .val (.ref b698), .val (.int (0 : Int32)), .val (.ref b708), .unset] [(.int (0 : Int32))])) t → Steps p.tables e below (s₁.setTop (entryFrame m #[(.int p1), (.int p2), (.int p3)] maxLocals)) t := by
              intro t kt
              refine pre716 t ?_
              refine st715 _ ?_
              exact kt
            obtain rfl : i16 = i805 := (u813.trans u23.symm).symm
            obtain rfl : i17 = i806 := (u811.trans u22.symm).symm
            exact absurd (u809.trans u21.symm) (by decide +kernel)
          · skip
            have N715 := Fr.app N709 u829
            have pre941 : ∀ t, Steps p.tables e below (T715.setTop (mkF m 61 #[.val (.int p1), .val (.int p2), .val (.int p3), .val (.int i8), .val (.ref b18), .val (.ref b142), .val (.ref b698), .val (.int (0 : Int32)), .val (.ref b708), .unset] [(.int (0 : Int32))])) t → Steps p.tables e below (s₁.setTop (entryFrame m #[(.int p1), (.int p2), (.int p3)] maxLocals)) t := by
              intro t kt
              refine pre716 t ?_
              refine st715 _ ?_
              exact kt
            obtain rfl : i16 = i818 := (u826.trans u23.symm).symm
            obtain rfl : i17 = i819 := (u824.trans u22.symm).symm
            exact absurd (u822.trans u21.symm) (by decide +kernel)
          · skip
            have N715 := Fr.app N709 u842
            have pre942 : ∀ t, Steps p.tables e below (T715.setTop (mkF m 61 #[.val (.int p1), .val (.int p2), .val (.int p3), .val (.int i8), .val (.ref b18), .val (.ref b142), .val (.ref b698), .val (.int (0 : Int32)), .val (.ref b708), .unset] [(.int (0 : Int32))])) t → Steps p.tables e below (s₁.setTop (entryFrame m #[(.int p1), (.int p2), (.int p3)] maxLocals)) t := by
              intro t kt
              refine pre716 t ?_
              refine st715 _ ?_
              exact kt
            obtain rfl : i16 = i831 := (u839.trans u23.symm).symm
            obtain rfl : i17 = i832 := (u837.trans u22.symm).symm
            exact absurd (u835.trans u21.symm) (by decide +kernel)
          · skip
            have N715 := Fr.app N709 u869
            have pre943 : ∀ t, Steps p.tables e below (T715.setTop (mkF m 61 #[.val (.int p1), .val (.int p2), .val (.int p3), .val (.int i8), .val (.ref b18), .val (.ref b142), .val (.ref b698), .val (.int (0 : Int32)), .val (.ref b708), .unset] [(.int (1 : Int32))])) t → Steps p.tables e below (s₁.setTop (entryFrame m #[(.int p1), (.int p2), (.int p3)] maxLocals)) t := by
              intro t kt
              refine pre716 t ?_
              refine st715 _ ?_
              exact kt
            obtain rfl : i135 = i847 := (u859.trans u149.symm).symm
            obtain rfl : i16 = i852 := (u862.trans u23.symm).symm
            obtain rfl : i17 = i853 := (u856.trans u22.symm).symm
            exact absurd (u854.trans u21.symm) (by decide +kernel)
          · skip
            have N715 := Fr.app N709 u896
            have pre944 : ∀ t, Steps p.tables e below (T715.setTop (mkF m 61 #[.val (.int p1), .val (.int p2), .val (.int p3), .val (.int i8), .val (.ref b18), .val (.ref b142), .val (.ref b698), .val (.int (0 : Int32)), .val (.ref b708), .unset] [(.int (0 : Int32))])) t → Steps p.tables e below (s₁.setTop (entryFrame m #[(.int p1), (.int p2), (.int p3)] maxLocals)) t := by
              intro t kt
              refine pre716 t ?_
              refine st715 _ ?_
              exact kt
            obtain rfl : i135 = i874 := (u886.trans u149.symm).symm
            obtain rfl : i16 = i879 := (u889.trans u23.symm).symm
            obtain rfl : i17 = i880 := (u883.trans u22.symm).symm
            exact absurd (u881.trans u21.symm) (by decide +kernel)
          · skip
            have N715 := Fr.app N709 u914
            have pre945 : ∀ t, Steps p.tables e below (T715.setTop (mkF m 61 #[.val (.int p1), .val (.int p2), .val (.int p3), .val (.int i8), .val (.ref b18), .val (.ref b142), .val (.ref b698), .val (.int (0 : Int32)), .val (.ref b708), .unset] [(.int (0 : Int32))])) t → Steps p.tables e below (s₁.setTop (entryFrame m #[(.int p1), (.int p2), (.int p3)] maxLocals)) t := by
              intro t kt
              refine pre716 t ?_
              refine st715 _ ?_
              exact kt
            obtain rfl : i135 = i901 := (u909.trans u149.symm).symm
            obtain rfl : i16 = i902 := (u910.trans u23.symm).symm
            obtain rfl : i17 = i903 := (u906.trans u22.symm).symm
            exact absurd (u904.trans u21.symm) (by decide +kernel)
        · skip
          have pre946 : ∀ t, Steps p.tables e below (T699.setTop (mkF m 96 #[.val (.int p1), .val (.int p2), .val (.int p3), .val (.int i8), .val (.ref b18), .val (.ref b142), .val (.ref b698), .val (.int i705), .unset, .unset] [(.int (1 : Int32)), (.int i705)])) t → Steps p.tables e below (s₁.setTop (entryFrame m #[(.int p1), (.int p2), (.int p3)] maxLocals)) t := by
            intro t kt
            refine pre706 t ?_
            show Steps p.tables e below (T699.setTop (mkF m 42 #[.val (.int p1), .val (.int p2), .val (.int p3), .val (.int i8), .val (.ref b18), .val (.ref b142), .val (.ref b698), .val (.int i705), .unset, .unset] [(.int i705)])) _
            refine XS.ifYes X699.here hx rfl (pc0 := 42) (pc' := 93) rfl (hb hby at_42) rfl ((if0 _ _).trans (feq hc707).2) (by decide) (by decide) ?_
            refine XS.iload X699.here hx rfl (hb hby at_93) rfl ?_
            refine XS.iconst X699.here hx rfl (hb hby at_95) ?_
            exact kt
          by_cases hc947 : i705 = (1 : Int32)
          · skip
            subst hc947
            have f948 : Exa Z T699.heap b142 C_0 := ((Exa.ext E698 u161).keep Ku702)
            obtain ⟨cq949, kq949, q949a, q949b, q949c⟩ := isOf hZ90 rfl u703
            obtain ⟨_, _, ⟨T949, L949, k949, n949⟩, -, X949, ⟨Lc949, hQ949, l949, y949, z949⟩, st949⟩ := X699.virtualBack hx (y := M_15) (z := M_15) hown90 (mvT hZ90 (hw _ (gw 38 rfl))) (mvT hZ90 (hw _ (gw 39 rfl))) (notFace_of_selects (args := #[]) (mvT hZ90 (hw _ (gw 41 rfl)))) (mvT hZ90 (hw _ (gw 41 rfl))) (mvT hZ90 (hw _ (gw 40 rfl))) (by decide) (backOf (W := 0) (rm7_20 l Z a0 hw [] b698 b142 T699.heap n0  Ou702 f948) hZ90 (hw _ (gw 42 rfl)) (hw _ (gw 31 rfl)) (by decide) (by decide)) q949a q949c (g := (mkF m 107 #[.val (.int p1), .val (.int p2), .val (.int p3), .val (.int i8), .val (.ref b18), .val (.ref b142), .val (.ref b698), .val (.int (1 : Int32)), .val (.ref b142), .unset] [(.ref b142), (.ref b698)])) rfl (by rw [hml]; rfl) (Steps.refl _) (argsL := [(.ref b142)]) (rest := []) (lenOf pd_14 rfl) rfl (by show 2 * 0 + _ ≤ _; exact Nat.le_of_eq rfl) (hb hby at_107) (fun _ _ => ⟨rfl, rfl, (by decide : 13 + 0 ≤ _), (by decide : 25 + 0 ≤ _)⟩)
            dsimp only [Pt.U, Pt.locs, Pt.cells, Pt.slots] at X949 l949 y949 z949 st949 hQ949
            subst l949 y949 z949
            obtain ⟨rfl, u951, u952⟩ := hQ949
            have N949 := Fr.app N699 u951
            obtain ⟨fs, hr, hrun, hended, hEnd⟩ := X949.leaveW (s := s) (vm₁ := T90.vm) hS90 (by rw [u952]; exact (Nat.le_trans (Nat.le_trans (Nat.le_refl _) E698.1) Ku702.1)) (v := some (.int (1 : Int32))) (fun h => by rw [Bd.returns] at h; cases h)
            refine hno ⟨_, _, pre946 _ ?_, hrun, hended, _, _, rfl, ?_, hEnd.1, hEnd.2.1, hEnd.2.2.1, hEnd.2.2.2.mono (by decide) (by decide)⟩
            · show Steps p.tables e below (T699.setTop (mkF m 96 #[.val (.int p1), .val (.int p2), .val (.int p3), .val (.int i8), .val (.ref b18), .val (.ref b142), .val (.ref b698), .val (.int (1 : Int32)), .unset, .unset] [(.int (1 : Int32)), (.int (1 : Int32))])) _
              refine XS.icmpNo X699.here hx rfl (hb hby at_96) rfl (teq (by decide +kernel : (1 : Int32) = (1 : Int32))).2 ?_
              refine XS.aload X699.here hx rfl (hb hby at_99) rfl rfl ?_
              refine XS.astore X699.here hx rfl (hb hby at_101) rfl rfl (l' := #[.val (.int p1), .val (.int p2), .val (.int p3), .val (.int i8), .val (.ref b18), .val (.ref b142), .val (.ref b698), .val (.int (1 : Int32)), .val (.ref b142), .unset]) rfl ?_
              refine XS.aload X699.here hx rfl (hb hby at_103) rfl rfl ?_
              refine XS.aload X699.here hx rfl (hb hby at_105) rfl rfl ?_
              refine st949.trans ?_
              refine XS.ifNo X949.here hx rfl (hb hby at_110) rfl ((if0 _ _).trans (teq (by decide +kernel : (0 : Int32) = (0 : Int32))).2) ?_
              refine XS.iconst X949.here hx rfl (hb hby at_113) ?_
              refine XS.goto X949.here hx rfl (pc0 := 114) (pc' := 118) rfl (hb hby at_114) (by decide) (by decide) ?_
              show Steps p.tables e below (T949.setTop (mkF m 118 #[.val (.int p1), .val (.int p2), .val (.int p3), .val (.int i8), .val (.ref b18), .val (.ref b142), .val (.ref b698), .val (.int (1 : Int32)), .val (.ref b142), .unset] [(.int (1 : Int32))])) _
              exact retN X949 hx (t := .boolean) Bd.returns (by simp) (hb hby at_118) hr
            · show Q0 Z _ _ _ _ h0 n0 _ T949.heap _
              rw [u952]
              exact ⟨rfl, N949⟩
          · skip
            have pre953 : ∀ t, Steps p.tables e below (T699.setTop (mkF m 122 #[.val (.int p1), .val (.int p2), .val (.int p3), .val (.int i8), .val (.ref b18), .val (.ref b142), .val (.ref b698), .val (.int i705), .unset, .unset] [(.int (2 : Int32)), (.int i705)])) t → Steps p.tables e below (s₁.setTop (entryFrame m #[(.int p1), (.int p2), (.int p3)] maxLocals)) t := by
              intro t kt
              refine pre946 t ?_
              show Steps p.tables e below (T699.setTop (mkF m 96 #[.val (.int p1), .val (.int p2), .val (.int p3), .val (.int i8), .val (.ref b18), .val (.ref b142), .val (.ref b698), .val (.int i705), .unset, .unset] [(.int (1 : Int32)), (.int i705)])) _
              refine XS.icmpYes X699.here hx rfl (pc0 := 96) (pc' := 119) rfl (hb hby at_96) rfl (feq hc947).2 (by decide) (by decide) ?_
              refine XS.iload X699.here hx rfl (hb hby at_119) rfl ?_
              refine XS.iconst X699.here hx rfl (hb hby at_121) ?_
              exact kt
            by_cases hc954 : i705 = (2 : Int32)
            · skip
              subst hc954
              obtain ⟨cq955, kq955, q955a, q955b, q955c⟩ := isOf hZ90 rfl u703
              obtain ⟨_, _, ⟨T955, L955, k955, n955⟩, -, X955, ⟨Lc955, hQ955, l955, y955, z955⟩, st955⟩ := X699.virtualBack hx (y := M_15) (z := M_15) hown90 (mvT hZ90 (hw _ (gw 38 rfl))) (mvT hZ90 (hw _ (gw 39 rfl))) (notFace_of_selects (args := #[]) (mvT hZ90 (hw _ (gw 41 rfl)))) (mvT hZ90 (hw _ (gw 41 rfl))) (mvT hZ90 (hw _ (gw 40 rfl))) (by decide) (backOf (W := 0) (rm7_21 l Z a0 hw [] b698 T699.heap n0  Ou702) hZ90 (hw _ (gw 42 rfl)) (hw _ (gw 31 rfl)) (by decide) (by decide)) q955a q955c (g := (mkF m 128 #[.val (.int p1), .val (.int p2), .val (.int p3), .val (.int i8), .val (.ref b18), .val (.ref b142), .val (.ref b698), .val (.int (2 : Int32)), .unset, .unset] [.null, (.ref b698)])) rfl (by rw [hml]; rfl) (Steps.refl _) (argsL := [.null]) (rest := []) (lenOf pd_14 rfl) rfl (by show 2 * 0 + _ ≤ _; exact Nat.le_of_eq rfl) (hb hby at_128) (fun _ _ => ⟨rfl, rfl, (by decide : 13 + 0 ≤ _), (by decide : 25 + 0 ≤ _)⟩)
              dsimp only [Pt.U, Pt.locs, Pt.cells, Pt.slots] at X955 l955 y955 z955 st955 hQ955
              subst l955 y955 z955
              obtain ⟨rfl, u957, u958⟩ := hQ955
              have N955 := Fr.app N699 u957
              obtain ⟨fs, hr, hrun, hended, hEnd⟩ := X955.leaveW (s := s) (vm₁ := T90.vm) hS90 (by rw [u958]; exact (Nat.le_trans (Nat.le_trans (Nat.le_refl _) E698.1) Ku702.1)) (v := some (.int (1 : Int32))) (fun h => by rw [Bd.returns] at h; cases h)
              refine hno ⟨_, _, pre953 _ ?_, hrun, hended, _, _, rfl, ?_, hEnd.1, hEnd.2.1, hEnd.2.2.1, hEnd.2.2.2.mono (by decide) (by decide)⟩
              · show Steps p.tables e below (T699.setTop (mkF m 122 #[.val (.int p1), .val (.int p2), .val (.int p3), .val (.int i8), .val (.ref b18), .val (.ref b142), .val (.ref b698), .val (.int (2 : Int32)), .unset, .unset] [(.int (2 : Int32)), (.int (2 : Int32))])) _
                refine XS.icmpNo X699.here hx rfl (hb hby at_122) rfl (teq (by decide +kernel : (2 : Int32) = (2 : Int32))).2 ?_
                refine XS.aload X699.here hx rfl (hb hby at_125) rfl rfl ?_
                refine XS.aconstNull X699.here hx rfl (hb hby at_127) ?_
                refine st955.trans ?_
                refine XS.ifNo X955.here hx rfl (hb hby at_131) rfl ((if0 _ _).trans (teq (by decide +kernel : (0 : Int32) = (0 : Int32))).2) ?_
                refine XS.iconst X955.here hx rfl (hb hby at_134) ?_
                refine XS.goto X955.here hx rfl (pc0 := 135) (pc' := 139) rfl (hb hby at_135) (by decide) (by decide) ?_
                show Steps p.tables e below (T955.setTop (mkF m 139 #[.val (.int p1), .val (.int p2), .val (.int p3), .val (.int i8), .val (.ref b18), .val (.ref b142), .val (.ref b698), .val (.int (2 : Int32)), .unset, .unset] [(.int (1 : Int32))])) _
                exact retN X955 hx (t := .boolean) Bd.returns (by simp) (hb hby at_139) hr
              · show Q0 Z _ _ _ _ h0 n0 _ T955.heap _
                rw [u958]
                exact ⟨rfl, N955⟩
            · skip
              have f959 : Exa Z T699.heap b18 C_0 := ((Exa.ext E698 (u30.keep Ku160)).keep Ku702)
              obtain ⟨cq960, kq960, q960a, q960b, q960c⟩ := isOf hZ90 rfl u703
              obtain ⟨_, _, ⟨T960, L960, k960, n960⟩, -, X960, ⟨Lc960, hQ960, l960, y960, z960⟩, st960⟩ := X699.virtualBack hx (y := M_15) (z := M_15) hown90 (mvT hZ90 (hw _ (gw 38 rfl))) (mvT hZ90 (hw _ (gw 39 rfl))) (notFace_of_selects (args := #[]) (mvT hZ90 (hw _ (gw 41 rfl)))) (mvT hZ90 (hw _ (gw 41 rfl))) (mvT hZ90 (hw _ (gw 40 rfl))) (by decide) (backOf (W := 0) (rm7_22 l Z a0 hw [] b698 b18 T699.heap n0  Ou702 u703 u704 f959) hZ90 (hw _ (gw 42 rfl)) (hw _ (gw 31 rfl)) (by decide) (by decide)) q960a q960c (g := (mkF m 148 #[.val (.int p1), .val (.int p2), .val (.int p3), .val (.int i8), .val (.ref b18), .val (.ref b142), .val (.ref b698), .val (.int i705), .val (.ref b698), .unset] [(.ref b698), (.ref b698)])) rfl (by rw [hml]; rfl) (Steps.refl _) (argsL := [(.ref b698)]) (rest := []) (lenOf pd_14 rfl) rfl (by show 2 * 0 + _ ≤ _; exact Nat.le_of_eq rfl) (hb hby at_148) (fun _ _ => ⟨rfl, rfl, (by decide : 13 + 0 ≤ _), (by decide : 25 + 0 ≤ _)⟩)
              dsimp only [Pt.U, Pt.locs, Pt.cells, Pt.slots] at X960 l960 y960 z960 st960 hQ960
              subst l960 y960 z960
              obtain ⟨rfl, u962, u963⟩ := hQ960
              have N960 := Fr.app N699 u962
              obtain ⟨fs, hr, hrun, hended, hEnd⟩ := X960.leaveW (s := s) (vm₁ := T90.vm) hS90 (by rw [u963]; exact (Nat.le_trans (Nat.le_trans (Nat.le_refl _) E698.1) Ku702.1)) (v := some (.int (1 : Int32))) (fun h => by rw [Bd.returns] at h; cases h)
              refine hno ⟨_, _, pre953 _ ?_, hrun, hended, _, _, rfl, ?_, hEnd.1, hEnd.2.1, hEnd.2.2.1, hEnd.2.2.2.mono (by decide) (by decide)⟩
              · show Steps p.tables e below (T699.setTop (mkF m 122 #[.val (.int p1), .val (.int p2), .val (.int p3), .val (.int i8), .val (.ref b18), .val (.ref b142), .val (.ref b698), .val (.int i705), .unset, .unset] [(.int (2 : Int32)), (.int i705)])) _
                refine XS.icmpYes X699.here hx rfl (pc0 := 122) (pc' := 140) rfl (hb hby at_122) rfl (feq hc954).2 (by decide) (by decide) ?_
                refine XS.aload X699.here hx rfl (hb hby at_140) rfl rfl ?_
                refine XS.astore X699.here hx rfl (hb hby at_142) rfl rfl (l' := #[.val (.int p1), .val (.int p2), .val (.int p3), .val (.int i8), .val (.ref b18), .val (.ref b142), .val (.ref b698), .val (.int i705), .val (.ref b698), .unset]) rfl ?_
                refine XS.aload X699.here hx rfl (hb hby at_144) rfl rfl ?_
                refine XS.aload X699.here hx rfl (hb hby at_146) rfl rfl ?_
                refine st960.trans ?_
                show Steps p.tables e below (T960.setTop (mkF m 151 #[.val (.int p1), .val (.int p2), .val (.int p3), .val (.int i8), .val (.ref b18), .val (.ref b142), .val (.ref b698), .val (.int i705), .val (.ref b698), .unset] [(.int (1 : Int32))])) _
                exact retN X960 hx (t := .boolean) Bd.returns (by simp) (hb hby at_151) hr
              · show Q0 Z _ _ _ _ h0 n0 _ T960.heap _
                rw [u963]
                exact ⟨rfl, N960⟩
    · skip
      have Ou53 : Old Z n0 T14.heap := O0.keep Ku53 all0
      have chu53 := cg14
      have CRu53 := CR0.trans chu53
      have g_b38 : n0 ≤ b38 := Nat.le_trans (own_z O0) u48
      have sz_b38 : h0.size ≤ b38 := Nat.le_trans (Nat.le_refl _) u48
      have g_b39 : n0 ≤ b39 := Nat.le_trans (own_z O0) u50
      have sz_b39 : h0.size ≤ b39 := Nat.le_trans (Nat.le_refl _) u50
      have N14 := Fr.app N0 u47
      have pre965 : ∀ t, Steps p.tables e below (T14.setTop (mkF m 19 #[.val (.int p1), .val (.int p2), .val (.int p3), .val (.int i8), .val (.ref b38), .unset, .unset, .unset, .unset, .unset] [(.int i8)])) t → Steps p.tables e below (s₁.setTop (entryFrame m #[(.int p1), (.int p2), (.int p3)] maxLocals)) t := by
        intro t kt
        refine pre15 t ?_
        refine st14.trans ?_
        show Steps p.tables e below (T14.setTop (mkF m 16 #[.val (.int p1), .val (.int p2), .val (.int p3), .val (.int i8), .unset, .unset, .unset, .unset, .unset, .unset] [(.ref b38)])) _
        refine XS.astore X14.here hx rfl (hb hby at_16) rfl rfl (l' := #[.val (.int p1), .val (.int p2), .val (.int p3), .val (.int i8), .val (.ref b38), .unset, .unset, .unset, .unset, .unset]) rfl ?_
        refine XS.iloadN X14.here hx rfl (hb hby at_18) rfl ?_
        show Steps p.tables e below (T14.setTop (mkF m 19 #[.val (.int p1), .val (.int p2), .val (.int p3), .val (.int i8), .val (.ref b38), .unset, .unset, .unset, .unset, .unset] [(.int i8)])) _
        exact kt
      obtain ⟨_, _, ⟨T964, L964, k964, n964⟩, -, X964, sn964, gr964, ⟨Lc964, hQ964, l964, y964, z964, cg964⟩, st964⟩ := callSS X14 hx (y := M_10) hown14 (mvT hZ14 (hw _ (gw 0 rfl))) (mvT hZ14 (hw _ (gw 1 rfl))) (mvT hZ14 (hw _ (gw 2 rfl))) (mvT hZ14 (hw _ (gw 3 rfl))) (by decide) (backOfSH (s := s) (vm0 := T14.vm) (EL := own_EL) (W := 0) (rm1_2 l Z a0 hw [] i8 p11 T14.heap n0  Ou53 S_12 hk13) hZ14 (hw _ (gw 3 rfl)) (hw _ (gw 2 rfl)) (by decide) (by decide) (own_EW hw) CRu53.1) (g := (mkF m 19 #[.val (.int p1), .val (.int p2), .val (.int p3), .val (.int i8), .val (.ref b38), .unset, .unset, .unset, .unset, .unset] [(.int i8)])) rfl (by rw [hml]; rfl) (argsL := [(.int i8)]) (rest := []) (lenOf pd_10 rfl) rfl (by show 2 * 0 + _ ≤ _; exact Nat.le_of_eq rfl) (hb hby at_19) (fun _ _ => ⟨rfl, rfl, (by decide : 6 + 6 ≤ _), (by decide : 12 + 12 ≤ _)⟩)
      dsimp only [Pt.U, Pt.locs, Pt.cells, Pt.slots] at X964 l964 y964 z964 st964 hQ964 sn964 gr964 cg964
      subst l964 y964 z964
      have gs964 : T14.heap.size ≤ T964.heap.size := gr964
      have hS964 : s.Since T964.vm T964.heap.size := hS14.trans sn964 (Nat.le_trans (Nat.le_refl _) gs964)
      have hZ964 : Z.Warmed39 (s.setVm T964.vm).vm := State.Warmed39.trans (t := (s.setVm T14.vm)) hZ14 sn964.1
      have hown964 : (s.setVm T964.vm).vm.findClass "com/example/vestry/vestry/NumeralEqualsPinLaw" = some m.cls := by rw [show (s.setVm T964.vm).vm = T964.vm from rfl, sn964.1.alike.findClass]; exact hown14
      rcases hQ964 with ⟨i966, i967, b968, b969, k970, u971, u972, u973, rfl, u975, u976, u977, u978, Ku979, u980, u981, u982, u983⟩ | ⟨i984, i985, i986, i987, b988, b989, k990, u991, u992, u993, u994, u995, rfl, u997, u998, u999, u1000, u1001, u1002, Ku1003, u1004, u1005, u1006, u1007, u1008⟩ | ⟨i1009, i1010, i1011, i1012, i1013, i1014, i1015, b1016, b1017, k1018, u1019, u1020, u1021, u1022, u1023, u1024, u1025, u1026, rfl, u1028, u1029, u1030, u1031, u1032, u1033, Ku1034, u1035, u1036, u1037, u1038, u1039⟩
      · skip
        have Ou979 : Old Z n0 T964.heap := Ou53.keep Ku979 all0
        have chu979 := cg964
        have CRu979 := CRu53.trans chu979
        have g_b968 : n0 ≤ b968 := Nat.le_trans (own_z Ou53) u976
        have sz_b968 : h0.size ≤ b968 := Nat.le_trans Ku53.1 u976
        have N964 := Fr.app N14 u975
        obtain ⟨T1040, h1040, X1040, e1040, E1040, A1040, D1040, -, st1040⟩ := newO X964 hx hZ964 hown964 (hw _ (gw 29 rfl)) (hw _ (gw 30 rfl)) (hw _ (gw 31 rfl)) rfl (g := (mkF m 24 #[.val (.int p1), .val (.int p2), .val (.int p3), .val (.int i8), .val (.ref b38), .val (.ref b968), .unset, .unset, .unset, .unset] [])) rfl (hb hby at_24) (by decide) (by decide)
        obtain ⟨b1040, g1040⟩ : ∃ z, z = T964.heap.size := ⟨_, rfl⟩
        rw [← g1040] at A1040 D1040 st1040
        have O1040 : Old Z n0 h1040 := Ou979.ext E1040
        have ch1040 := CHr.ext E1040 CRu979.1
        have CR1040 := CRu979.trans ch1040
        have bd_b1040 : T964.heap.size ≤ b1040 := Nat.le_of_eq g1040.symm
        have g_b1040 : n0 ≤ b1040 := Nat.le_trans (own_z Ou979) bd_b1040
        have sz_b1040 : h0.size ≤ b1040 := Nat.le_trans (Nat.le_trans Ku53.1 Ku979.1) bd_b1040
        have lt_b1040 : b1040 < h1040.size := A1040.lt
        have sfb_b1040 : Safe Z own_EL T964.vm h1040 b1040 := Safe.ext E1040 CRu979.1 (Safe.new bd_b1040)
        have D1040_37 : Fld Z h1040 b1040 C_1 "written" C_2 .null := D1040 (Or.inr (hw _ (gw 37 rfl))) (ty := (.object "java/lang/String")) (by decide)
        obtain ⟨_, _, ⟨T1041, L1041, k1041, n1041⟩, -, X1041, ⟨Lc1041, hQ1041, l1041, y1041, z1041⟩, st1041⟩ := X1040.specialBack hx (y := M_11) rfl hown964 (mvT hZ964 (hw _ (gw 32 rfl))) (mvT hZ964 (hw _ (gw 33 rfl))) (mvT hZ964 (hw _ (gw 34 rfl))) (by decide) (backOf (W := 1) (rm6_15 l Z a0 hw [] b1040 b38 h1040 n0  O1040 A1040 D1040_37 g_b1040) hZ964 (hw _ (gw 34 rfl)) (hw _ (gw 31 rfl)) (by decide) (by decide)) (g := (mkF m 30 #[.val (.int p1), .val (.int p2), .val (.int p3), .val (.int i8), .val (.ref b38), .val (.ref b968), .unset, .unset, .unset, .unset] [(.ref b38), (.ref b1040), (.ref b1040)])) rfl (by rw [hml]; rfl) (Steps.refl _) (a := b1040) (argsL := [(.ref b38)]) (rest := [(.ref b1040)]) (lenOf pd_11 rfl) rfl (by show 2 * 0 + _ ≤ _; exact Nat.le_of_eq rfl) (hb hby at_30) (fun _ _ => ⟨rfl, e1040, (by decide : 13 + 0 ≤ _), (by decide : 25 + 0 ≤ _)⟩)
        dsimp only [Pt.U, Pt.locs, Pt.cells, Pt.slots] at X1041 l1041 y1041 z1041 st1041 hQ1041
        subst l1041 y1041 z1041
        obtain ⟨rfl, u1043, Ku1044, u1045, u1046⟩ := hQ1041
        have Ou1044 : Old Z n0 T1041.heap := O1040.keep Ku1044 (allS g_b1040 all0)
        have chu1044 := CHr.keep Ku1044 (allS (Safe.exa hZ964.alike A1040 (by decide) (by decide)) all0) CR1040.1
        have CRu1044 := CR1040.trans chu1044
        have N1041 := Fr.app N964 u1043
        obtain ⟨i1047, hi1047⟩ : ∃ z, z = (p3 &&& (3 : Int32)) := ⟨_, rfl⟩
        have pre1048 : ∀ t, Steps p.tables e below (T1041.setTop (mkF m 42 #[.val (.int p1), .val (.int p2), .val (.int p3), .val (.int i8), .val (.ref b38), .val (.ref b968), .val (.ref b1040), .val (.int i1047), .unset, .unset] [(.int i1047)])) t → Steps p.tables e below (s₁.setTop (entryFrame m #[(.int p1), (.int p2), (.int p3)] maxLocals)) t := by
          intro t kt
          refine pre965 t ?_
          refine st964.trans ?_
          show Steps p.tables e below (T964.setTop (mkF m 22 #[.val (.int p1), .val (.int p2), .val (.int p3), .val (.int i8), .val (.ref b38), .unset, .unset, .unset, .unset, .unset] [(.ref b968)])) _
          refine XS.astore X964.here hx rfl (hb hby at_22) rfl rfl (l' := #[.val (.int p1), .val (.int p2), .val (.int p3), .val (.int i8), .val (.ref b38), .val (.ref b968), .unset, .unset, .unset, .unset]) rfl ?_
          refine st1040 _ ?_
          refine XS.dup X1040.here hx rfl (hb hby at_27) rfl rfl ?_
          refine XS.aload X1040.here hx rfl (hb hby at_28) rfl rfl ?_
          refine st1041.trans ?_
          refine XS.astore X1041.here hx rfl (hb hby at_33) rfl rfl (l' := #[.val (.int p1), .val (.int p2), .val (.int p3), .val (.int i8), .val (.ref b38), .val (.ref b968), .val (.ref b1040), .unset, .unset, .unset]) rfl ?_
          refine XS.iloadN X1041.here hx rfl (hb hby at_35) rfl ?_
          refine XS.iconst X1041.here hx rfl (hb hby at_36) ?_
          refine XS.iand X1041.here hx rfl (hb hby at_37) rfl ?_
          show Steps p.tables e below (T1041.setTop (mkF m 38 #[.val (.int p1), .val (.int p2), .val (.int p3), .val (.int i8), .val (.ref b38), .val (.ref b968), .val (.ref b1040), .unset, .unset, .unset] [(.int (p3 &&& (3 : Int32)))])) _
          rw [← hi1047]
          refine XS.istore X1041.here hx rfl (hb hby at_38) rfl (l' := #[.val (.int p1), .val (.int p2), .val (.int p3), .val (.int i8), .val (.ref b38), .val (.ref b968), .val (.ref b1040), .val (.int i1047), .unset, .unset]) rfl ?_
          refine XS.iload X1041.here hx rfl (hb hby at_40) rfl ?_
          exact kt
        by_cases hc1049 : i1047 = (0 : Int32)
        · skip
          subst hc1049
          obtain ⟨T1050, h1050, X1050, e1050, E1050, A1050, D1050, -, st1050⟩ := newO X1041 hx hZ964 hown964 (hw _ (gw 29 rfl)) (hw _ (gw 30 rfl)) (hw _ (gw 31 rfl)) rfl (g := (mkF m 45 #[.val (.int p1), .val (.int p2), .val (.int p3), .val (.int i8), .val (.ref b38), .val (.ref b968), .val (.ref b1040), .val (.int (0 : Int32)), .unset, .unset] [])) rfl (hb hby at_45) (by decide) (by decide)
          obtain ⟨b1050, g1050⟩ : ∃ z, z = T1041.heap.size := ⟨_, rfl⟩
          rw [← g1050] at A1050 D1050 st1050
          have O1050 : Old Z n0 h1050 := Ou1044.ext E1050
          have ch1050 := CHr.ext E1050 CRu1044.1
          have CR1050 := CRu1044.trans ch1050
          have bd_b1050 : T1041.heap.size ≤ b1050 := Nat.le_of_eq g1050.symm
          have g_b1050 : n0 ≤ b1050 := Nat.le_trans (own_z Ou1044) bd_b1050
          have sz_b1050 : h0.size ≤ b1050 := Nat.le_trans (Nat.le_trans (Nat.le_trans (Nat.le_trans Ku53.1 Ku979.1) E1040.1) Ku1044.1) bd_b1050
          have lt_b1050 : b1050 < h1050.size := A1050.lt
          have sfb_b1050 : Safe Z own_EL T964.vm h1050 b1050 := Safe.ext E1050 CRu1044.1 (Safe.new bd_b1050)
          have D1050_37 : Fld Z h1050 b1050 C_1 "written" C_2 .null := D1050 (Or.inr (hw _ (gw 37 rfl))) (ty := (.object "java/lang/String")) (by decide)
          obtain ⟨_, _, ⟨T1051, L1051, k1051, n1051⟩, -, X1051, ⟨Lc1051, hQ1051, l1051, y1051, z1051⟩, st1051⟩ := X1050.specialBack hx (y := M_11) rfl hown964 (mvT hZ964 (hw _ (gw 32 rfl))) (mvT hZ964 (hw _ (gw 33 rfl))) (mvT hZ964 (hw _ (gw 34 rfl))) (by decide) (backOf (W := 1) (rm6_15 l Z a0 hw [] b1050 b968 h1050 n0  O1050 A1050 D1050_37 g_b1050) hZ964 (hw _ (gw 34 rfl)) (hw _ (gw 31 rfl)) (by decide) (by decide)) (g := (mkF m 51 #[.val (.int p1), .val (.int p2), .val (.int p3), .val (.int i8), .val (.ref b38), .val (.ref b968), .val (.ref b1040), .val (.int (0 : Int32)), .unset, .unset] [(.ref b968), (.ref b1050), (.ref b1050)])) rfl (by rw [hml]; rfl) (Steps.refl _) (a := b1050) (argsL := [(.ref b968)]) (rest := [(.ref b1050)]) (lenOf pd_11 rfl) rfl (by show 2 * 0 + _ ≤ _; exact Nat.le_of_eq rfl) (hb hby at_51) (fun _ _ => ⟨rfl, e1050, (by decide : 14 + 0 ≤ _), (by decide : 26 + 0 ≤ _)⟩)
          dsimp only [Pt.U, Pt.locs, Pt.cells, Pt.slots] at X1051 l1051 y1051 z1051 st1051 hQ1051
          subst l1051 y1051 z1051
          obtain ⟨rfl, u1053, Ku1054, u1055, u1056⟩ := hQ1051
          have Ou1054 : Old Z n0 T1051.heap := O1050.keep Ku1054 (allS g_b1050 all0)
          have chu1054 := CHr.keep Ku1054 (allS (Safe.exa hZ964.alike A1050 (by decide) (by decide)) all0) CR1050.1
          have CRu1054 := CR1050.trans chu1054
          have N1051 := Fr.app N1041 u1053
          have pre1058 : ∀ t, Steps p.tables e below (T1051.setTop (mkF m 58 #[.val (.int p1), .val (.int p2), .val (.int p3), .val (.int i8), .val (.ref b38), .val (.ref b968), .val (.ref b1040), .val (.int (0 : Int32)), .val (.ref b1050), .unset] [(.int i8), (.int p1)])) t → Steps p.tables e below (s₁.setTop (entryFrame m #[(.int p1), (.int p2), (.int p3)] maxLocals)) t := by
            intro t kt
            refine pre1048 t ?_
            show Steps p.tables e below (T1041.setTop (mkF m 42 #[.val (.int p1), .val (.int p2), .val (.int p3), .val (.int i8), .val (.ref b38), .val (.ref b968), .val (.ref b1040), .val (.int (0 : Int32)), .unset, .unset] [(.int (0 : Int32))])) _
            refine XS.ifNo X1041.here hx rfl (hb hby at_42) rfl ((if0 _ _).trans (teq (by decide +kernel : (0 : Int32) = (0 : Int32))).2) ?_
            refine st1050 _ ?_
            refine XS.dup X1050.here hx rfl (hb hby at_48) rfl rfl ?_
            refine XS.aload X1050.here hx rfl (hb hby at_49) rfl rfl ?_
            refine st1051.trans ?_
            refine XS.astore X1051.here hx rfl (hb hby at_54) rfl rfl (l' := #[.val (.int p1), .val (.int p2), .val (.int p3), .val (.int i8), .val (.ref b38), .val (.ref b968), .val (.ref b1040), .val (.int (0 : Int32)), .val (.ref b1050), .unset]) rfl ?_
            refine XS.iloadN X1051.here hx rfl (hb hby at_56) rfl ?_
            refine XS.iloadN X1051.here hx rfl (hb hby at_57) rfl ?_
            show Steps p.tables e below (T1051.setTop (mkF m 58 #[.val (.int p1), .val (.int p2), .val (.int p3), .val (.int i8), .val (.ref b38), .val (.ref b968), .val (.ref b1040), .val (.int (0 : Int32)), .val (.ref b1050), .unset] [(.int i8), (.int p1)])) _
            exact kt
          obtain ⟨_, _, ⟨T1057, L1057, k1057, n1057⟩, -, X1057, ⟨Lc1057, hQ1057, l1057, y1057, z1057⟩, st1057⟩ := Jvm.LawKit.callS X1051 hx (y := M_12) hown964 (mvT hZ964 (hw _ (gw 77 rfl))) (mvT hZ964 (hw _ (gw 78 rfl))) (mvT hZ964 (hw _ (gw 2 rfl))) (mvT hZ964 (hw _ (gw 79 rfl))) (by decide) (backOf (W := 0) (rm16_16 l Z a0 hw [] p1 i8 T1051.heap n0  Ou1054) hZ964 (hw _ (gw 79 rfl)) (hw _ (gw 2 rfl)) (by decide) (by decide)) (g := (mkF m 58 #[.val (.int p1), .val (.int p2), .val (.int p3), .val (.int i8), .val (.ref b38), .val (.ref b968), .val (.ref b1040), .val (.int (0 : Int32)), .val (.ref b1050), .unset] [(.int i8), (.int p1)])) rfl (by rw [hml]; rfl) (argsL := [(.int p1), (.int i8)]) (rest := []) (lenOf pd_12 rfl) rfl (by show 2 * 0 + _ ≤ _; exact Nat.le_of_eq rfl) (hb hby at_58) (fun _ _ => ⟨rfl, rfl, (by decide : 14 + 0 ≤ _), (by decide : 26 + 0 ≤ _)⟩)
          dsimp only [Pt.U, Pt.locs, Pt.cells, Pt.slots] at X1057 l1057 y1057 z1057 st1057 hQ1057
          subst l1057 y1057 z1057
          rcases hQ1057 with ⟨i1059, i1060, i1061, i1062, u1063, u1064, u1065, u1066, u1067, u1068, rfl, u1070, u1071⟩ | ⟨i1072, i1073, i1074, i1075, u1076, u1077, u1078, u1079, u1080, u1081, rfl, u1083, u1084⟩ | ⟨i1085, i1086, i1087, i1088, u1089, u1090, u1091, u1092, u1093, u1094, rfl, u1096, u1097⟩ | ⟨i1098, i1099, i1100, i1101, u1102, u1103, u1104, u1105, u1106, u1107, rfl, u1109, u1110⟩ | ⟨i1111, i1112, i1113, i1114, i1115, i1116, u1117, u1118, u1119, u1120, u1121, u1122, u1123, u1124, u1125, rfl, u1127, u1128⟩ | ⟨i1129, i1130, i1131, i1132, i1133, i1134, u1135, u1136, u1137, u1138, u1139, u1140, u1141, u1142, u1143, rfl, u1145, u1146⟩ | ⟨i1147, i1148, i1149, i1150, u1151, u1152, u1153, u1154, u1155, u1156, rfl, u1158, u1159⟩ | ⟨i1160, i1161, i1162, i1163, u1164, u1165, u1166, u1167, u1168, u1169, rfl, u1171, u1172⟩ | ⟨i1173, i1174, i1175, i1176, u1177, u1178, u1179, u1180, u1181, u1182, rfl, u1184, u1185⟩ | ⟨i1186, i1187, i1188, i1189, i1190, i1191, i1192, i1193, i1194, i1195, u1196, u1197, u1198, u1199, u1200, u1201, u1202, u1203, u1204, u1205, u1206, u1207, u1208, u1209, rfl, u1211, u1212⟩ | ⟨i1213, i1214, i1215, i1216, i1217, i1218, i1219, i1220, i1221, i1222, u1223, u1224, u1225, u1226, u1227, u1228, u1229, u1230, u1231, u1232, u1233, u1234, u1235, u1236, rfl, u1238, u1239⟩ | ⟨i1240, i1241, i1242, i1243, i1244, i1245, u1246, u1247, u1248, u1249, u1250, u1251, u1252, u1253, u1254, rfl, u1256, u1257⟩
          · skip
            have N1057 := Fr.app N1051 u1070
            have pre1258 : ∀ t, Steps p.tables e below (T1057.setTop (mkF m 61 #[.val (.int p1), .val (.int p2), .val (.int p3), .val (.int i8), .val (.ref b38), .val (.ref b968), .val (.ref b1040), .val (.int (0 : Int32)), .val (.ref b1050), .unset] [(.int (1 : Int32))])) t → Steps p.tables e below (s₁.setTop (entryFrame m #[(.int p1), (.int p2), (.int p3)] maxLocals)) t := by
              intro t kt
              refine pre1058 t ?_
              refine st1057 _ ?_
              exact kt
            obtain rfl : i34 = i1061 := (u1067.trans u45.symm).symm
            obtain rfl : i35 = i1062 := (u1065.trans u42.symm).symm
            exact absurd (u1063.trans u41.symm) (by decide +kernel)
          · skip
            have N1057 := Fr.app N1051 u1083
            have pre1259 : ∀ t, Steps p.tables e below (T1057.setTop (mkF m 61 #[.val (.int p1), .val (.int p2), .val (.int p3), .val (.int i8), .val (.ref b38), .val (.ref b968), .val (.ref b1040), .val (.int (0 : Int32)), .val (.ref b1050), .unset] [(.int (0 : Int32))])) t → Steps p.tables e below (s₁.setTop (entryFrame m #[(.int p1), (.int p2), (.int p3)] maxLocals)) t := by
              intro t kt
              refine pre1058 t ?_
              refine st1057 _ ?_
              exact kt
            obtain rfl : i34 = i1074 := (u1080.trans u45.symm).symm
            obtain rfl : i35 = i1075 := (u1078.trans u42.symm).symm
            exact absurd (u1076.trans u41.symm) (by decide +kernel)
          · skip
            have N1057 := Fr.app N1051 u1096
            have pre1260 : ∀ t, Steps p.tables e below (T1057.setTop (mkF m 61 #[.val (.int p1), .val (.int p2), .val (.int p3), .val (.int i8), .val (.ref b38), .val (.ref b968), .val (.ref b1040), .val (.int (0 : Int32)), .val (.ref b1050), .unset] [(.int (0 : Int32))])) t → Steps p.tables e below (s₁.setTop (entryFrame m #[(.int p1), (.int p2), (.int p3)] maxLocals)) t := by
              intro t kt
              refine pre1058 t ?_
              refine st1057 _ ?_
              exact kt
            obtain rfl : i34 = i1087 := (u1093.trans u45.symm).symm
            obtain rfl : i35 = i1088 := (u1091.trans u42.symm).symm
            exact absurd (u1089.trans u41.symm) (by decide +kernel)
          · skip
            have N1057 := Fr.app N1051 u1109
            have pre1261 : ∀ t, Steps p.tables e below (T1057.setTop (mkF m 61 #[.val (.int p1), .val (.int p2), .val (.int p3), .val (.int i8), .val (.ref b38), .val (.ref b968), .val (.ref b1040), .val (.int (0 : Int32)), .val (.ref b1050), .unset] [(.int (0 : Int32))])) t → Steps p.tables e below (s₁.setTop (entryFrame m #[(.int p1), (.int p2), (.int p3)] maxLocals)) t := by
              intro t kt
              refine pre1058 t ?_
              refine st1057 _ ?_
              exact kt
            obtain rfl : i34 = i1098 := (u1106.trans u45.symm).symm
            obtain rfl : i35 = i1099 := (u1104.trans u42.symm).symm
            obtain rfl : i966 = i1100 := (u1107.trans u973.symm).symm
            obtain rfl : i967 = i1101 := (u1105.trans u972.symm).symm
            have f1262 : Fld Z T1051.heap b1040 C_1 "written" C_2 (.ref b38) := ((Fld.ext E1050 u1046).keep Ku1054 (ninS (Nat.ne_of_lt (Nat.lt_of_lt_of_le (Nat.lt_of_lt_of_le lt_b1040 Ku1044.1) bd_b1050)) nin0))
            have f1263 : Exa Z T1051.heap b968 C_0 := ((Exa.ext E1050 ((Exa.ext E1040 u980).keep Ku1044)).keep Ku1054)
            have f1264 : Exa Z T1051.heap b38 C_0 := ((Exa.ext E1050 ((Exa.ext E1040 (u54.keep Ku979)).keep Ku1044)).keep Ku1054)
            have f1265 : Fld Z T1051.heap b968 C_0 "coder" "B" (.int (0 : Int32)) := ((Fld.ext E1050 ((Fld.ext E1040 u981).keep Ku1044 (ninS (Nat.ne_of_lt (Nat.lt_of_lt_of_le u977 bd_b1040)) nin0))).keep Ku1054 (ninS (Nat.ne_of_lt (Nat.lt_of_lt_of_le (Nat.lt_of_lt_of_le (Nat.lt_of_lt_of_le u977 E1040.1) Ku1044.1) bd_b1050)) nin0))
            have f1266 : Fld Z T1051.heap b38 C_0 "coder" "B" (.int (0 : Int32)) := ((Fld.ext E1050 ((Fld.ext E1040 (u55.keep Ku979 nin0)).keep Ku1044 (ninS (Nat.ne_of_lt (Nat.lt_of_lt_of_le (Nat.lt_of_lt_of_le u49 Ku979.1) bd_b1040)) nin0))).keep Ku1054 (ninS (Nat.ne_of_lt (Nat.lt_of_lt_of_le (Nat.lt_of_lt_of_le (Nat.lt_of_lt_of_le (Nat.lt_of_lt_of_le u49 Ku979.1) E1040.1) Ku1044.1) bd_b1050)) nin0))
            have f1267 : Fld Z T1051.heap b968 C_0 "value" "[B" (.ref b969) := ((Fld.ext E1050 ((Fld.ext E1040 u982).keep Ku1044 (ninS (Nat.ne_of_lt (Nat.lt_of_lt_of_le u977 bd_b1040)) nin0))).keep Ku1054 (ninS (Nat.ne_of_lt (Nat.lt_of_lt_of_le (Nat.lt_of_lt_of_le (Nat.lt_of_lt_of_le u977 E1040.1) Ku1044.1) bd_b1050)) nin0))
            have f1268 : Fld Z T1051.heap b38 C_0 "value" "[B" (.ref b39) := ((Fld.ext E1050 ((Fld.ext E1040 (u56.keep Ku979 nin0)).keep Ku1044 (ninS (Nat.ne_of_lt (Nat.lt_of_lt_of_le (Nat.lt_of_lt_of_le u49 Ku979.1) bd_b1040)) nin0))).keep Ku1054 (ninS (Nat.ne_of_lt (Nat.lt_of_lt_of_le (Nat.lt_of_lt_of_le (Nat.lt_of_lt_of_le (Nat.lt_of_lt_of_le u49 Ku979.1) E1040.1) Ku1044.1) bd_b1050)) nin0))
            have f1269 : Arv Z T1051.heap b969 k970 .byte (0 : Int32) [] (.int 0) := ((((u983.ext E1040).keep Ku1044 (ninS (Nat.ne_of_lt (Nat.lt_of_lt_of_le u978 bd_b1040)) nin0)).ext E1050).keep Ku1054 (ninS (Nat.ne_of_lt (Nat.lt_of_lt_of_le (Nat.lt_of_lt_of_le (Nat.lt_of_lt_of_le u978 E1040.1) Ku1044.1) bd_b1050)) nin0))
            have f1270 : Arv Z T1051.heap b39 k40 .byte (1 : Int32) [(.int i37)] (.int (0 : Int32)) := (((((u58.keep Ku979 nin0).ext E1040).keep Ku1044 (ninS (Nat.ne_of_lt (Nat.lt_of_lt_of_le (Nat.lt_of_lt_of_le u51 Ku979.1) bd_b1040)) nin0)).ext E1050).keep Ku1054 (ninS (Nat.ne_of_lt (Nat.lt_of_lt_of_le (Nat.lt_of_lt_of_le (Nat.lt_of_lt_of_le (Nat.lt_of_lt_of_le u51 Ku979.1) E1040.1) Ku1044.1) bd_b1050)) nin0))
            have f1272 : Exa Z T1051.heap b1040 C_1 := ((Exa.ext E1050 u1045).keep Ku1054)
            obtain ⟨cq1271, kq1271, q1271a, q1271b, q1271c⟩ := isOf hZ964 u1110 f1272
            obtain ⟨_, _, ⟨T1271, L1271, k1271, n1271⟩, -, X1271, ⟨Lc1271, hQ1271, l1271, y1271, z1271⟩, st1271⟩ := X1057.virtualBack hx (y := M_15) (z := M_15) hown964 (mvT hZ964 (hw _ (gw 38 rfl))) (mvT hZ964 (hw _ (gw 39 rfl))) (notFace_of_selects (args := #[]) (mvT hZ964 (hw _ (gw 41 rfl)))) (mvT hZ964 (hw _ (gw 41 rfl))) (mvT hZ964 (hw _ (gw 40 rfl))) (by decide) (backOf (W := 0) (rm7_27 l Z a0 hw [] b1040 b1050 b968 b38 p11 b969 b39 k970 i37 k40 T1051.heap n0  Ou1054 u1055 u1056 f1262 f1263 (Ne.symm (Nat.ne_of_lt (Nat.lt_of_lt_of_le u49 u976))) f1264 S_12 hk13 f1265 f1266 f1267 f1268 f1269 f1270) hZ964 (hw _ (gw 42 rfl)) (hw _ (gw 31 rfl)) (by decide) (by decide)) q1271a q1271c (g := (mkF m 67 #[.val (.int p1), .val (.int p2), .val (.int p3), .val (.int i8), .val (.ref b38), .val (.ref b968), .val (.ref b1040), .val (.int (0 : Int32)), .val (.ref b1050), .val (.int (0 : Int32))] [(.ref b1050), (.ref b1040)])) rfl (by rw [hml]; rfl) (Steps.refl _) (argsL := [(.ref b1050)]) (rest := []) (lenOf pd_14 rfl) rfl (by show 2 * 0 + _ ≤ _; exact Nat.le_of_eq rfl) (hb hby at_67) (fun _ _ => ⟨rfl, u1110, (by decide : 14 + 0 ≤ _), (by decide : 26 + 0 ≤ _)⟩)
            dsimp only [Pt.U, Pt.locs, Pt.cells, Pt.slots] at X1271 l1271 y1271 z1271 st1271 hQ1271
            subst l1271 y1271 z1271
            obtain ⟨rfl, u1274, u1275⟩ := hQ1271
            have N1271 := Fr.app N1057 u1274
            obtain ⟨cq1276, kq1276, q1276a, q1276b, q1276c⟩ := isOf hZ964 u1275 u1055
            obtain ⟨_, _, ⟨T1276, L1276, k1276, n1276⟩, -, X1276, ⟨Lc1276, hQ1276, l1276, y1276, z1276⟩, st1276⟩ := X1271.virtualBack hx (y := M_15) (z := M_15) hown964 (mvT hZ964 (hw _ (gw 38 rfl))) (mvT hZ964 (hw _ (gw 39 rfl))) (notFace_of_selects (args := #[]) (mvT hZ964 (hw _ (gw 41 rfl)))) (mvT hZ964 (hw _ (gw 41 rfl))) (mvT hZ964 (hw _ (gw 40 rfl))) (by decide) (backOf (W := 0) (rm7_24 l Z a0 hw [] b1050 b1040 b38 b968 p11 b39 b969 i37 k40 k970 T1051.heap n0  Ou1054 f1272 f1262 u1056 f1264 (Nat.ne_of_lt (Nat.lt_of_lt_of_le u49 u976)) f1263 S_12 hk13 f1266 f1265 f1268 f1267 f1270 f1269) hZ964 (hw _ (gw 42 rfl)) (hw _ (gw 31 rfl)) (by decide) (by decide)) q1276a q1276c (g := (mkF m 79 #[.val (.int p1), .val (.int p2), .val (.int p3), .val (.int i8), .val (.ref b38), .val (.ref b968), .val (.ref b1040), .val (.int (0 : Int32)), .val (.ref b1050), .val (.int (0 : Int32))] [(.ref b1040), (.ref b1050)])) rfl (by rw [hml]; rfl) (Steps.refl _) (argsL := [(.ref b1040)]) (rest := []) (lenOf pd_14 rfl) rfl (by show 2 * 0 + _ ≤ _; exact Nat.le_of_eq rfl) (hb hby at_79) (fun _ _ => ⟨rfl, u1275, (by decide : 14 + 0 ≤ _), (by decide : 26 + 0 ≤ _)⟩)
            dsimp only [Pt.U, Pt.locs, Pt.cells, Pt.slots] at X1276 l1276 y1276 z1276 st1276 hQ1276
            subst l1276 y1276 z1276
            obtain ⟨rfl, u1278, u1279⟩ := hQ1276
            have N1276 := Fr.app N1271 u1278
            obtain ⟨fs, hr, hrun, hended, hEnd⟩ := X1276.leaveW (s := s) (vm₁ := T964.vm) hS964 (by rw [u1279]; exact (Nat.le_trans (Nat.le_trans (Nat.le_trans (Nat.le_trans (Nat.le_refl _) E1040.1) Ku1044.1) E1050.1) Ku1054.1)) (v := some (.int (1 : Int32))) (fun h => by rw [Bd.returns] at h; cases h)
            refine hno ⟨_, _, pre1261 _ ?_, hrun, hended, _, _, rfl, ?_, hEnd.1, hEnd.2.1, hEnd.2.2.1, hEnd.2.2.2.mono (by decide) (by decide)⟩
            · show Steps p.tables e below (T1057.setTop (mkF m 61 #[.val (.int p1), .val (.int p2), .val (.int p3), .val (.int i8), .val (.ref b38), .val (.ref b968), .val (.ref b1040), .val (.int (0 : Int32)), .val (.ref b1050), .unset] [(.int (0 : Int32))])) _
              refine XS.istore X1057.here hx rfl (hb hby at_61) rfl (l' := #[.val (.int p1), .val (.int p2), .val (.int p3), .val (.int i8), .val (.ref b38), .val (.ref b968), .val (.ref b1040), .val (.int (0 : Int32)), .val (.ref b1050), .val (.int (0 : Int32))]) rfl ?_
              refine XS.aload X1057.here hx rfl (hb hby at_63) rfl rfl ?_
              refine XS.aload X1057.here hx rfl (hb hby at_65) rfl rfl ?_
              refine st1271.trans ?_
              refine XS.iload X1271.here hx rfl (hb hby at_70) rfl ?_
              refine XS.icmpNo X1271.here hx rfl (hb hby at_72) rfl (teq (by decide +kernel : (0 : Int32) = (0 : Int32))).2 ?_
              refine XS.aload X1271.here hx rfl (hb hby at_75) rfl rfl ?_
              refine XS.aload X1271.here hx rfl (hb hby at_77) rfl rfl ?_
              refine st1276.trans ?_
              show Steps p.tables e below (T1276.setTop (mkF m 82 #[.val (.int p1), .val (.int p2), .val (.int p3), .val (.int i8), .val (.ref b38), .val (.ref b968), .val (.ref b1040), .val (.int (0 : Int32)), .val (.ref b1050), .val (.int (0 : Int32))] [(.int (0 : Int32))])) _
              refine XS.iload X1276.here hx rfl (hb hby at_82) rfl ?_
              refine XS.icmpNo X1276.here hx rfl (hb hby at_84) rfl (teq (by decide +kernel : (0 : Int32) = (0 : Int32))).2 ?_
              refine XS.iconst X1276.here hx rfl (hb hby at_87) ?_
              refine XS.goto X1276.here hx rfl (pc0 := 88) (pc' := 92) rfl (hb hby at_88) (by decide) (by decide) ?_
              show Steps p.tables e below (T1276.setTop (mkF m 92 #[.val (.int p1), .val (.int p2), .val (.int p3), .val (.int i8), .val (.ref b38), .val (.ref b968), .val (.ref b1040), .val (.int (0 : Int32)), .val (.ref b1050), .val (.int (0 : Int32))] [(.int (1 : Int32))])) _
              exact retN X1276 hx (t := .boolean) Bd.returns (by simp) (hb hby at_92) hr
            · show Q0 Z _ _ _ _ h0 n0 _ T1276.heap _
              rw [u1279]
              exact ⟨rfl, N1276⟩
          · skip
            have N1057 := Fr.app N1051 u1127
            have pre1280 : ∀ t, Steps p.tables e below (T1057.setTop (mkF m 61 #[.val (.int p1), .val (.int p2), .val (.int p3), .val (.int i8), .val (.ref b38), .val (.ref b968), .val (.ref b1040), .val (.int (0 : Int32)), .val (.ref b1050), .unset] [(.int (1 : Int32))])) t → Steps p.tables e below (s₁.setTop (entryFrame m #[(.int p1), (.int p2), (.int p3)] maxLocals)) t := by
              intro t kt
              refine pre1058 t ?_
              refine st1057 _ ?_
              exact kt
            obtain rfl : i36 = i1115 := (u1121.trans u44.symm).symm
            obtain rfl : i34 = i1111 := (u1123.trans u45.symm).symm
            obtain rfl : i35 = i1112 := (u1119.trans u42.symm).symm
            obtain rfl : i966 = i1113 := (u1124.trans u973.symm).symm
            obtain rfl : i967 = i1114 := (u1120.trans u972.symm).symm
            exact absurd (u1118.trans u971.symm) (by decide +kernel)
          · skip
            have N1057 := Fr.app N1051 u1145
            have pre1281 : ∀ t, Steps p.tables e below (T1057.setTop (mkF m 61 #[.val (.int p1), .val (.int p2), .val (.int p3), .val (.int i8), .val (.ref b38), .val (.ref b968), .val (.ref b1040), .val (.int (0 : Int32)), .val (.ref b1050), .unset] [(.int (0 : Int32))])) t → Steps p.tables e below (s₁.setTop (entryFrame m #[(.int p1), (.int p2), (.int p3)] maxLocals)) t := by
              intro t kt
              refine pre1058 t ?_
              refine st1057 _ ?_
              exact kt
            obtain rfl : i36 = i1133 := (u1139.trans u44.symm).symm
            obtain rfl : i34 = i1129 := (u1141.trans u45.symm).symm
            obtain rfl : i35 = i1130 := (u1137.trans u42.symm).symm
            obtain rfl : i966 = i1131 := (u1142.trans u973.symm).symm
            obtain rfl : i967 = i1132 := (u1138.trans u972.symm).symm
            exact absurd (u1136.trans u971.symm) (by decide +kernel)
          · skip
            have N1057 := Fr.app N1051 u1158
            have pre1282 : ∀ t, Steps p.tables e below (T1057.setTop (mkF m 61 #[.val (.int p1), .val (.int p2), .val (.int p3), .val (.int i8), .val (.ref b38), .val (.ref b968), .val (.ref b1040), .val (.int (0 : Int32)), .val (.ref b1050), .unset] [(.int (0 : Int32))])) t → Steps p.tables e below (s₁.setTop (entryFrame m #[(.int p1), (.int p2), (.int p3)] maxLocals)) t := by
              intro t kt
              refine pre1058 t ?_
              refine st1057 _ ?_
              exact kt
            obtain rfl : i34 = i1147 := (u1155.trans u45.symm).symm
            obtain rfl : i35 = i1148 := (u1153.trans u42.symm).symm
            obtain rfl : i966 = i1149 := (u1156.trans u973.symm).symm
            obtain rfl : i967 = i1150 := (u1154.trans u972.symm).symm
            exact absurd (u1152.trans u971.symm) (by decide +kernel)
          · skip
            have N1057 := Fr.app N1051 u1171
            have pre1283 : ∀ t, Steps p.tables e below (T1057.setTop (mkF m 61 #[.val (.int p1), .val (.int p2), .val (.int p3), .val (.int i8), .val (.ref b38), .val (.ref b968), .val (.ref b1040), .val (.int (0 : Int32)), .val (.ref b1050), .unset] [(.int (0 : Int32))])) t → Steps p.tables e below (s₁.setTop (entryFrame m #[(.int p1), (.int p2), (.int p3)] maxLocals)) t := by
              intro t kt
              refine pre1058 t ?_
              refine st1057 _ ?_
              exact kt
            obtain rfl : i34 = i1160 := (u1168.trans u45.symm).symm
            obtain rfl : i35 = i1161 := (u1166.trans u42.symm).symm
            exact absurd (u1164.trans u41.symm) (by decide +kernel)
          · skip
            have N1057 := Fr.app N1051 u1184
            have pre1284 : ∀ t, Steps p.tables e below (T1057.setTop (mkF m 61 #[.val (.int p1), .val (.int p2), .val (.int p3), .val (.int i8), .val (.ref b38), .val (.ref b968), .val (.ref b1040), .val (.int (0 : Int32)), .val (.ref b1050), .unset] [(.int (0 : Int32))])) t → Steps p.tables e below (s₁.setTop (entryFrame m #[(.int p1), (.int p2), (.int p3)] maxLocals)) t := by
              intro t kt
              refine pre1058 t ?_
              refine st1057 _ ?_
              exact kt
            obtain rfl : i34 = i1173 := (u1181.trans u45.symm).symm
            obtain rfl : i35 = i1174 := (u1179.trans u42.symm).symm
            exact absurd (u1177.trans u41.symm) (by decide +kernel)
          · skip
            have N1057 := Fr.app N1051 u1211
            have pre1285 : ∀ t, Steps p.tables e below (T1057.setTop (mkF m 61 #[.val (.int p1), .val (.int p2), .val (.int p3), .val (.int i8), .val (.ref b38), .val (.ref b968), .val (.ref b1040), .val (.int (0 : Int32)), .val (.ref b1050), .unset] [(.int (1 : Int32))])) t → Steps p.tables e below (s₁.setTop (entryFrame m #[(.int p1), (.int p2), (.int p3)] maxLocals)) t := by
              intro t kt
              refine pre1058 t ?_
              refine st1057 _ ?_
              exact kt
            obtain rfl : i36 = i1188 := (u1200.trans u44.symm).symm
            obtain rfl : i34 = i1194 := (u1204.trans u45.symm).symm
            obtain rfl : i35 = i1195 := (u1198.trans u42.symm).symm
            exact absurd (u1196.trans u41.symm) (by decide +kernel)
          · skip
            have N1057 := Fr.app N1051 u1238
            have pre1286 : ∀ t, Steps p.tables e below (T1057.setTop (mkF m 61 #[.val (.int p1), .val (.int p2), .val (.int p3), .val (.int i8), .val (.ref b38), .val (.ref b968), .val (.ref b1040), .val (.int (0 : Int32)), .val (.ref b1050), .unset] [(.int (0 : Int32))])) t → Steps p.tables e below (s₁.setTop (entryFrame m #[(.int p1), (.int p2), (.int p3)] maxLocals)) t := by
              intro t kt
              refine pre1058 t ?_
              refine st1057 _ ?_
              exact kt
            obtain rfl : i36 = i1215 := (u1227.trans u44.symm).symm
            obtain rfl : i34 = i1221 := (u1231.trans u45.symm).symm
            obtain rfl : i35 = i1222 := (u1225.trans u42.symm).symm
            exact absurd (u1223.trans u41.symm) (by decide +kernel)
          · skip
            have N1057 := Fr.app N1051 u1256
            have pre1287 : ∀ t, Steps p.tables e below (T1057.setTop (mkF m 61 #[.val (.int p1), .val (.int p2), .val (.int p3), .val (.int i8), .val (.ref b38), .val (.ref b968), .val (.ref b1040), .val (.int (0 : Int32)), .val (.ref b1050), .unset] [(.int (0 : Int32))])) t → Steps p.tables e below (s₁.setTop (entryFrame m #[(.int p1), (.int p2), (.int p3)] maxLocals)) t := by
              intro t kt
              refine pre1058 t ?_
              refine st1057 _ ?_
              exact kt
            obtain rfl : i36 = i1242 := (u1250.trans u44.symm).symm
            obtain rfl : i34 = i1244 := (u1252.trans u45.symm).symm
            obtain rfl : i35 = i1245 := (u1248.trans u42.symm).symm
            exact absurd (u1246.trans u41.symm) (by decide +kernel)
        · skip
          have pre1288 : ∀ t, Steps p.tables e below (T1041.setTop (mkF m 96 #[.val (.int p1), .val (.int p2), .val (.int p3), .val (.int i8), .val (.ref b38), .val (.ref b968), .val (.ref b1040), .val (.int i1047), .unset, .unset] [(.int (1 : Int32)), (.int i1047)])) t → Steps p.tables e below (s₁.setTop (entryFrame m #[(.int p1), (.int p2), (.int p3)] maxLocals)) t := by
            intro t kt
            refine pre1048 t ?_
            show Steps p.tables e below (T1041.setTop (mkF m 42 #[.val (.int p1), .val (.int p2), .val (.int p3), .val (.int i8), .val (.ref b38), .val (.ref b968), .val (.ref b1040), .val (.int i1047), .unset, .unset] [(.int i1047)])) _
            refine XS.ifYes X1041.here hx rfl (pc0 := 42) (pc' := 93) rfl (hb hby at_42) rfl ((if0 _ _).trans (feq hc1049).2) (by decide) (by decide) ?_
            refine XS.iload X1041.here hx rfl (hb hby at_93) rfl ?_
            refine XS.iconst X1041.here hx rfl (hb hby at_95) ?_
            exact kt
          by_cases hc1289 : i1047 = (1 : Int32)
          · skip
            subst hc1289
            have f1290 : Exa Z T1041.heap b968 C_0 := ((Exa.ext E1040 u980).keep Ku1044)
            obtain ⟨cq1291, kq1291, q1291a, q1291b, q1291c⟩ := isOf hZ964 rfl u1045
            obtain ⟨_, _, ⟨T1291, L1291, k1291, n1291⟩, -, X1291, ⟨Lc1291, hQ1291, l1291, y1291, z1291⟩, st1291⟩ := X1041.virtualBack hx (y := M_15) (z := M_15) hown964 (mvT hZ964 (hw _ (gw 38 rfl))) (mvT hZ964 (hw _ (gw 39 rfl))) (notFace_of_selects (args := #[]) (mvT hZ964 (hw _ (gw 41 rfl)))) (mvT hZ964 (hw _ (gw 41 rfl))) (mvT hZ964 (hw _ (gw 40 rfl))) (by decide) (backOf (W := 0) (rm7_20 l Z a0 hw [] b1040 b968 T1041.heap n0  Ou1044 f1290) hZ964 (hw _ (gw 42 rfl)) (hw _ (gw 31 rfl)) (by decide) (by decide)) q1291a q1291c (g := (mkF m 107 #[.val (.int p1), .val (.int p2), .val (.int p3), .val (.int i8), .val (.ref b38), .val (.ref b968), .val (.ref b1040), .val (.int (1 : Int32)), .val (.ref b968), .unset] [(.ref b968), (.ref b1040)])) rfl (by rw [hml]; rfl) (Steps.refl _) (argsL := [(.ref b968)]) (rest := []) (lenOf pd_14 rfl) rfl (by show 2 * 0 + _ ≤ _; exact Nat.le_of_eq rfl) (hb hby at_107) (fun _ _ => ⟨rfl, rfl, (by decide : 13 + 0 ≤ _), (by decide : 25 + 0 ≤ _)⟩)
            dsimp only [Pt.U, Pt.locs, Pt.cells, Pt.slots] at X1291 l1291 y1291 z1291 st1291 hQ1291
            subst l1291 y1291 z1291
            obtain ⟨rfl, u1293, u1294⟩ := hQ1291
            have N1291 := Fr.app N1041 u1293
            obtain ⟨fs, hr, hrun, hended, hEnd⟩ := X1291.leaveW (s := s) (vm₁ := T964.vm) hS964 (by rw [u1294]; exact (Nat.le_trans (Nat.le_trans (Nat.le_refl _) E1040.1) Ku1044.1)) (v := some (.int (1 : Int32))) (fun h => by rw [Bd.returns] at h; cases h)
            refine hno ⟨_, _, pre1288 _ ?_, hrun, hended, _, _, rfl, ?_, hEnd.1, hEnd.2.1, hEnd.2.2.1, hEnd.2.2.2.mono (by decide) (by decide)⟩
            · show Steps p.tables e below (T1041.setTop (mkF m 96 #[.val (.int p1), .val (.int p2), .val (.int p3), .val (.int i8), .val (.ref b38), .val (.ref b968), .val (.ref b1040), .val (.int (1 : Int32)), .unset, .unset] [(.int (1 : Int32)), (.int (1 : Int32))])) _
              refine XS.icmpNo X1041.here hx rfl (hb hby at_96) rfl (teq (by decide +kernel : (1 : Int32) = (1 : Int32))).2 ?_
              refine XS.aload X1041.here hx rfl (hb hby at_99) rfl rfl ?_
              refine XS.astore X1041.here hx rfl (hb hby at_101) rfl rfl (l' := #[.val (.int p1), .val (.int p2), .val (.int p3), .val (.int i8), .val (.ref b38), .val (.ref b968), .val (.ref b1040), .val (.int (1 : Int32)), .val (.ref b968), .unset]) rfl ?_
              refine XS.aload X1041.here hx rfl (hb hby at_103) rfl rfl ?_
              refine XS.aload X1041.here hx rfl (hb hby at_105) rfl rfl ?_
              refine st1291.trans ?_
              refine XS.ifNo X1291.here hx rfl (hb hby at_110) rfl ((if0 _ _).trans (teq (by decide +kernel : (0 : Int32) = (0 : Int32))).2) ?_
              refine XS.iconst X1291.here hx rfl (hb hby at_113) ?_
              refine XS.goto X1291.here hx rfl (pc0 := 114) (pc' := 118) rfl (hb hby at_114) (by decide) (by decide) ?_
              show Steps p.tables e below (T1291.setTop (mkF m 118 #[.val (.int p1), .val (.int p2), .val (.int p3), .val (.int i8), .val (.ref b38), .val (.ref b968), .val (.ref b1040), .val (.int (1 : Int32)), .val (.ref b968), .unset] [(.int (1 : Int32))])) _
              exact retN X1291 hx (t := .boolean) Bd.returns (by simp) (hb hby at_118) hr
            · show Q0 Z _ _ _ _ h0 n0 _ T1291.heap _
              rw [u1294]
              exact ⟨rfl, N1291⟩
          · skip
            have pre1295 : ∀ t, Steps p.tables e below (T1041.setTop (mkF m 122 #[.val (.int p1), .val (.int p2), .val (.int p3), .val (.int i8), .val (.ref b38), .val (.ref b968), .val (.ref b1040), .val (.int i1047), .unset, .unset] [(.int (2 : Int32)), (.int i1047)])) t → Steps p.tables e below (s₁.setTop (entryFrame m #[(.int p1), (.int p2), (.int p3)] maxLocals)) t := by
              intro t kt
              refine pre1288 t ?_
              show Steps p.tables e below (T1041.setTop (mkF m 96 #[.val (.int p1), .val (.int p2), .val (.int p3), .val (.int i8), .val (.ref b38), .val (.ref b968), .val (.ref b1040), .val (.int i1047), .unset, .unset] [(.int (1 : Int32)), (.int i1047)])) _
              refine XS.icmpYes X1041.here hx rfl (pc0 := 96) (pc' := 119) rfl (hb hby at_96) rfl (feq hc1289).2 (by decide) (by decide) ?_
              refine XS.iload X1041.here hx rfl (hb hby at_119) rfl ?_
              refine XS.iconst X1041.here hx rfl (hb hby at_121) ?_
              exact kt
            by_cases hc1296 : i1047 = (2 : Int32)
            · skip
              subst hc1296
              obtain ⟨cq1297, kq1297, q1297a, q1297b, q1297c⟩ := isOf hZ964 rfl u1045
              obtain ⟨_, _, ⟨T1297, L1297, k1297, n1297⟩, -, X1297, ⟨Lc1297, hQ1297, l1297, y1297, z1297⟩, st1297⟩ := X1041.virtualBack hx (y := M_15) (z := M_15) hown964 (mvT hZ964 (hw _ (gw 38 rfl))) (mvT hZ964 (hw _ (gw 39 rfl))) (notFace_of_selects (args := #[]) (mvT hZ964 (hw _ (gw 41 rfl)))) (mvT hZ964 (hw _ (gw 41 rfl))) (mvT hZ964 (hw _ (gw 40 rfl))) (by decide) (backOf (W := 0) (rm7_21 l Z a0 hw [] b1040 T1041.heap n0  Ou1044) hZ964 (hw _ (gw 42 rfl)) (hw _ (gw 31 rfl)) (by decide) (by decide)) q1297a q1297c (g := (mkF m 128 #[.val (.int p1), .val (.int p2), .val (.int p3), .val (.int i8), .val (.ref b38), .val (.ref b968), .val (.ref b1040), .val (.int (2 : Int32)), .unset, .unset] [.null, (.ref b1040)])) rfl (by rw [hml]; rfl) (Steps.refl _) (argsL := [.null]) (rest := []) (lenOf pd_14 rfl) rfl (by show 2 * 0 + _ ≤ _; exact Nat.le_of_eq rfl) (hb hby at_128) (fun _ _ => ⟨rfl, rfl, (by decide : 13 + 0 ≤ _), (by decide : 25 + 0 ≤ _)⟩)
              dsimp only [Pt.U, Pt.locs, Pt.cells, Pt.slots] at X1297 l1297 y1297 z1297 st1297 hQ1297
              subst l1297 y1297 z1297
              obtain ⟨rfl, u1299, u1300⟩ := hQ1297
              have N1297 := Fr.app N1041 u1299
              obtain ⟨fs, hr, hrun, hended, hEnd⟩ := X1297.leaveW (s := s) (vm₁ := T964.vm) hS964 (by rw [u1300]; exact (Nat.le_trans (Nat.le_trans (Nat.le_refl _) E1040.1) Ku1044.1)) (v := some (.int (1 : Int32))) (fun h => by rw [Bd.returns] at h; cases h)
              refine hno ⟨_, _, pre1295 _ ?_, hrun, hended, _, _, rfl, ?_, hEnd.1, hEnd.2.1, hEnd.2.2.1, hEnd.2.2.2.mono (by decide) (by decide)⟩
              · show Steps p.tables e below (T1041.setTop (mkF m 122 #[.val (.int p1), .val (.int p2), .val (.int p3), .val (.int i8), .val (.ref b38), .val (.ref b968), .val (.ref b1040), .val (.int (2 : Int32)), .unset, .unset] [(.int (2 : Int32)), (.int (2 : Int32))])) _
                refine XS.icmpNo X1041.here hx rfl (hb hby at_122) rfl (teq (by decide +kernel : (2 : Int32) = (2 : Int32))).2 ?_
                refine XS.aload X1041.here hx rfl (hb hby at_125) rfl rfl ?_
                refine XS.aconstNull X1041.here hx rfl (hb hby at_127) ?_
                refine st1297.trans ?_
                refine XS.ifNo X1297.here hx rfl (hb hby at_131) rfl ((if0 _ _).trans (teq (by decide +kernel : (0 : Int32) = (0 : Int32))).2) ?_
                refine XS.iconst X1297.here hx rfl (hb hby at_134) ?_
                refine XS.goto X1297.here hx rfl (pc0 := 135) (pc' := 139) rfl (hb hby at_135) (by decide) (by decide) ?_
                show Steps p.tables e below (T1297.setTop (mkF m 139 #[.val (.int p1), .val (.int p2), .val (.int p3), .val (.int i8), .val (.ref b38), .val (.ref b968), .val (.ref b1040), .val (.int (2 : Int32)), .unset, .unset] [(.int (1 : Int32))])) _
                exact retN X1297 hx (t := .boolean) Bd.returns (by simp) (hb hby at_139) hr
              · show Q0 Z _ _ _ _ h0 n0 _ T1297.heap _
                rw [u1300]
                exact ⟨rfl, N1297⟩
            · skip
              have f1301 : Exa Z T1041.heap b38 C_0 := ((Exa.ext E1040 (u54.keep Ku979)).keep Ku1044)
              obtain ⟨cq1302, kq1302, q1302a, q1302b, q1302c⟩ := isOf hZ964 rfl u1045
              obtain ⟨_, _, ⟨T1302, L1302, k1302, n1302⟩, -, X1302, ⟨Lc1302, hQ1302, l1302, y1302, z1302⟩, st1302⟩ := X1041.virtualBack hx (y := M_15) (z := M_15) hown964 (mvT hZ964 (hw _ (gw 38 rfl))) (mvT hZ964 (hw _ (gw 39 rfl))) (notFace_of_selects (args := #[]) (mvT hZ964 (hw _ (gw 41 rfl)))) (mvT hZ964 (hw _ (gw 41 rfl))) (mvT hZ964 (hw _ (gw 40 rfl))) (by decide) (backOf (W := 0) (rm7_22 l Z a0 hw [] b1040 b38 T1041.heap n0  Ou1044 u1045 u1046 f1301) hZ964 (hw _ (gw 42 rfl)) (hw _ (gw 31 rfl)) (by decide) (by decide)) q1302a q1302c (g := (mkF m 148 #[.val (.int p1), .val (.int p2), .val (.int p3), .val (.int i8), .val (.ref b38), .val (.ref b968), .val (.ref b1040), .val (.int i1047), .val (.ref b1040), .unset] [(.ref b1040), (.ref b1040)])) rfl (by rw [hml]; rfl) (Steps.refl _) (argsL := [(.ref b1040)]) (rest := []) (lenOf pd_14 rfl) rfl (by show 2 * 0 + _ ≤ _; exact Nat.le_of_eq rfl) (hb hby at_148) (fun _ _ => ⟨rfl, rfl, (by decide : 13 + 0 ≤ _), (by decide : 25 + 0 ≤ _)⟩)
              dsimp only [Pt.U, Pt.locs, Pt.cells, Pt.slots] at X1302 l1302 y1302 z1302 st1302 hQ1302
              subst l1302 y1302 z1302
              obtain ⟨rfl, u1304, u1305⟩ := hQ1302
              have N1302 := Fr.app N1041 u1304
              obtain ⟨fs, hr, hrun, hended, hEnd⟩ := X1302.leaveW (s := s) (vm₁ := T964.vm) hS964 (by rw [u1305]; exact (Nat.le_trans (Nat.le_trans (Nat.le_refl _) E1040.1) Ku1044.1)) (v := some (.int (1 : Int32))) (fun h => by rw [Bd.returns] at h; cases h)
              refine hno ⟨_, _, pre1295 _ ?_, hrun, hended, _, _, rfl, ?_, hEnd.1, hEnd.2.1, hEnd.2.2.1, hEnd.2.2.2.mono (by decide) (by decide)⟩
              · show Steps p.tables e below (T1041.setTop (mkF m 122 #[.val (.int p1), .val (.int p2), .val (.int p3), .val (.int i8), .val (.ref b38), .val (.ref b968), .val (.ref b1040), .val (.int i1047), .unset, .unset] [(.int (2 : Int32)), (.int i1047)])) _
                refine XS.icmpYes X1041.here hx rfl (pc0 := 122) (pc' := 140) rfl (hb hby at_122) rfl (feq hc1296).2 (by decide) (by decide) ?_
                refine XS.aload X1041.here hx rfl (hb hby at_140) rfl rfl ?_
                refine XS.astore X1041.here hx rfl (hb hby at_142) rfl rfl (l' := #[.val (.int p1), .val (.int p2), .val (.int p3), .val (.int i8), .val (.ref b38), .val (.ref b968), .val (.ref b1040), .val (.int i1047), .val (.ref b1040), .unset]) rfl ?_
                refine XS.aload X1041.here hx rfl (hb hby at_144) rfl rfl ?_
                refine XS.aload X1041.here hx rfl (hb hby at_146) rfl rfl ?_
                refine st1302.trans ?_
                show Steps p.tables e below (T1302.setTop (mkF m 151 #[.val (.int p1), .val (.int p2), .val (.int p3), .val (.int i8), .val (.ref b38), .val (.ref b968), .val (.ref b1040), .val (.int i1047), .val (.ref b1040), .unset] [(.int (1 : Int32))])) _
                exact retN X1302 hx (t := .boolean) Bd.returns (by simp) (hb hby at_151) hr
              · show Q0 Z _ _ _ _ h0 n0 _ T1302.heap _
                rw [u1305]
                exact ⟨rfl, N1302⟩
      · skip
        have Ou1003 : Old Z n0 T964.heap := Ou53.keep Ku1003 all0
        have chu1003 := cg964
        have CRu1003 := CRu53.trans chu1003
        have g_b988 : n0 ≤ b988 := Nat.le_trans (own_z Ou53) u998
        have sz_b988 : h0.size ≤ b988 := Nat.le_trans Ku53.1 u998
        have g_b989 : n0 ≤ b989 := Nat.le_trans (own_z Ou53) u1000
        have sz_b989 : h0.size ≤ b989 := Nat.le_trans Ku53.1 u1000
        have N964 := Fr.app N14 u997
        obtain ⟨T1306, h1306, X1306, e1306, E1306, A1306, D1306, -, st1306⟩ := newO X964 hx hZ964 hown964 (hw _ (gw 29 rfl)) (hw _ (gw 30 rfl)) (hw _ (gw 31 rfl)) rfl (g := (mkF m 24 #[.val (.int p1), .val (.int p2), .val (.int p3), .val (.int i8), .val (.ref b38), .val (.ref b988), .unset, .unset, .unset, .unset] [])) rfl (hb hby at_24) (by decide) (by decide)
        obtain ⟨b1306, g1306⟩ : ∃ z, z = T964.heap.size := ⟨_, rfl⟩
        rw [← g1306] at A1306 D1306 st1306
        have O1306 : Old Z n0 h1306 := Ou1003.ext E1306
        have ch1306 := CHr.ext E1306 CRu1003.1
        have CR1306 := CRu1003.trans ch1306
        have bd_b1306 : T964.heap.size ≤ b1306 := Nat.le_of_eq g1306.symm
        have g_b1306 : n0 ≤ b1306 := Nat.le_trans (own_z Ou1003) bd_b1306
        have sz_b1306 : h0.size ≤ b1306 := Nat.le_trans (Nat.le_trans Ku53.1 Ku1003.1) bd_b1306
        have lt_b1306 : b1306 < h1306.size := A1306.lt
        have sfb_b1306 : Safe Z own_EL T964.vm h1306 b1306 := Safe.ext E1306 CRu1003.1 (Safe.new bd_b1306)
        have D1306_37 : Fld Z h1306 b1306 C_1 "written" C_2 .null := D1306 (Or.inr (hw _ (gw 37 rfl))) (ty := (.object "java/lang/String")) (by decide)
        obtain ⟨_, _, ⟨T1307, L1307, k1307, n1307⟩, -, X1307, ⟨Lc1307, hQ1307, l1307, y1307, z1307⟩, st1307⟩ := X1306.specialBack hx (y := M_11) rfl hown964 (mvT hZ964 (hw _ (gw 32 rfl))) (mvT hZ964 (hw _ (gw 33 rfl))) (mvT hZ964 (hw _ (gw 34 rfl))) (by decide) (backOf (W := 1) (rm6_15 l Z a0 hw [] b1306 b38 h1306 n0  O1306 A1306 D1306_37 g_b1306) hZ964 (hw _ (gw 34 rfl)) (hw _ (gw 31 rfl)) (by decide) (by decide)) (g := (mkF m 30 #[.val (.int p1), .val (.int p2), .val (.int p3), .val (.int i8), .val (.ref b38), .val (.ref b988), .unset, .unset, .unset, .unset] [(.ref b38), (.ref b1306), (.ref b1306)])) rfl (by rw [hml]; rfl) (Steps.refl _) (a := b1306) (argsL := [(.ref b38)]) (rest := [(.ref b1306)]) (lenOf pd_11 rfl) rfl (by show 2 * 0 + _ ≤ _; exact Nat.le_of_eq rfl) (hb hby at_30) (fun _ _ => ⟨rfl, e1306, (by decide : 13 + 0 ≤ _), (by decide : 25 + 0 ≤ _)⟩)
        dsimp only [Pt.U, Pt.locs, Pt.cells, Pt.slots] at X1307 l1307 y1307 z1307 st1307 hQ1307
        subst l1307 y1307 z1307
        obtain ⟨rfl, u1309, Ku1310, u1311, u1312⟩ := hQ1307
        have Ou1310 : Old Z n0 T1307.heap := O1306.keep Ku1310 (allS g_b1306 all0)
        have chu1310 := CHr.keep Ku1310 (allS (Safe.exa hZ964.alike A1306 (by decide) (by decide)) all0) CR1306.1
        have CRu1310 := CR1306.trans chu1310
        have N1307 := Fr.app N964 u1309
        obtain ⟨i1313, hi1313⟩ : ∃ z, z = (p3 &&& (3 : Int32)) := ⟨_, rfl⟩
        have pre1314 : ∀ t, Steps p.tables e below (T1307.setTop (mkF m 42 #[.val (.int p1), .val (.int p2), .val (.int p3), .val (.int i8), .val (.ref b38), .val (.ref b988), .val (.ref b1306), .val (.int i1313), .unset, .unset] [(.int i1313)])) t → Steps p.tables e below (s₁.setTop (entryFrame m #[(.int p1), (.int p2), (.int p3)] maxLocals)) t := by
          intro t kt
          refine pre965 t ?_
          refine st964.trans ?_
          show Steps p.tables e below (T964.setTop (mkF m 22 #[.val (.int p1), .val (.int p2), .val (.int p3), .val (.int i8), .val (.ref b38), .unset, .unset, .unset, .unset, .unset] [(.ref b988)])) _
          refine XS.astore X964.here hx rfl (hb hby at_22) rfl rfl (l' := #[.val (.int p1), .val (.int p2), .val (.int p3), .val (.int i8), .val (.ref b38), .val (.ref b988), .unset, .unset, .unset, .unset]) rfl ?_
          refine st1306 _ ?_
          refine XS.dup X1306.here hx rfl (hb hby at_27) rfl rfl ?_
          refine XS.aload X1306.here hx rfl (hb hby at_28) rfl rfl ?_
          refine st1307.trans ?_
          refine XS.astore X1307.here hx rfl (hb hby at_33) rfl rfl (l' := #[.val (.int p1), .val (.int p2), .val (.int p3), .val (.int i8), .val (.ref b38), .val (.ref b988), .val (.ref b1306), .unset, .unset, .unset]) rfl ?_
          refine XS.iloadN X1307.here hx rfl (hb hby at_35) rfl ?_
          refine XS.iconst X1307.here hx rfl (hb hby at_36) ?_
          refine XS.iand X1307.here hx rfl (hb hby at_37) rfl ?_
          show Steps p.tables e below (T1307.setTop (mkF m 38 #[.val (.int p1), .val (.int p2), .val (.int p3), .val (.int i8), .val (.ref b38), .val (.ref b988), .val (.ref b1306), .unset, .unset, .unset] [(.int (p3 &&& (3 : Int32)))])) _
          rw [← hi1313]
          refine XS.istore X1307.here hx rfl (hb hby at_38) rfl (l' := #[.val (.int p1), .val (.int p2), .val (.int p3), .val (.int i8), .val (.ref b38), .val (.ref b988), .val (.ref b1306), .val (.int i1313), .unset, .unset]) rfl ?_
          refine XS.iload X1307.here hx rfl (hb hby at_40) rfl ?_
          exact kt
        by_cases hc1315 : i1313 = (0 : Int32)
        · skip
          subst hc1315
          obtain ⟨T1316, h1316, X1316, e1316, E1316, A1316, D1316, -, st1316⟩ := newO X1307 hx hZ964 hown964 (hw _ (gw 29 rfl)) (hw _ (gw 30 rfl)) (hw _ (gw 31 rfl)) rfl (g := (mkF m 45 #[.val (.int p1), .val (.int p2), .val (.int p3), .val (.int i8), .val (.ref b38), .val (.ref b988), .val (.ref b1306), .val (.int (0 : Int32)), .unset, .unset] [])) rfl (hb hby at_45) (by decide) (by decide)
          obtain ⟨b1316, g1316⟩ : ∃ z, z = T1307.heap.size := ⟨_, rfl⟩
          rw [← g1316] at A1316 D1316 st1316
          have O1316 : Old Z n0 h1316 := Ou1310.ext E1316
          have ch1316 := CHr.ext E1316 CRu1310.1
          have CR1316 := CRu1310.trans ch1316
          have bd_b1316 : T1307.heap.size ≤ b1316 := Nat.le_of_eq g1316.symm
          have g_b1316 : n0 ≤ b1316 := Nat.le_trans (own_z Ou1310) bd_b1316
          have sz_b1316 : h0.size ≤ b1316 := Nat.le_trans (Nat.le_trans (Nat.le_trans (Nat.le_trans Ku53.1 Ku1003.1) E1306.1) Ku1310.1) bd_b1316
          have lt_b1316 : b1316 < h1316.size := A1316.lt
          have sfb_b1316 : Safe Z own_EL T964.vm h1316 b1316 := Safe.ext E1316 CRu1310.1 (Safe.new bd_b1316)
          have D1316_37 : Fld Z h1316 b1316 C_1 "written" C_2 .null := D1316 (Or.inr (hw _ (gw 37 rfl))) (ty := (.object "java/lang/String")) (by decide)
          obtain ⟨_, _, ⟨T1317, L1317, k1317, n1317⟩, -, X1317, ⟨Lc1317, hQ1317, l1317, y1317, z1317⟩, st1317⟩ := X1316.specialBack hx (y := M_11) rfl hown964 (mvT hZ964 (hw _ (gw 32 rfl))) (mvT hZ964 (hw _ (gw 33 rfl))) (mvT hZ964 (hw _ (gw 34 rfl))) (by decide) (backOf (W := 1) (rm6_15 l Z a0 hw [] b1316 b988 h1316 n0  O1316 A1316 D1316_37 g_b1316) hZ964 (hw _ (gw 34 rfl)) (hw _ (gw 31 rfl)) (by decide) (by decide)) (g := (mkF m 51 #[.val (.int p1), .val (.int p2), .val (.int p3), .val (.int i8), .val (.ref b38), .val (.ref b988), .val (.ref b1306), .val (.int (0 : Int32)), .unset, .unset] [(.ref b988), (.ref b1316), (.ref b1316)])) rfl (by rw [hml]; rfl) (Steps.refl _) (a := b1316) (argsL := [(.ref b988)]) (rest := [(.ref b1316)]) (lenOf pd_11 rfl) rfl (by show 2 * 0 + _ ≤ _; exact Nat.le_of_eq rfl) (hb hby at_51) (fun _ _ => ⟨rfl, e1316, (by decide : 14 + 0 ≤ _), (by decide : 26 + 0 ≤ _)⟩)
          dsimp only [Pt.U, Pt.locs, Pt.cells, Pt.slots] at X1317 l1317 y1317 z1317 st1317 hQ1317
          subst l1317 y1317 z1317
          obtain ⟨rfl, u1319, Ku1320, u1321, u1322⟩ := hQ1317
          have Ou1320 : Old Z n0 T1317.heap := O1316.keep Ku1320 (allS g_b1316 all0)
          have chu1320 := CHr.keep Ku1320 (allS (Safe.exa hZ964.alike A1316 (by decide) (by decide)) all0) CR1316.1
          have CRu1320 := CR1316.trans chu1320
          have N1317 := Fr.app N1307 u1319
          have pre1324 : ∀ t, Steps p.tables e below (T1317.setTop (mkF m 58 #[.val (.int p1), .val (.int p2), .val (.int p3), .val (.int i8), .val (.ref b38), .val (.ref b988), .val (.ref b1306), .val (.int (0 : Int32)), .val (.ref b1316), .unset] [(.int i8), (.int p1)])) t → Steps p.tables e below (s₁.setTop (entryFrame m #[(.int p1), (.int p2), (.int p3)] maxLocals)) t := by
            intro t kt
            refine pre1314 t ?_
            show Steps p.tables e below (T1307.setTop (mkF m 42 #[.val (.int p1), .val (.int p2), .val (.int p3), .val (.int i8), .val (.ref b38), .val (.ref b988), .val (.ref b1306), .val (.int (0 : Int32)), .unset, .unset] [(.int (0 : Int32))])) _
            refine XS.ifNo X1307.here hx rfl (hb hby at_42) rfl ((if0 _ _).trans (teq (by decide +kernel : (0 : Int32) = (0 : Int32))).2) ?_
            refine st1316 _ ?_
            refine XS.dup X1316.here hx rfl (hb hby at_48) rfl rfl ?_
            refine XS.aload X1316.here hx rfl (hb hby at_49) rfl rfl ?_
            refine st1317.trans ?_
            refine XS.astore X1317.here hx rfl (hb hby at_54) rfl rfl (l' := #[.val (.int p1), .val (.int p2), .val (.int p3), .val (.int i8), .val (.ref b38), .val (.ref b988), .val (.ref b1306), .val (.int (0 : Int32)), .val (.ref b1316), .unset]) rfl ?_
            refine XS.iloadN X1317.here hx rfl (hb hby at_56) rfl ?_
            refine XS.iloadN X1317.here hx rfl (hb hby at_57) rfl ?_
            show Steps p.tables e below (T1317.setTop (mkF m 58 #[.val (.int p1), .val (.int p2), .val (.int p3), .val (.int i8), .val (.ref b38), .val (.ref b988), .val (.ref b1306), .val (.int (0 : Int32)), .val (.ref b1316), .unset] [(.int i8), (.int p1)])) _
            exact kt
          obtain ⟨_, _, ⟨T1323, L1323, k1323, n1323⟩, -, X1323, ⟨Lc1323, hQ1323, l1323, y1323, z1323⟩, st1323⟩ := Jvm.LawKit.callS X1317 hx (y := M_12) hown964 (mvT hZ964 (hw _ (gw 77 rfl))) (mvT hZ964 (hw _ (gw 78 rfl))) (mvT hZ964 (hw _ (gw 2 rfl))) (mvT hZ964 (hw _ (gw 79 rfl))) (by decide) (backOf (W := 0) (rm16_16 l Z a0 hw [] p1 i8 T1317.heap n0  Ou1320) hZ964 (hw _ (gw 79 rfl)) (hw _ (gw 2 rfl)) (by decide) (by decide)) (g := (mkF m 58 #[.val (.int p1), .val (.int p2), .val (.int p3), .val (.int i8), .val (.ref b38), .val (.ref b988), .val (.ref b1306), .val (.int (0 : Int32)), .val (.ref b1316), .unset] [(.int i8), (.int p1)])) rfl (by rw [hml]; rfl) (argsL := [(.int p1), (.int i8)]) (rest := []) (lenOf pd_12 rfl) rfl (by show 2 * 0 + _ ≤ _; exact Nat.le_of_eq rfl) (hb hby at_58) (fun _ _ => ⟨rfl, rfl, (by decide : 14 + 0 ≤ _), (by decide : 26 + 0 ≤ _)⟩)
          dsimp only [Pt.U, Pt.locs, Pt.cells, Pt.slots] at X1323 l1323 y1323 z1323 st1323 hQ1323
          subst l1323 y1323 z1323
          rcases hQ1323 with ⟨i1325, i1326, i1327, i1328, u1329, u1330, u1331, u1332, u1333, u1334, rfl, u1336, u1337⟩ | ⟨i1338, i1339, i1340, i1341, u1342, u1343, u1344, u1345, u1346, u1347, rfl, u1349, u1350⟩ | ⟨i1351, i1352, i1353, i1354, u1355, u1356, u1357, u1358, u1359, u1360, rfl, u1362, u1363⟩ | ⟨i1364, i1365, i1366, i1367, u1368, u1369, u1370, u1371, u1372, u1373, rfl, u1375, u1376⟩ | ⟨i1377, i1378, i1379, i1380, i1381, i1382, u1383, u1384, u1385, u1386, u1387, u1388, u1389, u1390, u1391, rfl, u1393, u1394⟩ | ⟨i1395, i1396, i1397, i1398, i1399, i1400, u1401, u1402, u1403, u1404, u1405, u1406, u1407, u1408, u1409, rfl, u1411, u1412⟩ | ⟨i1413, i1414, i1415, i1416, u1417, u1418, u1419, u1420, u1421, u1422, rfl, u1424, u1425⟩ | ⟨i1426, i1427, i1428, i1429, u1430, u1431, u1432, u1433, u1434, u1435, rfl, u1437, u1438⟩ | ⟨i1439, i1440, i1441, i1442, u1443, u1444, u1445, u1446, u1447, u1448, rfl, u1450, u1451⟩ | ⟨i1452, i1453, i1454, i1455, i1456, i1457, i1458, i1459, i1460, i1461, u1462, u1463, u1464, u1465, u1466, u1467, u1468, u1469, u1470, u1471, u1472, u1473, u1474, u1475, rfl, u1477, u1478⟩ | ⟨i1479, i1480, i1481, i1482, i1483, i1484, i1485, i1486, i1487, i1488, u1489, u1490, u1491, u1492, u1493, u1494, u1495, u1496, u1497, u1498, u1499, u1500, u1501, u1502, rfl, u1504, u1505⟩ | ⟨i1506, i1507, i1508, i1509, i1510, i1511, u1512, u1513, u1514, u1515, u1516, u1517, u1518, u1519, u1520, rfl, u1522, u1523⟩
          · skip
            have N1323 := Fr.app N1317 u1336
            have pre1524 : ∀ t, Steps p.tables e below (T1323.setTop (mkF m 61 #[.val (.int p1), .val (.int p2), .val (.int p3), .val (.int i8), .val (.ref b38), .val (.ref b988), .val (.ref b1306), .val (.int (0 : Int32)), .val (.ref b1316), .unset] [(.int (1 : Int32))])) t → Steps p.tables e below (s₁.setTop (entryFrame m #[(.int p1), (.int p2), (.int p3)] maxLocals)) t := by
              intro t kt
              refine pre1324 t ?_
              refine st1323 _ ?_
              exact kt
            obtain rfl : i34 = i1327 := (u1333.trans u45.symm).symm
            obtain rfl : i35 = i1328 := (u1331.trans u42.symm).symm
            exact absurd (u1329.trans u41.symm) (by decide +kernel)
          · skip
            have N1323 := Fr.app N1317 u1349
            have pre1525 : ∀ t, Steps p.tables e below (T1323.setTop (mkF m 61 #[.val (.int p1), .val (.int p2), .val (.int p3), .val (.int i8), .val (.ref b38), .val (.ref b988), .val (.ref b1306), .val (.int (0 : Int32)), .val (.ref b1316), .unset] [(.int (0 : Int32))])) t → Steps p.tables e below (s₁.setTop (entryFrame m #[(.int p1), (.int p2), (.int p3)] maxLocals)) t := by
              intro t kt
              refine pre1324 t ?_
              refine st1323 _ ?_
              exact kt
            obtain rfl : i34 = i1340 := (u1346.trans u45.symm).symm
            obtain rfl : i35 = i1341 := (u1344.trans u42.symm).symm
            exact absurd (u1342.trans u41.symm) (by decide +kernel)
          · skip
            have N1323 := Fr.app N1317 u1362
            have pre1526 : ∀ t, Steps p.tables e below (T1323.setTop (mkF m 61 #[.val (.int p1), .val (.int p2), .val (.int p3), .val (.int i8), .val (.ref b38), .val (.ref b988), .val (.ref b1306), .val (.int (0 : Int32)), .val (.ref b1316), .unset] [(.int (0 : Int32))])) t → Steps p.tables e below (s₁.setTop (entryFrame m #[(.int p1), (.int p2), (.int p3)] maxLocals)) t := by
              intro t kt
              refine pre1324 t ?_
              refine st1323 _ ?_
              exact kt
            obtain rfl : i34 = i1353 := (u1359.trans u45.symm).symm
            obtain rfl : i35 = i1354 := (u1357.trans u42.symm).symm
            exact absurd (u1355.trans u41.symm) (by decide +kernel)
          · skip
            have N1323 := Fr.app N1317 u1375
            have pre1527 : ∀ t, Steps p.tables e below (T1323.setTop (mkF m 61 #[.val (.int p1), .val (.int p2), .val (.int p3), .val (.int i8), .val (.ref b38), .val (.ref b988), .val (.ref b1306), .val (.int (0 : Int32)), .val (.ref b1316), .unset] [(.int (0 : Int32))])) t → Steps p.tables e below (s₁.setTop (entryFrame m #[(.int p1), (.int p2), (.int p3)] maxLocals)) t := by
              intro t kt
              refine pre1324 t ?_
              refine st1323 _ ?_
              exact kt
            obtain rfl : i34 = i1364 := (u1372.trans u45.symm).symm
            obtain rfl : i35 = i1365 := (u1370.trans u42.symm).symm
            obtain rfl : i984 = i1366 := (u1373.trans u995.symm).symm
            obtain rfl : i985 = i1367 := (u1371.trans u992.symm).symm
            exact absurd (u1369.trans u991.symm) (by decide +kernel)
          · skip
            have N1323 := Fr.app N1317 u1393
            have pre1528 : ∀ t, Steps p.tables e below (T1323.setTop (mkF m 61 #[.val (.int p1), .val (.int p2), .val (.int p3), .val (.int i8), .val (.ref b38), .val (.ref b988), .val (.ref b1306), .val (.int (0 : Int32)), .val (.ref b1316), .unset] [(.int (1 : Int32))])) t → Steps p.tables e below (s₁.setTop (entryFrame m #[(.int p1), (.int p2), (.int p3)] maxLocals)) t := by
              intro t kt
              refine pre1324 t ?_
              refine st1323 _ ?_
              exact kt
            obtain rfl : i36 = i1381 := (u1387.trans u44.symm).symm
            obtain rfl : i986 = i1382 := (u1388.trans u994.symm).symm
            obtain rfl : i34 = i1377 := (u1389.trans u45.symm).symm
            obtain rfl : i35 = i1378 := (u1385.trans u42.symm).symm
            obtain rfl : i984 = i1379 := (u1390.trans u995.symm).symm
            obtain rfl : i985 = i1380 := (u1386.trans u992.symm).symm
            have f1529 : Fld Z T1317.heap b1306 C_1 "written" C_2 (.ref b38) := ((Fld.ext E1316 u1312).keep Ku1320 (ninS (Nat.ne_of_lt (Nat.lt_of_lt_of_le (Nat.lt_of_lt_of_le lt_b1306 Ku1310.1) bd_b1316)) nin0))
            have f1530 : Exa Z T1317.heap b988 C_0 := ((Exa.ext E1316 ((Exa.ext E1306 u1004).keep Ku1310)).keep Ku1320)
            have f1531 : Exa Z T1317.heap b38 C_0 := ((Exa.ext E1316 ((Exa.ext E1306 (u54.keep Ku1003)).keep Ku1310)).keep Ku1320)
            have f1532 : Fld Z T1317.heap b988 C_0 "coder" "B" (.int (0 : Int32)) := ((Fld.ext E1316 ((Fld.ext E1306 u1005).keep Ku1310 (ninS (Nat.ne_of_lt (Nat.lt_of_lt_of_le u999 bd_b1306)) nin0))).keep Ku1320 (ninS (Nat.ne_of_lt (Nat.lt_of_lt_of_le (Nat.lt_of_lt_of_le (Nat.lt_of_lt_of_le u999 E1306.1) Ku1310.1) bd_b1316)) nin0))
            have f1533 : Fld Z T1317.heap b38 C_0 "coder" "B" (.int (0 : Int32)) := ((Fld.ext E1316 ((Fld.ext E1306 (u55.keep Ku1003 nin0)).keep Ku1310 (ninS (Nat.ne_of_lt (Nat.lt_of_lt_of_le (Nat.lt_of_lt_of_le u49 Ku1003.1) bd_b1306)) nin0))).keep Ku1320 (ninS (Nat.ne_of_lt (Nat.lt_of_lt_of_le (Nat.lt_of_lt_of_le (Nat.lt_of_lt_of_le (Nat.lt_of_lt_of_le u49 Ku1003.1) E1306.1) Ku1310.1) bd_b1316)) nin0))
            have f1534 : Fld Z T1317.heap b988 C_0 "value" "[B" (.ref b989) := ((Fld.ext E1316 ((Fld.ext E1306 u1006).keep Ku1310 (ninS (Nat.ne_of_lt (Nat.lt_of_lt_of_le u999 bd_b1306)) nin0))).keep Ku1320 (ninS (Nat.ne_of_lt (Nat.lt_of_lt_of_le (Nat.lt_of_lt_of_le (Nat.lt_of_lt_of_le u999 E1306.1) Ku1310.1) bd_b1316)) nin0))
            have f1535 : Fld Z T1317.heap b38 C_0 "value" "[B" (.ref b39) := ((Fld.ext E1316 ((Fld.ext E1306 (u56.keep Ku1003 nin0)).keep Ku1310 (ninS (Nat.ne_of_lt (Nat.lt_of_lt_of_le (Nat.lt_of_lt_of_le u49 Ku1003.1) bd_b1306)) nin0))).keep Ku1320 (ninS (Nat.ne_of_lt (Nat.lt_of_lt_of_le (Nat.lt_of_lt_of_le (Nat.lt_of_lt_of_le (Nat.lt_of_lt_of_le u49 Ku1003.1) E1306.1) Ku1310.1) bd_b1316)) nin0))
            have f1536 : Arv Z T1317.heap b989 k990 .byte (1 : Int32) [(.int i987)] (.int (0 : Int32)) := ((((u1008.ext E1306).keep Ku1310 (ninS (Nat.ne_of_lt (Nat.lt_of_lt_of_le u1001 bd_b1306)) nin0)).ext E1316).keep Ku1320 (ninS (Nat.ne_of_lt (Nat.lt_of_lt_of_le (Nat.lt_of_lt_of_le (Nat.lt_of_lt_of_le u1001 E1306.1) Ku1310.1) bd_b1316)) nin0))
            have f1537 : Arv Z T1317.heap b39 k40 .byte (1 : Int32) [(.int i37)] (.int (0 : Int32)) := (((((u58.keep Ku1003 nin0).ext E1306).keep Ku1310 (ninS (Nat.ne_of_lt (Nat.lt_of_lt_of_le (Nat.lt_of_lt_of_le u51 Ku1003.1) bd_b1306)) nin0)).ext E1316).keep Ku1320 (ninS (Nat.ne_of_lt (Nat.lt_of_lt_of_le (Nat.lt_of_lt_of_le (Nat.lt_of_lt_of_le (Nat.lt_of_lt_of_le u51 Ku1003.1) E1306.1) Ku1310.1) bd_b1316)) nin0))
            have f1539 : Exa Z T1317.heap b1306 C_1 := ((Exa.ext E1316 u1311).keep Ku1320)
            obtain ⟨cq1538, kq1538, q1538a, q1538b, q1538c⟩ := isOf hZ964 u1394 f1539
            obtain ⟨_, _, ⟨T1538, L1538, k1538, n1538⟩, -, X1538, ⟨Lc1538, hQ1538, l1538, y1538, z1538⟩, st1538⟩ := X1323.virtualBack hx (y := M_15) (z := M_15) hown964 (mvT hZ964 (hw _ (gw 38 rfl))) (mvT hZ964 (hw _ (gw 39 rfl))) (notFace_of_selects (args := #[]) (mvT hZ964 (hw _ (gw 41 rfl)))) (mvT hZ964 (hw _ (gw 41 rfl))) (mvT hZ964 (hw _ (gw 40 rfl))) (by decide) (backOf (W := 0) (rm7_36 l Z a0 hw [] b1306 b1316 b988 b38 p11 b989 b39 i987 k990 i37 k40 T1317.heap n0  Ou1320 u1321 u1322 f1529 f1530 (Ne.symm (Nat.ne_of_lt (Nat.lt_of_lt_of_le u49 u998))) f1531 S_12 hk13 f1532 f1533 f1534 f1535 f1536 f1537 (own_beq (u := 0) (v := 0) u993 u43 u1391.symm)) hZ964 (hw _ (gw 42 rfl)) (hw _ (gw 31 rfl)) (by decide) (by decide)) q1538a q1538c (g := (mkF m 67 #[.val (.int p1), .val (.int p2), .val (.int p3), .val (.int i8), .val (.ref b38), .val (.ref b988), .val (.ref b1306), .val (.int (0 : Int32)), .val (.ref b1316), .val (.int (1 : Int32))] [(.ref b1316), (.ref b1306)])) rfl (by rw [hml]; rfl) (Steps.refl _) (argsL := [(.ref b1316)]) (rest := []) (lenOf pd_14 rfl) rfl (by show 2 * 0 + _ ≤ _; exact Nat.le_of_eq rfl) (hb hby at_67) (fun _ _ => ⟨rfl, u1394, (by decide : 14 + 0 ≤ _), (by decide : 26 + 0 ≤ _)⟩)
            dsimp only [Pt.U, Pt.locs, Pt.cells, Pt.slots] at X1538 l1538 y1538 z1538 st1538 hQ1538
            subst l1538 y1538 z1538
            obtain ⟨rfl, u1541, u1542⟩ := hQ1538
            have N1538 := Fr.app N1323 u1541
            obtain ⟨cq1543, kq1543, q1543a, q1543b, q1543c⟩ := isOf hZ964 u1542 u1321
            obtain ⟨_, _, ⟨T1543, L1543, k1543, n1543⟩, -, X1543, ⟨Lc1543, hQ1543, l1543, y1543, z1543⟩, st1543⟩ := X1538.virtualBack hx (y := M_15) (z := M_15) hown964 (mvT hZ964 (hw _ (gw 38 rfl))) (mvT hZ964 (hw _ (gw 39 rfl))) (notFace_of_selects (args := #[]) (mvT hZ964 (hw _ (gw 41 rfl)))) (mvT hZ964 (hw _ (gw 41 rfl))) (mvT hZ964 (hw _ (gw 40 rfl))) (by decide) (backOf (W := 0) (rm7_36 l Z a0 hw [] b1316 b1306 b38 b988 p11 b39 b989 i37 k40 i987 k990 T1317.heap n0  Ou1320 f1539 f1529 u1322 f1531 (Nat.ne_of_lt (Nat.lt_of_lt_of_le u49 u998)) f1530 S_12 hk13 f1533 f1532 f1535 f1534 f1537 f1536 (own_beq (u := 0) (v := 0) u43 u993 u1391)) hZ964 (hw _ (gw 42 rfl)) (hw _ (gw 31 rfl)) (by decide) (by decide)) q1543a q1543c (g := (mkF m 79 #[.val (.int p1), .val (.int p2), .val (.int p3), .val (.int i8), .val (.ref b38), .val (.ref b988), .val (.ref b1306), .val (.int (0 : Int32)), .val (.ref b1316), .val (.int (1 : Int32))] [(.ref b1306), (.ref b1316)])) rfl (by rw [hml]; rfl) (Steps.refl _) (argsL := [(.ref b1306)]) (rest := []) (lenOf pd_14 rfl) rfl (by show 2 * 0 + _ ≤ _; exact Nat.le_of_eq rfl) (hb hby at_79) (fun _ _ => ⟨rfl, u1542, (by decide : 14 + 0 ≤ _), (by decide : 26 + 0 ≤ _)⟩)
            dsimp only [Pt.U, Pt.locs, Pt.cells, Pt.slots] at X1543 l1543 y1543 z1543 st1543 hQ1543
            subst l1543 y1543 z1543
            obtain ⟨rfl, u1545, u1546⟩ := hQ1543
            have N1543 := Fr.app N1538 u1545
            obtain ⟨fs, hr, hrun, hended, hEnd⟩ := X1543.leaveW (s := s) (vm₁ := T964.vm) hS964 (by rw [u1546]; exact (Nat.le_trans (Nat.le_trans (Nat.le_trans (Nat.le_trans (Nat.le_refl _) E1306.1) Ku1310.1) E1316.1) Ku1320.1)) (v := some (.int (1 : Int32))) (fun h => by rw [Bd.returns] at h; cases h)
            refine hno ⟨_, _, pre1528 _ ?_, hrun, hended, _, _, rfl, ?_, hEnd.1, hEnd.2.1, hEnd.2.2.1, hEnd.2.2.2.mono (by decide) (by decide)⟩
            · show Steps p.tables e below (T1323.setTop (mkF m 61 #[.val (.int p1), .val (.int p2), .val (.int p3), .val (.int i8), .val (.ref b38), .val (.ref b988), .val (.ref b1306), .val (.int (0 : Int32)), .val (.ref b1316), .unset] [(.int (1 : Int32))])) _
              refine XS.istore X1323.here hx rfl (hb hby at_61) rfl (l' := #[.val (.int p1), .val (.int p2), .val (.int p3), .val (.int i8), .val (.ref b38), .val (.ref b988), .val (.ref b1306), .val (.int (0 : Int32)), .val (.ref b1316), .val (.int (1 : Int32))]) rfl ?_
              refine XS.aload X1323.here hx rfl (hb hby at_63) rfl rfl ?_
              refine XS.aload X1323.here hx rfl (hb hby at_65) rfl rfl ?_
              refine st1538.trans ?_
              refine XS.iload X1538.here hx rfl (hb hby at_70) rfl ?_
              refine XS.icmpNo X1538.here hx rfl (hb hby at_72) rfl (teq (by decide +kernel : (1 : Int32) = (1 : Int32))).2 ?_
              refine XS.aload X1538.here hx rfl (hb hby at_75) rfl rfl ?_
              refine XS.aload X1538.here hx rfl (hb hby at_77) rfl rfl ?_
              refine st1543.trans ?_
              show Steps p.tables e below (T1543.setTop (mkF m 82 #[.val (.int p1), .val (.int p2), .val (.int p3), .val (.int i8), .val (.ref b38), .val (.ref b988), .val (.ref b1306), .val (.int (0 : Int32)), .val (.ref b1316), .val (.int (1 : Int32))] [(.int (1 : Int32))])) _
              refine XS.iload X1543.here hx rfl (hb hby at_82) rfl ?_
              refine XS.icmpNo X1543.here hx rfl (hb hby at_84) rfl (teq (by decide +kernel : (1 : Int32) = (1 : Int32))).2 ?_
              refine XS.iconst X1543.here hx rfl (hb hby at_87) ?_
              refine XS.goto X1543.here hx rfl (pc0 := 88) (pc' := 92) rfl (hb hby at_88) (by decide) (by decide) ?_
              show Steps p.tables e below (T1543.setTop (mkF m 92 #[.val (.int p1), .val (.int p2), .val (.int p3), .val (.int i8), .val (.ref b38), .val (.ref b988), .val (.ref b1306), .val (.int (0 : Int32)), .val (.ref b1316), .val (.int (1 : Int32))] [(.int (1 : Int32))])) _
              exact retN X1543 hx (t := .boolean) Bd.returns (by simp) (hb hby at_92) hr
            · show Q0 Z _ _ _ _ h0 n0 _ T1543.heap _
              rw [u1546]
              exact ⟨rfl, N1543⟩
          · skip
            have N1323 := Fr.app N1317 u1411
            have pre1547 : ∀ t, Steps p.tables e below (T1323.setTop (mkF m 61 #[.val (.int p1), .val (.int p2), .val (.int p3), .val (.int i8), .val (.ref b38), .val (.ref b988), .val (.ref b1306), .val (.int (0 : Int32)), .val (.ref b1316), .unset] [(.int (0 : Int32))])) t → Steps p.tables e below (s₁.setTop (entryFrame m #[(.int p1), (.int p2), (.int p3)] maxLocals)) t := by
              intro t kt
              refine pre1324 t ?_
              refine st1323 _ ?_
              exact kt
            obtain rfl : i36 = i1399 := (u1405.trans u44.symm).symm
            obtain rfl : i986 = i1400 := (u1406.trans u994.symm).symm
            obtain rfl : i34 = i1395 := (u1407.trans u45.symm).symm
            obtain rfl : i35 = i1396 := (u1403.trans u42.symm).symm
            obtain rfl : i984 = i1397 := (u1408.trans u995.symm).symm
            obtain rfl : i985 = i1398 := (u1404.trans u992.symm).symm
            have f1548 : Fld Z T1317.heap b1306 C_1 "written" C_2 (.ref b38) := ((Fld.ext E1316 u1312).keep Ku1320 (ninS (Nat.ne_of_lt (Nat.lt_of_lt_of_le (Nat.lt_of_lt_of_le lt_b1306 Ku1310.1) bd_b1316)) nin0))
            have f1549 : Exa Z T1317.heap b988 C_0 := ((Exa.ext E1316 ((Exa.ext E1306 u1004).keep Ku1310)).keep Ku1320)
            have f1550 : Exa Z T1317.heap b38 C_0 := ((Exa.ext E1316 ((Exa.ext E1306 (u54.keep Ku1003)).keep Ku1310)).keep Ku1320)
            have f1551 : Fld Z T1317.heap b988 C_0 "coder" "B" (.int (0 : Int32)) := ((Fld.ext E1316 ((Fld.ext E1306 u1005).keep Ku1310 (ninS (Nat.ne_of_lt (Nat.lt_of_lt_of_le u999 bd_b1306)) nin0))).keep Ku1320 (ninS (Nat.ne_of_lt (Nat.lt_of_lt_of_le (Nat.lt_of_lt_of_le (Nat.lt_of_lt_of_le u999 E1306.1) Ku1310.1) bd_b1316)) nin0))
            have f1552 : Fld Z T1317.heap b38 C_0 "coder" "B" (.int (0 : Int32)) := ((Fld.ext E1316 ((Fld.ext E1306 (u55.keep Ku1003 nin0)).keep Ku1310 (ninS (Nat.ne_of_lt (Nat.lt_of_lt_of_le (Nat.lt_of_lt_of_le u49 Ku1003.1) bd_b1306)) nin0))).keep Ku1320 (ninS (Nat.ne_of_lt (Nat.lt_of_lt_of_le (Nat.lt_of_lt_of_le (Nat.lt_of_lt_of_le (Nat.lt_of_lt_of_le u49 Ku1003.1) E1306.1) Ku1310.1) bd_b1316)) nin0))
            have f1553 : Fld Z T1317.heap b988 C_0 "value" "[B" (.ref b989) := ((Fld.ext E1316 ((Fld.ext E1306 u1006).keep Ku1310 (ninS (Nat.ne_of_lt (Nat.lt_of_lt_of_le u999 bd_b1306)) nin0))).keep Ku1320 (ninS (Nat.ne_of_lt (Nat.lt_of_lt_of_le (Nat.lt_of_lt_of_le (Nat.lt_of_lt_of_le u999 E1306.1) Ku1310.1) bd_b1316)) nin0))
            have f1554 : Fld Z T1317.heap b38 C_0 "value" "[B" (.ref b39) := ((Fld.ext E1316 ((Fld.ext E1306 (u56.keep Ku1003 nin0)).keep Ku1310 (ninS (Nat.ne_of_lt (Nat.lt_of_lt_of_le (Nat.lt_of_lt_of_le u49 Ku1003.1) bd_b1306)) nin0))).keep Ku1320 (ninS (Nat.ne_of_lt (Nat.lt_of_lt_of_le (Nat.lt_of_lt_of_le (Nat.lt_of_lt_of_le (Nat.lt_of_lt_of_le u49 Ku1003.1) E1306.1) Ku1310.1) bd_b1316)) nin0))
            have f1555 : Arv Z T1317.heap b989 k990 .byte (1 : Int32) [(.int i987)] (.int (0 : Int32)) := ((((u1008.ext E1306).keep Ku1310 (ninS (Nat.ne_of_lt (Nat.lt_of_lt_of_le u1001 bd_b1306)) nin0)).ext E1316).keep Ku1320 (ninS (Nat.ne_of_lt (Nat.lt_of_lt_of_le (Nat.lt_of_lt_of_le (Nat.lt_of_lt_of_le u1001 E1306.1) Ku1310.1) bd_b1316)) nin0))
            have f1556 : Arv Z T1317.heap b39 k40 .byte (1 : Int32) [(.int i37)] (.int (0 : Int32)) := (((((u58.keep Ku1003 nin0).ext E1306).keep Ku1310 (ninS (Nat.ne_of_lt (Nat.lt_of_lt_of_le (Nat.lt_of_lt_of_le u51 Ku1003.1) bd_b1306)) nin0)).ext E1316).keep Ku1320 (ninS (Nat.ne_of_lt (Nat.lt_of_lt_of_le (Nat.lt_of_lt_of_le (Nat.lt_of_lt_of_le (Nat.lt_of_lt_of_le u51 Ku1003.1) E1306.1) Ku1310.1) bd_b1316)) nin0))
            have f1558 : Exa Z T1317.heap b1306 C_1 := ((Exa.ext E1316 u1311).keep Ku1320)
            obtain ⟨cq1557, kq1557, q1557a, q1557b, q1557c⟩ := isOf hZ964 u1412 f1558
            obtain ⟨_, _, ⟨T1557, L1557, k1557, n1557⟩, -, X1557, ⟨Lc1557, hQ1557, l1557, y1557, z1557⟩, st1557⟩ := X1323.virtualBack hx (y := M_15) (z := M_15) hown964 (mvT hZ964 (hw _ (gw 38 rfl))) (mvT hZ964 (hw _ (gw 39 rfl))) (notFace_of_selects (args := #[]) (mvT hZ964 (hw _ (gw 41 rfl)))) (mvT hZ964 (hw _ (gw 41 rfl))) (mvT hZ964 (hw _ (gw 40 rfl))) (by decide) (backOf (W := 0) (rm7_39 l Z a0 hw [] b1306 b1316 b988 b38 p11 b989 b39 i987 k990 i37 k40 T1317.heap n0  Ou1320 u1321 u1322 f1548 f1549 (Ne.symm (Nat.ne_of_lt (Nat.lt_of_lt_of_le u49 u998))) f1550 S_12 hk13 f1551 f1552 f1553 f1554 f1555 f1556 (own_bne u993 u43 u994 u44 (fun q => u1409 q.symm))) hZ964 (hw _ (gw 42 rfl)) (hw _ (gw 31 rfl)) (by decide) (by decide)) q1557a q1557c (g := (mkF m 67 #[.val (.int p1), .val (.int p2), .val (.int p3), .val (.int i8), .val (.ref b38), .val (.ref b988), .val (.ref b1306), .val (.int (0 : Int32)), .val (.ref b1316), .val (.int (0 : Int32))] [(.ref b1316), (.ref b1306)])) rfl (by rw [hml]; rfl) (Steps.refl _) (argsL := [(.ref b1316)]) (rest := []) (lenOf pd_14 rfl) rfl (by show 2 * 0 + _ ≤ _; exact Nat.le_of_eq rfl) (hb hby at_67) (fun _ _ => ⟨rfl, u1412, (by decide : 14 + 0 ≤ _), (by decide : 26 + 0 ≤ _)⟩)
            dsimp only [Pt.U, Pt.locs, Pt.cells, Pt.slots] at X1557 l1557 y1557 z1557 st1557 hQ1557
            subst l1557 y1557 z1557
            obtain ⟨rfl, u1560, u1561⟩ := hQ1557
            have N1557 := Fr.app N1323 u1560
            obtain ⟨cq1562, kq1562, q1562a, q1562b, q1562c⟩ := isOf hZ964 u1561 u1321
            obtain ⟨_, _, ⟨T1562, L1562, k1562, n1562⟩, -, X1562, ⟨Lc1562, hQ1562, l1562, y1562, z1562⟩, st1562⟩ := X1557.virtualBack hx (y := M_15) (z := M_15) hown964 (mvT hZ964 (hw _ (gw 38 rfl))) (mvT hZ964 (hw _ (gw 39 rfl))) (notFace_of_selects (args := #[]) (mvT hZ964 (hw _ (gw 41 rfl)))) (mvT hZ964 (hw _ (gw 41 rfl))) (mvT hZ964 (hw _ (gw 40 rfl))) (by decide) (backOf (W := 0) (rm7_39 l Z a0 hw [] b1316 b1306 b38 b988 p11 b39 b989 i37 k40 i987 k990 T1317.heap n0  Ou1320 f1558 f1548 u1322 f1550 (Nat.ne_of_lt (Nat.lt_of_lt_of_le u49 u998)) f1549 S_12 hk13 f1552 f1551 f1554 f1553 f1556 f1555 (own_bne u43 u993 u44 u994 u1409)) hZ964 (hw _ (gw 42 rfl)) (hw _ (gw 31 rfl)) (by decide) (by decide)) q1562a q1562c (g := (mkF m 79 #[.val (.int p1), .val (.int p2), .val (.int p3), .val (.int i8), .val (.ref b38), .val (.ref b988), .val (.ref b1306), .val (.int (0 : Int32)), .val (.ref b1316), .val (.int (0 : Int32))] [(.ref b1306), (.ref b1316)])) rfl (by rw [hml]; rfl) (Steps.refl _) (argsL := [(.ref b1306)]) (rest := []) (lenOf pd_14 rfl) rfl (by show 2 * 0 + _ ≤ _; exact Nat.le_of_eq rfl) (hb hby at_79) (fun _ _ => ⟨rfl, u1561, (by decide : 14 + 0 ≤ _), (by decide : 26 + 0 ≤ _)⟩)
            dsimp only [Pt.U, Pt.locs, Pt.cells, Pt.slots] at X1562 l1562 y1562 z1562 st1562 hQ1562
            subst l1562 y1562 z1562
            obtain ⟨rfl, u1564, u1565⟩ := hQ1562
            have N1562 := Fr.app N1557 u1564
            obtain ⟨fs, hr, hrun, hended, hEnd⟩ := X1562.leaveW (s := s) (vm₁ := T964.vm) hS964 (by rw [u1565]; exact (Nat.le_trans (Nat.le_trans (Nat.le_trans (Nat.le_trans (Nat.le_refl _) E1306.1) Ku1310.1) E1316.1) Ku1320.1)) (v := some (.int (1 : Int32))) (fun h => by rw [Bd.returns] at h; cases h)
            refine hno ⟨_, _, pre1547 _ ?_, hrun, hended, _, _, rfl, ?_, hEnd.1, hEnd.2.1, hEnd.2.2.1, hEnd.2.2.2.mono (by decide) (by decide)⟩
            · show Steps p.tables e below (T1323.setTop (mkF m 61 #[.val (.int p1), .val (.int p2), .val (.int p3), .val (.int i8), .val (.ref b38), .val (.ref b988), .val (.ref b1306), .val (.int (0 : Int32)), .val (.ref b1316), .unset] [(.int (0 : Int32))])) _
              refine XS.istore X1323.here hx rfl (hb hby at_61) rfl (l' := #[.val (.int p1), .val (.int p2), .val (.int p3), .val (.int i8), .val (.ref b38), .val (.ref b988), .val (.ref b1306), .val (.int (0 : Int32)), .val (.ref b1316), .val (.int (0 : Int32))]) rfl ?_
              refine XS.aload X1323.here hx rfl (hb hby at_63) rfl rfl ?_
              refine XS.aload X1323.here hx rfl (hb hby at_65) rfl rfl ?_
              refine st1557.trans ?_
              refine XS.iload X1557.here hx rfl (hb hby at_70) rfl ?_
              refine XS.icmpNo X1557.here hx rfl (hb hby at_72) rfl (teq (by decide +kernel : (0 : Int32) = (0 : Int32))).2 ?_
              refine XS.aload X1557.here hx rfl (hb hby at_75) rfl rfl ?_
              refine XS.aload X1557.here hx rfl (hb hby at_77) rfl rfl ?_
              refine st1562.trans ?_
              show Steps p.tables e below (T1562.setTop (mkF m 82 #[.val (.int p1), .val (.int p2), .val (.int p3), .val (.int i8), .val (.ref b38), .val (.ref b988), .val (.ref b1306), .val (.int (0 : Int32)), .val (.ref b1316), .val (.int (0 : Int32))] [(.int (0 : Int32))])) _
              refine XS.iload X1562.here hx rfl (hb hby at_82) rfl ?_
              refine XS.icmpNo X1562.here hx rfl (hb hby at_84) rfl (teq (by decide +kernel : (0 : Int32) = (0 : Int32))).2 ?_
              refine XS.iconst X1562.here hx rfl (hb hby at_87) ?_
              refine XS.goto X1562.here hx rfl (pc0 := 88) (pc' := 92) rfl (hb hby at_88) (by decide) (by decide) ?_
              show Steps p.tables e below (T1562.setTop (mkF m 92 #[.val (.int p1), .val (.int p2), .val (.int p3), .val (.int i8), .val (.ref b38), .val (.ref b988), .val (.ref b1306), .val (.int (0 : Int32)), .val (.ref b1316), .val (.int (0 : Int32))] [(.int (1 : Int32))])) _
              exact retN X1562 hx (t := .boolean) Bd.returns (by simp) (hb hby at_92) hr
            · show Q0 Z _ _ _ _ h0 n0 _ T1562.heap _
              rw [u1565]
              exact ⟨rfl, N1562⟩
          · skip
            have N1323 := Fr.app N1317 u1424
            have pre1566 : ∀ t, Steps p.tables e below (T1323.setTop (mkF m 61 #[.val (.int p1), .val (.int p2), .val (.int p3), .val (.int i8), .val (.ref b38), .val (.ref b988), .val (.ref b1306), .val (.int (0 : Int32)), .val (.ref b1316), .unset] [(.int (0 : Int32))])) t → Steps p.tables e below (s₁.setTop (entryFrame m #[(.int p1), (.int p2), (.int p3)] maxLocals)) t := by
              intro t kt
              refine pre1324 t ?_
              refine st1323 _ ?_
              exact kt
            obtain rfl : i34 = i1413 := (u1421.trans u45.symm).symm
            obtain rfl : i35 = i1414 := (u1419.trans u42.symm).symm
            obtain rfl : i984 = i1415 := (u1422.trans u995.symm).symm
            obtain rfl : i985 = i1416 := (u1420.trans u992.symm).symm
            exact absurd (u1418.trans u991.symm) (by decide +kernel)
          · skip
            have N1323 := Fr.app N1317 u1437
            have pre1567 : ∀ t, Steps p.tables e below (T1323.setTop (mkF m 61 #[.val (.int p1), .val (.int p2), .val (.int p3), .val (.int i8), .val (.ref b38), .val (.ref b988), .val (.ref b1306), .val (.int (0 : Int32)), .val (.ref b1316), .unset] [(.int (0 : Int32))])) t → Steps p.tables e below (s₁.setTop (entryFrame m #[(.int p1), (.int p2), (.int p3)] maxLocals)) t := by
              intro t kt
              refine pre1324 t ?_
              refine st1323 _ ?_
              exact kt
            obtain rfl : i34 = i1426 := (u1434.trans u45.symm).symm
            obtain rfl : i35 = i1427 := (u1432.trans u42.symm).symm
            exact absurd (u1430.trans u41.symm) (by decide +kernel)
          · skip
            have N1323 := Fr.app N1317 u1450
            have pre1568 : ∀ t, Steps p.tables e below (T1323.setTop (mkF m 61 #[.val (.int p1), .val (.int p2), .val (.int p3), .val (.int i8), .val (.ref b38), .val (.ref b988), .val (.ref b1306), .val (.int (0 : Int32)), .val (.ref b1316), .unset] [(.int (0 : Int32))])) t → Steps p.tables e below (s₁.setTop (entryFrame m #[(.int p1), (.int p2), (.int p3)] maxLocals)) t := by
              intro t kt
              refine pre1324 t ?_
              refine st1323 _ ?_
              exact kt
            obtain rfl : i34 = i1439 := (u1447.trans u45.symm).symm
            obtain rfl : i35 = i1440 := (u1445.trans u42.symm).symm
            exact absurd (u1443.trans u41.symm) (by decide +kernel)
          · skip
            have N1323 := Fr.app N1317 u1477
            have pre1569 : ∀ t, Steps p.tables e below (T1323.setTop (mkF m 61 #[.val (.int p1), .val (.int p2), .val (.int p3), .val (.int i8), .val (.ref b38), .val (.ref b988), .val (.ref b1306), .val (.int (0 : Int32)), .val (.ref b1316), .unset] [(.int (1 : Int32))])) t → Steps p.tables e below (s₁.setTop (entryFrame m #[(.int p1), (.int p2), (.int p3)] maxLocals)) t := by
              intro t kt
              refine pre1324 t ?_
              refine st1323 _ ?_
              exact kt
            obtain rfl : i36 = i1454 := (u1466.trans u44.symm).symm
            obtain rfl : i986 = i1455 := (u1467.trans u994.symm).symm
            obtain rfl : i34 = i1460 := (u1470.trans u45.symm).symm
            obtain rfl : i35 = i1461 := (u1464.trans u42.symm).symm
            exact absurd (u1462.trans u41.symm) (by decide +kernel)
          · skip
            have N1323 := Fr.app N1317 u1504
            have pre1570 : ∀ t, Steps p.tables e below (T1323.setTop (mkF m 61 #[.val (.int p1), .val (.int p2), .val (.int p3), .val (.int i8), .val (.ref b38), .val (.ref b988), .val (.ref b1306), .val (.int (0 : Int32)), .val (.ref b1316), .unset] [(.int (0 : Int32))])) t → Steps p.tables e below (s₁.setTop (entryFrame m #[(.int p1), (.int p2), (.int p3)] maxLocals)) t := by
              intro t kt
              refine pre1324 t ?_
              refine st1323 _ ?_
              exact kt
            obtain rfl : i36 = i1481 := (u1493.trans u44.symm).symm
            obtain rfl : i986 = i1482 := (u1494.trans u994.symm).symm
            obtain rfl : i34 = i1487 := (u1497.trans u45.symm).symm
            obtain rfl : i35 = i1488 := (u1491.trans u42.symm).symm
            exact absurd (u1489.trans u41.symm) (by decide +kernel)
          · skip
            have N1323 := Fr.app N1317 u1522
            have pre1571 : ∀ t, Steps p.tables e below (T1323.setTop (mkF m 61 #[.val (.int p1), .val (.int p2), .val (.int p3), .val (.int i8), .val (.ref b38), .val (.ref b988), .val (.ref b1306), .val (.int (0 : Int32)), .val (.ref b1316), .unset] [(.int (0 : Int32))])) t → Steps p.tables e below (s₁.setTop (entryFrame m #[(.int p1), (.int p2), (.int p3)] maxLocals)) t := by
              intro t kt
              refine pre1324 t ?_
              refine st1323 _ ?_
              exact kt
            obtain rfl : i36 = i1508 := (u1516.trans u44.symm).symm
            obtain rfl : i986 = i1509 := (u1517.trans u994.symm).symm
            obtain rfl : i34 = i1510 := (u1518.trans u45.symm).symm
            obtain rfl : i35 = i1511 := (u1514.trans u42.symm).symm
            exact absurd (u1512.trans u41.symm) (by decide +kernel)
        · skip
          have pre1572 : ∀ t, Steps p.tables e below (T1307.setTop (mkF m 96 #[.val (.int p1), .val (.int p2), .val (.int p3), .val (.int i8), .val (.ref b38), .val (.ref b988), .val (.ref b1306), .val (.int i1313), .unset, .unset] [(.int (1 : Int32)), (.int i1313)])) t → Steps p.tables e below (s₁.setTop (entryFrame m #[(.int p1), (.int p2), (.int p3)] maxLocals)) t := by
            intro t kt
            refine pre1314 t ?_
            show Steps p.tables e below (T1307.setTop (mkF m 42 #[.val (.int p1), .val (.int p2), .val (.int p3), .val (.int i8), .val (.ref b38), .val (.ref b988), .val (.ref b1306), .val (.int i1313), .unset, .unset] [(.int i1313)])) _
            refine XS.ifYes X1307.here hx rfl (pc0 := 42) (pc' := 93) rfl (hb hby at_42) rfl ((if0 _ _).trans (feq hc1315).2) (by decide) (by decide) ?_
            refine XS.iload X1307.here hx rfl (hb hby at_93) rfl ?_
            refine XS.iconst X1307.here hx rfl (hb hby at_95) ?_
            exact kt
          by_cases hc1573 : i1313 = (1 : Int32)
          · skip
            subst hc1573
            have f1574 : Exa Z T1307.heap b988 C_0 := ((Exa.ext E1306 u1004).keep Ku1310)
            obtain ⟨cq1575, kq1575, q1575a, q1575b, q1575c⟩ := isOf hZ964 rfl u1311
            obtain ⟨_, _, ⟨T1575, L1575, k1575, n1575⟩, -, X1575, ⟨Lc1575, hQ1575, l1575, y1575, z1575⟩, st1575⟩ := X1307.virtualBack hx (y := M_15) (z := M_15) hown964 (mvT hZ964 (hw _ (gw 38 rfl))) (mvT hZ964 (hw _ (gw 39 rfl))) (notFace_of_selects (args := #[]) (mvT hZ964 (hw _ (gw 41 rfl)))) (mvT hZ964 (hw _ (gw 41 rfl))) (mvT hZ964 (hw _ (gw 40 rfl))) (by decide) (backOf (W := 0) (rm7_20 l Z a0 hw [] b1306 b988 T1307.heap n0  Ou1310 f1574) hZ964 (hw _ (gw 42 rfl)) (hw _ (gw 31 rfl)) (by decide) (by decide)) q1575a q1575c (g := (mkF m 107 #[.val (.int p1), .val (.int p2), .val (.int p3), .val (.int i8), .val (.ref b38), .val (.ref b988), .val (.ref b1306), .val (.int (1 : Int32)), .val (.ref b988), .unset] [(.ref b988), (.ref b1306)])) rfl (by rw [hml]; rfl) (Steps.refl _) (argsL := [(.ref b988)]) (rest := []) (lenOf pd_14 rfl) rfl (by show 2 * 0 + _ ≤ _; exact Nat.le_of_eq rfl) (hb hby at_107) (fun _ _ => ⟨rfl, rfl, (by decide : 13 + 0 ≤ _), (by decide : 25 + 0 ≤ _)⟩)
            dsimp only [Pt.U, Pt.locs, Pt.cells, Pt.slots] at X1575 l1575 y1575 z1575 st1575 hQ1575
            subst l1575 y1575 z1575
            obtain ⟨rfl, u1577, u1578⟩ := hQ1575
            have N1575 := Fr.app N1307 u1577
            obtain ⟨fs, hr, hrun, hended, hEnd⟩ := X1575.leaveW (s := s) (vm₁ := T964.vm) hS964 (by rw [u1578]; exact (Nat.le_trans (Nat.le_trans (Nat.le_refl _) E1306.1) Ku1310.1)) (v := some (.int (1 : Int32))) (fun h => by rw [Bd.returns] at h; cases h)
            refine hno ⟨_, _, pre1572 _ ?_, hrun, hended, _, _, rfl, ?_, hEnd.1, hEnd.2.1, hEnd.2.2.1, hEnd.2.2.2.mono (by decide) (by decide)⟩
            · show Steps p.tables e below (T1307.setTop (mkF m 96 #[.val (.int p1), .val (.int p2), .val (.int p3), .val (.int i8), .val (.ref b38), .val (.ref b988), .val (.ref b1306), .val (.int (1 : Int32)), .unset, .unset] [(.int (1 : Int32)), (.int (1 : Int32))])) _
              refine XS.icmpNo X1307.here hx rfl (hb hby at_96) rfl (teq (by decide +kernel : (1 : Int32) = (1 : Int32))).2 ?_
              refine XS.aload X1307.here hx rfl (hb hby at_99) rfl rfl ?_
              refine XS.astore X1307.here hx rfl (hb hby at_101) rfl rfl (l' := #[.val (.int p1), .val (.int p2), .val (.int p3), .val (.int i8), .val (.ref b38), .val (.ref b988), .val (.ref b1306), .val (.int (1 : Int32)), .val (.ref b988), .unset]) rfl ?_
              refine XS.aload X1307.here hx rfl (hb hby at_103) rfl rfl ?_
              refine XS.aload X1307.here hx rfl (hb hby at_105) rfl rfl ?_
              refine st1575.trans ?_
              refine XS.ifNo X1575.here hx rfl (hb hby at_110) rfl ((if0 _ _).trans (teq (by decide +kernel : (0 : Int32) = (0 : Int32))).2) ?_
              refine XS.iconst X1575.here hx rfl (hb hby at_113) ?_
              refine XS.goto X1575.here hx rfl (pc0 := 114) (pc' := 118) rfl (hb hby at_114) (by decide) (by decide) ?_
              show Steps p.tables e below (T1575.setTop (mkF m 118 #[.val (.int p1), .val (.int p2), .val (.int p3), .val (.int i8), .val (.ref b38), .val (.ref b988), .val (.ref b1306), .val (.int (1 : Int32)), .val (.ref b988), .unset] [(.int (1 : Int32))])) _
              exact retN X1575 hx (t := .boolean) Bd.returns (by simp) (hb hby at_118) hr
            · show Q0 Z _ _ _ _ h0 n0 _ T1575.heap _
              rw [u1578]
              exact ⟨rfl, N1575⟩
          · skip
            have pre1579 : ∀ t, Steps p.tables e below (T1307.setTop (mkF m 122 #[.val (.int p1), .val (.int p2), .val (.int p3), .val (.int i8), .val (.ref b38), .val (.ref b988), .val (.ref b1306), .val (.int i1313), .unset, .unset] [(.int (2 : Int32)), (.int i1313)])) t → Steps p.tables e below (s₁.setTop (entryFrame m #[(.int p1), (.int p2), (.int p3)] maxLocals)) t := by
              intro t kt
              refine pre1572 t ?_
              show Steps p.tables e below (T1307.setTop (mkF m 96 #[.val (.int p1), .val (.int p2), .val (.int p3), .val (.int i8), .val (.ref b38), .val (.ref b988), .val (.ref b1306), .val (.int i1313), .unset, .unset] [(.int (1 : Int32)), (.int i1313)])) _
              refine XS.icmpYes X1307.here hx rfl (pc0 := 96) (pc' := 119) rfl (hb hby at_96) rfl (feq hc1573).2 (by decide) (by decide) ?_
              refine XS.iload X1307.here hx rfl (hb hby at_119) rfl ?_
              refine XS.iconst X1307.here hx rfl (hb hby at_121) ?_
              exact kt
            by_cases hc1580 : i1313 = (2 : Int32)
            · skip
              subst hc1580
              obtain ⟨cq1581, kq1581, q1581a, q1581b, q1581c⟩ := isOf hZ964 rfl u1311
              obtain ⟨_, _, ⟨T1581, L1581, k1581, n1581⟩, -, X1581, ⟨Lc1581, hQ1581, l1581, y1581, z1581⟩, st1581⟩ := X1307.virtualBack hx (y := M_15) (z := M_15) hown964 (mvT hZ964 (hw _ (gw 38 rfl))) (mvT hZ964 (hw _ (gw 39 rfl))) (notFace_of_selects (args := #[]) (mvT hZ964 (hw _ (gw 41 rfl)))) (mvT hZ964 (hw _ (gw 41 rfl))) (mvT hZ964 (hw _ (gw 40 rfl))) (by decide) (backOf (W := 0) (rm7_21 l Z a0 hw [] b1306 T1307.heap n0  Ou1310) hZ964 (hw _ (gw 42 rfl)) (hw _ (gw 31 rfl)) (by decide) (by decide)) q1581a q1581c (g := (mkF m 128 #[.val (.int p1), .val (.int p2), .val (.int p3), .val (.int i8), .val (.ref b38), .val (.ref b988), .val (.ref b1306), .val (.int (2 : Int32)), .unset, .unset] [.null, (.ref b1306)])) rfl (by rw [hml]; rfl) (Steps.refl _) (argsL := [.null]) (rest := []) (lenOf pd_14 rfl) rfl (by show 2 * 0 + _ ≤ _; exact Nat.le_of_eq rfl) (hb hby at_128) (fun _ _ => ⟨rfl, rfl, (by decide : 13 + 0 ≤ _), (by decide : 25 + 0 ≤ _)⟩)
              dsimp only [Pt.U, Pt.locs, Pt.cells, Pt.slots] at X1581 l1581 y1581 z1581 st1581 hQ1581
              subst l1581 y1581 z1581
              obtain ⟨rfl, u1583, u1584⟩ := hQ1581
              have N1581 := Fr.app N1307 u1583
              obtain ⟨fs, hr, hrun, hended, hEnd⟩ := X1581.leaveW (s := s) (vm₁ := T964.vm) hS964 (by rw [u1584]; exact (Nat.le_trans (Nat.le_trans (Nat.le_refl _) E1306.1) Ku1310.1)) (v := some (.int (1 : Int32))) (fun h => by rw [Bd.returns] at h; cases h)
              refine hno ⟨_, _, pre1579 _ ?_, hrun, hended, _, _, rfl, ?_, hEnd.1, hEnd.2.1, hEnd.2.2.1, hEnd.2.2.2.mono (by decide) (by decide)⟩
              · show Steps p.tables e below (T1307.setTop (mkF m 122 #[.val (.int p1), .val (.int p2), .val (.int p3), .val (.int i8), .val (.ref b38), .val (.ref b988), .val (.ref b1306), .val (.int (2 : Int32)), .unset, .unset] [(.int (2 : Int32)), (.int (2 : Int32))])) _
                refine XS.icmpNo X1307.here hx rfl (hb hby at_122) rfl (teq (by decide +kernel : (2 : Int32) = (2 : Int32))).2 ?_
                refine XS.aload X1307.here hx rfl (hb hby at_125) rfl rfl ?_
                refine XS.aconstNull X1307.here hx rfl (hb hby at_127) ?_
                refine st1581.trans ?_
                refine XS.ifNo X1581.here hx rfl (hb hby at_131) rfl ((if0 _ _).trans (teq (by decide +kernel : (0 : Int32) = (0 : Int32))).2) ?_
                refine XS.iconst X1581.here hx rfl (hb hby at_134) ?_
                refine XS.goto X1581.here hx rfl (pc0 := 135) (pc' := 139) rfl (hb hby at_135) (by decide) (by decide) ?_
                show Steps p.tables e below (T1581.setTop (mkF m 139 #[.val (.int p1), .val (.int p2), .val (.int p3), .val (.int i8), .val (.ref b38), .val (.ref b988), .val (.ref b1306), .val (.int (2 : Int32)), .unset, .unset] [(.int (1 : Int32))])) _
                exact retN X1581 hx (t := .boolean) Bd.returns (by simp) (hb hby at_139) hr
              · show Q0 Z _ _ _ _ h0 n0 _ T1581.heap _
                rw [u1584]
                exact ⟨rfl, N1581⟩
            · skip
              have f1585 : Exa Z T1307.heap b38 C_0 := ((Exa.ext E1306 (u54.keep Ku1003)).keep Ku1310)
              obtain ⟨cq1586, kq1586, q1586a, q1586b, q1586c⟩ := isOf hZ964 rfl u1311
              obtain ⟨_, _, ⟨T1586, L1586, k1586, n1586⟩, -, X1586, ⟨Lc1586, hQ1586, l1586, y1586, z1586⟩, st1586⟩ := X1307.virtualBack hx (y := M_15) (z := M_15) hown964 (mvT hZ964 (hw _ (gw 38 rfl))) (mvT hZ964 (hw _ (gw 39 rfl))) (notFace_of_selects (args := #[]) (mvT hZ964 (hw _ (gw 41 rfl)))) (mvT hZ964 (hw _ (gw 41 rfl))) (mvT hZ964 (hw _ (gw 40 rfl))) (by decide) (backOf (W := 0) (rm7_22 l Z a0 hw [] b1306 b38 T1307.heap n0  Ou1310 u1311 u1312 f1585) hZ964 (hw _ (gw 42 rfl)) (hw _ (gw 31 rfl)) (by decide) (by decide)) q1586a q1586c (g := (mkF m 148 #[.val (.int p1), .val (.int p2), .val (.int p3), .val (.int i8), .val (.ref b38), .val (.ref b988), .val (.ref b1306), .val (.int i1313), .val (.ref b1306), .unset] [(.ref b1306), (.ref b1306)])) rfl (by rw [hml]; rfl) (Steps.refl _) (argsL := [(.ref b1306)]) (rest := []) (lenOf pd_14 rfl) rfl (by show 2 * 0 + _ ≤ _; exact Nat.le_of_eq rfl) (hb hby at_148) (fun _ _ => ⟨rfl, rfl, (by decide : 13 + 0 ≤ _), (by decide : 25 + 0 ≤ _)⟩)
              dsimp only [Pt.U, Pt.locs, Pt.cells, Pt.slots] at X1586 l1586 y1586 z1586 st1586 hQ1586
              subst l1586 y1586 z1586
              obtain ⟨rfl, u1588, u1589⟩ := hQ1586
              have N1586 := Fr.app N1307 u1588
              obtain ⟨fs, hr, hrun, hended, hEnd⟩ := X1586.leaveW (s := s) (vm₁ := T964.vm) hS964 (by rw [u1589]; exact (Nat.le_trans (Nat.le_trans (Nat.le_refl _) E1306.1) Ku1310.1)) (v := some (.int (1 : Int32))) (fun h => by rw [Bd.returns] at h; cases h)
              refine hno ⟨_, _, pre1579 _ ?_, hrun, hended, _, _, rfl, ?_, hEnd.1, hEnd.2.1, hEnd.2.2.1, hEnd.2.2.2.mono (by decide) (by decide)⟩
              · show Steps p.tables e below (T1307.setTop (mkF m 122 #[.val (.int p1), .val (.int p2), .val (.int p3), .val (.int i8), .val (.ref b38), .val (.ref b988), .val (.ref b1306), .val (.int i1313), .unset, .unset] [(.int (2 : Int32)), (.int i1313)])) _
                refine XS.icmpYes X1307.here hx rfl (pc0 := 122) (pc' := 140) rfl (hb hby at_122) rfl (feq hc1580).2 (by decide) (by decide) ?_
                refine XS.aload X1307.here hx rfl (hb hby at_140) rfl rfl ?_
                refine XS.astore X1307.here hx rfl (hb hby at_142) rfl rfl (l' := #[.val (.int p1), .val (.int p2), .val (.int p3), .val (.int i8), .val (.ref b38), .val (.ref b988), .val (.ref b1306), .val (.int i1313), .val (.ref b1306), .unset]) rfl ?_
                refine XS.aload X1307.here hx rfl (hb hby at_144) rfl rfl ?_
                refine XS.aload X1307.here hx rfl (hb hby at_146) rfl rfl ?_
                refine st1586.trans ?_
                show Steps p.tables e below (T1586.setTop (mkF m 151 #[.val (.int p1), .val (.int p2), .val (.int p3), .val (.int i8), .val (.ref b38), .val (.ref b988), .val (.ref b1306), .val (.int i1313), .val (.ref b1306), .unset] [(.int (1 : Int32))])) _
                exact retN X1586 hx (t := .boolean) Bd.returns (by simp) (hb hby at_151) hr
              · show Q0 Z _ _ _ _ h0 n0 _ T1586.heap _
                rw [u1589]
                exact ⟨rfl, N1586⟩
      · skip
        have Ou1034 : Old Z n0 T964.heap := Ou53.keep Ku1034 all0
        have chu1034 := cg964
        have CRu1034 := CRu53.trans chu1034
        have g_b1016 : n0 ≤ b1016 := Nat.le_trans (own_z Ou53) u1029
        have sz_b1016 : h0.size ≤ b1016 := Nat.le_trans Ku53.1 u1029
        have g_b1017 : n0 ≤ b1017 := Nat.le_trans (own_z Ou53) u1031
        have sz_b1017 : h0.size ≤ b1017 := Nat.le_trans Ku53.1 u1031
        have N964 := Fr.app N14 u1028
        obtain ⟨T1590, h1590, X1590, e1590, E1590, A1590, D1590, -, st1590⟩ := newO X964 hx hZ964 hown964 (hw _ (gw 29 rfl)) (hw _ (gw 30 rfl)) (hw _ (gw 31 rfl)) rfl (g := (mkF m 24 #[.val (.int p1), .val (.int p2), .val (.int p3), .val (.int i8), .val (.ref b38), .val (.ref b1016), .unset, .unset, .unset, .unset] [])) rfl (hb hby at_24) (by decide) (by decide)
        obtain ⟨b1590, g1590⟩ : ∃ z, z = T964.heap.size := ⟨_, rfl⟩
        rw [← g1590] at A1590 D1590 st1590
        have O1590 : Old Z n0 h1590 := Ou1034.ext E1590
        have ch1590 := CHr.ext E1590 CRu1034.1
        have CR1590 := CRu1034.trans ch1590
        have bd_b1590 : T964.heap.size ≤ b1590 := Nat.le_of_eq g1590.symm
        have g_b1590 : n0 ≤ b1590 := Nat.le_trans (own_z Ou1034) bd_b1590
        have sz_b1590 : h0.size ≤ b1590 := Nat.le_trans (Nat.le_trans Ku53.1 Ku1034.1) bd_b1590
        have lt_b1590 : b1590 < h1590.size := A1590.lt
        have sfb_b1590 : Safe Z own_EL T964.vm h1590 b1590 := Safe.ext E1590 CRu1034.1 (Safe.new bd_b1590)
        have D1590_37 : Fld Z h1590 b1590 C_1 "written" C_2 .null := D1590 (Or.inr (hw _ (gw 37 rfl))) (ty := (.object "java/lang/String")) (by decide)
        obtain ⟨_, _, ⟨T1591, L1591, k1591, n1591⟩, -, X1591, ⟨Lc1591, hQ1591, l1591, y1591, z1591⟩, st1591⟩ := X1590.specialBack hx (y := M_11) rfl hown964 (mvT hZ964 (hw _ (gw 32 rfl))) (mvT hZ964 (hw _ (gw 33 rfl))) (mvT hZ964 (hw _ (gw 34 rfl))) (by decide) (backOf (W := 1) (rm6_15 l Z a0 hw [] b1590 b38 h1590 n0  O1590 A1590 D1590_37 g_b1590) hZ964 (hw _ (gw 34 rfl)) (hw _ (gw 31 rfl)) (by decide) (by decide)) (g := (mkF m 30 #[.val (.int p1), .val (.int p2), .val (.int p3), .val (.int i8), .val (.ref b38), .val (.ref b1016), .unset, .unset, .unset, .unset] [(.ref b38), (.ref b1590), (.ref b1590)])) rfl (by rw [hml]; rfl) (Steps.refl _) (a := b1590) (argsL := [(.ref b38)]) (rest := [(.ref b1590)]) (lenOf pd_11 rfl) rfl (by show 2 * 0 + _ ≤ _; exact Nat.le_of_eq rfl) (hb hby at_30) (fun _ _ => ⟨rfl, e1590, (by decide : 13 + 0 ≤ _), (by decide : 25 + 0 ≤ _)⟩)
        dsimp only [Pt.U, Pt.locs, Pt.cells, Pt.slots] at X1591 l1591 y1591 z1591 st1591 hQ1591
        subst l1591 y1591 z1591
        obtain ⟨rfl, u1593, Ku1594, u1595, u1596⟩ := hQ1591
        have Ou1594 : Old Z n0 T1591.heap := O1590.keep Ku1594 (allS g_b1590 all0)
        have chu1594 := CHr.keep Ku1594 (allS (Safe.exa hZ964.alike A1590 (by decide) (by decide)) all0) CR1590.1
        have CRu1594 := CR1590.trans chu1594
        have N1591 := Fr.app N964 u1593
        obtain ⟨i1597, hi1597⟩ : ∃ z, z = (p3 &&& (3 : Int32)) := ⟨_, rfl⟩
        have pre1598 : ∀ t, Steps p.tables e below (T1591.setTop (mkF m 42 #[.val (.int p1), .val (.int p2), .val (.int p3), .val (.int i8), .val (.ref b38), .val (.ref b1016), .val (.ref b1590), .val (.int i1597), .unset, .unset] [(.int i1597)])) t → Steps p.tables e below (s₁.setTop (entryFrame m #[(.int p1), (.int p2), (.int p3)] maxLocals)) t := by
          intro t kt
          refine pre965 t ?_
          refine st964.trans ?_
          show Steps p.tables e below (T964.setTop (mkF m 22 #[.val (.int p1), .val (.int p2), .val (.int p3), .val (.int i8), .val (.ref b38), .unset, .unset, .unset, .unset, .unset] [(.ref b1016)])) _
          refine XS.astore X964.here hx rfl (hb hby at_22) rfl rfl (l' := #[.val (.int p1), .val (.int p2), .val (.int p3), .val (.int i8), .val (.ref b38), .val (.ref b1016), .unset, .unset, .unset, .unset]) rfl ?_
          refine st1590 _ ?_
          refine XS.dup X1590.here hx rfl (hb hby at_27) rfl rfl ?_
          refine XS.aload X1590.here hx rfl (hb hby at_28) rfl rfl ?_
          refine st1591.trans ?_
          refine XS.astore X1591.here hx rfl (hb hby at_33) rfl rfl (l' := #[.val (.int p1), .val (.int p2), .val (.int p3), .val (.int i8), .val (.ref b38), .val (.ref b1016), .val (.ref b1590), .unset, .unset, .unset]) rfl ?_
          refine XS.iloadN X1591.here hx rfl (hb hby at_35) rfl ?_
          refine XS.iconst X1591.here hx rfl (hb hby at_36) ?_
          refine XS.iand X1591.here hx rfl (hb hby at_37) rfl ?_
          show Steps p.tables e below (T1591.setTop (mkF m 38 #[.val (.int p1), .val (.int p2), .val (.int p3), .val (.int i8), .val (.ref b38), .val (.ref b1016), .val (.ref b1590), .unset, .unset, .unset] [(.int (p3 &&& (3 : Int32)))])) _
          rw [← hi1597]
          refine XS.istore X1591.here hx rfl (hb hby at_38) rfl (l' := #[.val (.int p1), .val (.int p2), .val (.int p3), .val (.int i8), .val (.ref b38), .val (.ref b1016), .val (.ref b1590), .val (.int i1597), .unset, .unset]) rfl ?_
          refine XS.iload X1591.here hx rfl (hb hby at_40) rfl ?_
          exact kt
        by_cases hc1599 : i1597 = (0 : Int32)
        · skip
          subst hc1599
          obtain ⟨T1600, h1600, X1600, e1600, E1600, A1600, D1600, -, st1600⟩ := newO X1591 hx hZ964 hown964 (hw _ (gw 29 rfl)) (hw _ (gw 30 rfl)) (hw _ (gw 31 rfl)) rfl (g := (mkF m 45 #[.val (.int p1), .val (.int p2), .val (.int p3), .val (.int i8), .val (.ref b38), .val (.ref b1016), .val (.ref b1590), .val (.int (0 : Int32)), .unset, .unset] [])) rfl (hb hby at_45) (by decide) (by decide)
          obtain ⟨b1600, g1600⟩ : ∃ z, z = T1591.heap.size := ⟨_, rfl⟩
          rw [← g1600] at A1600 D1600 st1600
          have O1600 : Old Z n0 h1600 := Ou1594.ext E1600
          have ch1600 := CHr.ext E1600 CRu1594.1
          have CR1600 := CRu1594.trans ch1600
          have bd_b1600 : T1591.heap.size ≤ b1600 := Nat.le_of_eq g1600.symm
          have g_b1600 : n0 ≤ b1600 := Nat.le_trans (own_z Ou1594) bd_b1600
          have sz_b1600 : h0.size ≤ b1600 := Nat.le_trans (Nat.le_trans (Nat.le_trans (Nat.le_trans Ku53.1 Ku1034.1) E1590.1) Ku1594.1) bd_b1600
          have lt_b1600 : b1600 < h1600.size := A1600.lt
          have sfb_b1600 : Safe Z own_EL T964.vm h1600 b1600 := Safe.ext E1600 CRu1594.1 (Safe.new bd_b1600)
          have D1600_37 : Fld Z h1600 b1600 C_1 "written" C_2 .null := D1600 (Or.inr (hw _ (gw 37 rfl))) (ty := (.object "java/lang/String")) (by decide)
          obtain ⟨_, _, ⟨T1601, L1601, k1601, n1601⟩, -, X1601, ⟨Lc1601, hQ1601, l1601, y1601, z1601⟩, st1601⟩ := X1600.specialBack hx (y := M_11) rfl hown964 (mvT hZ964 (hw _ (gw 32 rfl))) (mvT hZ964 (hw _ (gw 33 rfl))) (mvT hZ964 (hw _ (gw 34 rfl))) (by decide) (backOf (W := 1) (rm6_15 l Z a0 hw [] b1600 b1016 h1600 n0  O1600 A1600 D1600_37 g_b1600) hZ964 (hw _ (gw 34 rfl)) (hw _ (gw 31 rfl)) (by decide) (by decide)) (g := (mkF m 51 #[.val (.int p1), .val (.int p2), .val (.int p3), .val (.int i8), .val (.ref b38), .val (.ref b1016), .val (.ref b1590), .val (.int (0 : Int32)), .unset, .unset] [(.ref b1016), (.ref b1600), (.ref b1600)])) rfl (by rw [hml]; rfl) (Steps.refl _) (a := b1600) (argsL := [(.ref b1016)]) (rest := [(.ref b1600)]) (lenOf pd_11 rfl) rfl (by show 2 * 0 + _ ≤ _; exact Nat.le_of_eq rfl) (hb hby at_51) (fun _ _ => ⟨rfl, e1600, (by decide : 14 + 0 ≤ _), (by decide : 26 + 0 ≤ _)⟩)
          dsimp only [Pt.U, Pt.locs, Pt.cells, Pt.slots] at X1601 l1601 y1601 z1601 st1601 hQ1601
          subst l1601 y1601 z1601
          obtain ⟨rfl, u1603, Ku1604, u1605, u1606⟩ := hQ1601
          have Ou1604 : Old Z n0 T1601.heap := O1600.keep Ku1604 (allS g_b1600 all0)
          have chu1604 := CHr.keep Ku1604 (allS (Safe.exa hZ964.alike A1600 (by decide) (by decide)) all0) CR1600.1
          have CRu1604 := CR1600.trans chu1604
          have N1601 := Fr.app N1591 u1603
          have pre1608 : ∀ t, Steps p.tables e below (T1601.setTop (mkF m 58 #[.val (.int p1), .val (.int p2), .val (.int p3), .val (.int i8), .val (.ref b38), .val (.ref b1016), .val (.ref b1590), .val (.int (0 : Int32)), .val (.ref b1600), .unset] [(.int i8), (.int p1)])) t → Steps p.tables e below (s₁.setTop (entryFrame m #[(.int p1), (.int p2), (.int p3)] maxLocals)) t := by
            intro t kt
            refine pre1598 t ?_
            show Steps p.tables e below (T1591.setTop (mkF m 42 #[.val (.int p1), .val (.int p2), .val (.int p3), .val (.int i8), .val (.ref b38), .val (.ref b1016), .val (.ref b1590), .val (.int (0 : Int32)), .unset, .unset] [(.int (0 : Int32))])) _
            refine XS.ifNo X1591.here hx rfl (hb hby at_42) rfl ((if0 _ _).trans (teq (by decide +kernel : (0 : Int32) = (0 : Int32))).2) ?_
            refine st1600 _ ?_
            refine XS.dup X1600.here hx rfl (hb hby at_48) rfl rfl ?_
            refine XS.aload X1600.here hx rfl (hb hby at_49) rfl rfl ?_
            refine st1601.trans ?_
            refine XS.astore X1601.here hx rfl (hb hby at_54) rfl rfl (l' := #[.val (.int p1), .val (.int p2), .val (.int p3), .val (.int i8), .val (.ref b38), .val (.ref b1016), .val (.ref b1590), .val (.int (0 : Int32)), .val (.ref b1600), .unset]) rfl ?_
            refine XS.iloadN X1601.here hx rfl (hb hby at_56) rfl ?_
            refine XS.iloadN X1601.here hx rfl (hb hby at_57) rfl ?_
            show Steps p.tables e below (T1601.setTop (mkF m 58 #[.val (.int p1), .val (.int p2), .val (.int p3), .val (.int i8), .val (.ref b38), .val (.ref b1016), .val (.ref b1590), .val (.int (0 : Int32)), .val (.ref b1600), .unset] [(.int i8), (.int p1)])) _
            exact kt
          obtain ⟨_, _, ⟨T1607, L1607, k1607, n1607⟩, -, X1607, ⟨Lc1607, hQ1607, l1607, y1607, z1607⟩, st1607⟩ := Jvm.LawKit.callS X1601 hx (y := M_12) hown964 (mvT hZ964 (hw _ (gw 77 rfl))) (mvT hZ964 (hw _ (gw 78 rfl))) (mvT hZ964 (hw _ (gw 2 rfl))) (mvT hZ964 (hw _ (gw 79 rfl))) (by decide) (backOf (W := 0) (rm16_16 l Z a0 hw [] p1 i8 T1601.heap n0  Ou1604) hZ964 (hw _ (gw 79 rfl)) (hw _ (gw 2 rfl)) (by decide) (by decide)) (g := (mkF m 58 #[.val (.int p1), .val (.int p2), .val (.int p3), .val (.int i8), .val (.ref b38), .val (.ref b1016), .val (.ref b1590), .val (.int (0 : Int32)), .val (.ref b1600), .unset] [(.int i8), (.int p1)])) rfl (by rw [hml]; rfl) (argsL := [(.int p1), (.int i8)]) (rest := []) (lenOf pd_12 rfl) rfl (by show 2 * 0 + _ ≤ _; exact Nat.le_of_eq rfl) (hb hby at_58) (fun _ _ => ⟨rfl, rfl, (by decide : 14 + 0 ≤ _), (by decide : 26 + 0 ≤ _)⟩)
          dsimp only [Pt.U, Pt.locs, Pt.cells, Pt.slots] at X1607 l1607 y1607 z1607 st1607 hQ1607
          subst l1607 y1607 z1607
          rcases hQ1607 with ⟨i1609, i1610, i1611, i1612, u1613, u1614, u1615, u1616, u1617, u1618, rfl, u1620, u1621⟩ | ⟨i1622, i1623, i1624, i1625, u1626, u1627, u1628, u1629, u1630, u1631, rfl, u1633, u1634⟩ | ⟨i1635, i1636, i1637, i1638, u1639, u1640, u1641, u1642, u1643, u1644, rfl, u1646, u1647⟩ | ⟨i1648, i1649, i1650, i1651, u1652, u1653, u1654, u1655, u1656, u1657, rfl, u1659, u1660⟩ | ⟨i1661, i1662, i1663, i1664, i1665, i1666, u1667, u1668, u1669, u1670, u1671, u1672, u1673, u1674, u1675, rfl, u1677, u1678⟩ | ⟨i1679, i1680, i1681, i1682, i1683, i1684, u1685, u1686, u1687, u1688, u1689, u1690, u1691, u1692, u1693, rfl, u1695, u1696⟩ | ⟨i1697, i1698, i1699, i1700, u1701, u1702, u1703, u1704, u1705, u1706, rfl, u1708, u1709⟩ | ⟨i1710, i1711, i1712, i1713, u1714, u1715, u1716, u1717, u1718, u1719, rfl, u1721, u1722⟩ | ⟨i1723, i1724, i1725, i1726, u1727, u1728, u1729, u1730, u1731, u1732, rfl, u1734, u1735⟩ | ⟨i1736, i1737, i1738, i1739, i1740, i1741, i1742, i1743, i1744, i1745, u1746, u1747, u1748, u1749, u1750, u1751, u1752, u1753, u1754, u1755, u1756, u1757, u1758, u1759, rfl, u1761, u1762⟩ | ⟨i1763, i1764, i1765, i1766, i1767, i1768, i1769, i1770, i1771, i1772, u1773, u1774, u1775, u1776, u1777, u1778, u1779, u1780, u1781, u1782, u1783, u1784, u1785, u1786, rfl, u1788, u1789⟩ | ⟨i1790, i1791, i1792, i1793, i1794, i1795, u1796, u1797, u1798, u1799, u1800, u1801, u1802, u1803, u1804, rfl, u1806, u1807⟩
          · skip
            have N1607 := Fr.app N1601 u1620
            have pre1808 : ∀ t, Steps p.tables e below (T1607.setTop (mkF m 61 #[.val (.int p1), .val (.int p2), .val (.int p3), .val (.int i8), .val (.ref b38), .val (.ref b1016), .val (.ref b1590), .val (.int (0 : Int32)), .val (.ref b1600), .unset] [(.int (1 : Int32))])) t → Steps p.tables e below (s₁.setTop (entryFrame m #[(.int p1), (.int p2), (.int p3)] maxLocals)) t := by
              intro t kt
              refine pre1608 t ?_
              refine st1607 _ ?_
              exact kt
            obtain rfl : i34 = i1611 := (u1617.trans u45.symm).symm
            obtain rfl : i35 = i1612 := (u1615.trans u42.symm).symm
            exact absurd (u1613.trans u41.symm) (by decide +kernel)
          · skip
            have N1607 := Fr.app N1601 u1633
            have pre1809 : ∀ t, Steps p.tables e below (T1607.setTop (mkF m 61 #[.val (.int p1), .val (.int p2), .val (.int p3), .val (.int i8), .val (.ref b38), .val (.ref b1016), .val (.ref b1590), .val (.int (0 : Int32)), .val (.ref b1600), .unset] [(.int (0 : Int32))])) t → Steps p.tables e below (s₁.setTop (entryFrame m #[(.int p1), (.int p2), (.int p3)] maxLocals)) t := by
              intro t kt
              refine pre1608 t ?_
              refine st1607 _ ?_
              exact kt
            obtain rfl : i34 = i1624 := (u1630.trans u45.symm).symm
            obtain rfl : i35 = i1625 := (u1628.trans u42.symm).symm
            exact absurd (u1626.trans u41.symm) (by decide +kernel)
          · skip
            have N1607 := Fr.app N1601 u1646
            have pre1810 : ∀ t, Steps p.tables e below (T1607.setTop (mkF m 61 #[.val (.int p1), .val (.int p2), .val (.int p3), .val (.int i8), .val (.ref b38), .val (.ref b1016), .val (.ref b1590), .val (.int (0 : Int32)), .val (.ref b1600), .unset] [(.int (0 : Int32))])) t → Steps p.tables e below (s₁.setTop (entryFrame m #[(.int p1), (.int p2), (.int p3)] maxLocals)) t := by
              intro t kt
              refine pre1608 t ?_
              refine st1607 _ ?_
              exact kt
            obtain rfl : i34 = i1637 := (u1643.trans u45.symm).symm
            obtain rfl : i35 = i1638 := (u1641.trans u42.symm).symm
            exact absurd (u1639.trans u41.symm) (by decide +kernel)
          · skip
            have N1607 := Fr.app N1601 u1659
            have pre1811 : ∀ t, Steps p.tables e below (T1607.setTop (mkF m 61 #[.val (.int p1), .val (.int p2), .val (.int p3), .val (.int i8), .val (.ref b38), .val (.ref b1016), .val (.ref b1590), .val (.int (0 : Int32)), .val (.ref b1600), .unset] [(.int (0 : Int32))])) t → Steps p.tables e below (s₁.setTop (entryFrame m #[(.int p1), (.int p2), (.int p3)] maxLocals)) t := by
              intro t kt
              refine pre1608 t ?_
              refine st1607 _ ?_
              exact kt
            obtain rfl : i34 = i1648 := (u1656.trans u45.symm).symm
            obtain rfl : i35 = i1649 := (u1654.trans u42.symm).symm
            obtain rfl : i1010 = i1650 := (u1657.trans u1025.symm).symm
            obtain rfl : i1011 = i1651 := (u1655.trans u1020.symm).symm
            exact absurd (u1653.trans u1019.symm) (by decide +kernel)
          · skip
            have N1607 := Fr.app N1601 u1677
            have pre1812 : ∀ t, Steps p.tables e below (T1607.setTop (mkF m 61 #[.val (.int p1), .val (.int p2), .val (.int p3), .val (.int i8), .val (.ref b38), .val (.ref b1016), .val (.ref b1590), .val (.int (0 : Int32)), .val (.ref b1600), .unset] [(.int (1 : Int32))])) t → Steps p.tables e below (s₁.setTop (entryFrame m #[(.int p1), (.int p2), (.int p3)] maxLocals)) t := by
              intro t kt
              refine pre1608 t ?_
              refine st1607 _ ?_
              exact kt
            obtain rfl : i36 = i1665 := (u1671.trans u44.symm).symm
            obtain rfl : i1009 = i1666 := (u1672.trans u1023.symm).symm
            obtain rfl : i34 = i1661 := (u1673.trans u45.symm).symm
            obtain rfl : i35 = i1662 := (u1669.trans u42.symm).symm
            obtain rfl : i1010 = i1663 := (u1674.trans u1025.symm).symm
            obtain rfl : i1011 = i1664 := (u1670.trans u1020.symm).symm
            exact absurd (u1668.trans u1019.symm) (by decide +kernel)
          · skip
            have N1607 := Fr.app N1601 u1695
            have pre1813 : ∀ t, Steps p.tables e below (T1607.setTop (mkF m 61 #[.val (.int p1), .val (.int p2), .val (.int p3), .val (.int i8), .val (.ref b38), .val (.ref b1016), .val (.ref b1590), .val (.int (0 : Int32)), .val (.ref b1600), .unset] [(.int (0 : Int32))])) t → Steps p.tables e below (s₁.setTop (entryFrame m #[(.int p1), (.int p2), (.int p3)] maxLocals)) t := by
              intro t kt
              refine pre1608 t ?_
              refine st1607 _ ?_
              exact kt
            obtain rfl : i36 = i1683 := (u1689.trans u44.symm).symm
            obtain rfl : i1009 = i1684 := (u1690.trans u1023.symm).symm
            obtain rfl : i34 = i1679 := (u1691.trans u45.symm).symm
            obtain rfl : i35 = i1680 := (u1687.trans u42.symm).symm
            obtain rfl : i1010 = i1681 := (u1692.trans u1025.symm).symm
            obtain rfl : i1011 = i1682 := (u1688.trans u1020.symm).symm
            exact absurd (u1686.trans u1019.symm) (by decide +kernel)
          · skip
            have N1607 := Fr.app N1601 u1708
            have pre1814 : ∀ t, Steps p.tables e below (T1607.setTop (mkF m 61 #[.val (.int p1), .val (.int p2), .val (.int p3), .val (.int i8), .val (.ref b38), .val (.ref b1016), .val (.ref b1590), .val (.int (0 : Int32)), .val (.ref b1600), .unset] [(.int (0 : Int32))])) t → Steps p.tables e below (s₁.setTop (entryFrame m #[(.int p1), (.int p2), (.int p3)] maxLocals)) t := by
              intro t kt
              refine pre1608 t ?_
              refine st1607 _ ?_
              exact kt
            obtain rfl : i34 = i1697 := (u1705.trans u45.symm).symm
            obtain rfl : i35 = i1698 := (u1703.trans u42.symm).symm
            obtain rfl : i1010 = i1699 := (u1706.trans u1025.symm).symm
            obtain rfl : i1011 = i1700 := (u1704.trans u1020.symm).symm
            have f1815 : Fld Z T1601.heap b1590 C_1 "written" C_2 (.ref b38) := ((Fld.ext E1600 u1596).keep Ku1604 (ninS (Nat.ne_of_lt (Nat.lt_of_lt_of_le (Nat.lt_of_lt_of_le lt_b1590 Ku1594.1) bd_b1600)) nin0))
            have f1816 : Exa Z T1601.heap b1016 C_0 := ((Exa.ext E1600 ((Exa.ext E1590 u1035).keep Ku1594)).keep Ku1604)
            have f1817 : Exa Z T1601.heap b38 C_0 := ((Exa.ext E1600 ((Exa.ext E1590 (u54.keep Ku1034)).keep Ku1594)).keep Ku1604)
            have f1818 : Fld Z T1601.heap b1016 C_0 "coder" "B" (.int (0 : Int32)) := ((Fld.ext E1600 ((Fld.ext E1590 u1036).keep Ku1594 (ninS (Nat.ne_of_lt (Nat.lt_of_lt_of_le u1030 bd_b1590)) nin0))).keep Ku1604 (ninS (Nat.ne_of_lt (Nat.lt_of_lt_of_le (Nat.lt_of_lt_of_le (Nat.lt_of_lt_of_le u1030 E1590.1) Ku1594.1) bd_b1600)) nin0))
            have f1819 : Fld Z T1601.heap b38 C_0 "coder" "B" (.int (0 : Int32)) := ((Fld.ext E1600 ((Fld.ext E1590 (u55.keep Ku1034 nin0)).keep Ku1594 (ninS (Nat.ne_of_lt (Nat.lt_of_lt_of_le (Nat.lt_of_lt_of_le u49 Ku1034.1) bd_b1590)) nin0))).keep Ku1604 (ninS (Nat.ne_of_lt (Nat.lt_of_lt_of_le (Nat.lt_of_lt_of_le (Nat.lt_of_lt_of_le (Nat.lt_of_lt_of_le u49 Ku1034.1) E1590.1) Ku1594.1) bd_b1600)) nin0))
            have f1820 : Fld Z T1601.heap b1016 C_0 "value" "[B" (.ref b1017) := ((Fld.ext E1600 ((Fld.ext E1590 u1037).keep Ku1594 (ninS (Nat.ne_of_lt (Nat.lt_of_lt_of_le u1030 bd_b1590)) nin0))).keep Ku1604 (ninS (Nat.ne_of_lt (Nat.lt_of_lt_of_le (Nat.lt_of_lt_of_le (Nat.lt_of_lt_of_le u1030 E1590.1) Ku1594.1) bd_b1600)) nin0))
            have f1821 : Fld Z T1601.heap b38 C_0 "value" "[B" (.ref b39) := ((Fld.ext E1600 ((Fld.ext E1590 (u56.keep Ku1034 nin0)).keep Ku1594 (ninS (Nat.ne_of_lt (Nat.lt_of_lt_of_le (Nat.lt_of_lt_of_le u49 Ku1034.1) bd_b1590)) nin0))).keep Ku1604 (ninS (Nat.ne_of_lt (Nat.lt_of_lt_of_le (Nat.lt_of_lt_of_le (Nat.lt_of_lt_of_le (Nat.lt_of_lt_of_le u49 Ku1034.1) E1590.1) Ku1594.1) bd_b1600)) nin0))
            have f1822 : Arv Z T1601.heap b1017 k1018 .byte (2 : Int32) [(.int i1015), (.int i1014)] (.int (0 : Int32)) := ((((u1039.ext E1590).keep Ku1594 (ninS (Nat.ne_of_lt (Nat.lt_of_lt_of_le u1032 bd_b1590)) nin0)).ext E1600).keep Ku1604 (ninS (Nat.ne_of_lt (Nat.lt_of_lt_of_le (Nat.lt_of_lt_of_le (Nat.lt_of_lt_of_le u1032 E1590.1) Ku1594.1) bd_b1600)) nin0))
            have f1823 : Arv Z T1601.heap b39 k40 .byte (1 : Int32) [(.int i37)] (.int (0 : Int32)) := (((((u58.keep Ku1034 nin0).ext E1590).keep Ku1594 (ninS (Nat.ne_of_lt (Nat.lt_of_lt_of_le (Nat.lt_of_lt_of_le u51 Ku1034.1) bd_b1590)) nin0)).ext E1600).keep Ku1604 (ninS (Nat.ne_of_lt (Nat.lt_of_lt_of_le (Nat.lt_of_lt_of_le (Nat.lt_of_lt_of_le (Nat.lt_of_lt_of_le u51 Ku1034.1) E1590.1) Ku1594.1) bd_b1600)) nin0))
            have f1825 : Exa Z T1601.heap b1590 C_1 := ((Exa.ext E1600 u1595).keep Ku1604)
            obtain ⟨cq1824, kq1824, q1824a, q1824b, q1824c⟩ := isOf hZ964 u1709 f1825
            obtain ⟨_, _, ⟨T1824, L1824, k1824, n1824⟩, -, X1824, ⟨Lc1824, hQ1824, l1824, y1824, z1824⟩, st1824⟩ := X1607.virtualBack hx (y := M_15) (z := M_15) hown964 (mvT hZ964 (hw _ (gw 38 rfl))) (mvT hZ964 (hw _ (gw 39 rfl))) (notFace_of_selects (args := #[]) (mvT hZ964 (hw _ (gw 41 rfl)))) (mvT hZ964 (hw _ (gw 41 rfl))) (mvT hZ964 (hw _ (gw 40 rfl))) (by decide) (backOf (W := 0) (rm7_42 l Z a0 hw [] b1590 b1600 b1016 b38 p11 b1017 b39 i1015 i1014 k1018 i37 k40 T1601.heap n0  Ou1604 u1605 u1606 f1815 f1816 (Ne.symm (Nat.ne_of_lt (Nat.lt_of_lt_of_le u49 u1029))) f1817 S_12 hk13 f1818 f1819 f1820 f1821 f1822 f1823) hZ964 (hw _ (gw 42 rfl)) (hw _ (gw 31 rfl)) (by decide) (by decide)) q1824a q1824c (g := (mkF m 67 #[.val (.int p1), .val (.int p2), .val (.int p3), .val (.int i8), .val (.ref b38), .val (.ref b1016), .val (.ref b1590), .val (.int (0 : Int32)), .val (.ref b1600), .val (.int (0 : Int32))] [(.ref b1600), (.ref b1590)])) rfl (by rw [hml]; rfl) (Steps.refl _) (argsL := [(.ref b1600)]) (rest := []) (lenOf pd_14 rfl) rfl (by show 2 * 0 + _ ≤ _; exact Nat.le_of_eq rfl) (hb hby at_67) (fun _ _ => ⟨rfl, u1709, (by decide : 14 + 0 ≤ _), (by decide : 26 + 0 ≤ _)⟩)
            dsimp only [Pt.U, Pt.locs, Pt.cells, Pt.slots] at X1824 l1824 y1824 z1824 st1824 hQ1824
            subst l1824 y1824 z1824
            obtain ⟨rfl, u1827, u1828⟩ := hQ1824
            have N1824 := Fr.app N1607 u1827
            obtain ⟨cq1829, kq1829, q1829a, q1829b, q1829c⟩ := isOf hZ964 u1828 u1605
            obtain ⟨_, _, ⟨T1829, L1829, k1829, n1829⟩, -, X1829, ⟨Lc1829, hQ1829, l1829, y1829, z1829⟩, st1829⟩ := X1824.virtualBack hx (y := M_15) (z := M_15) hown964 (mvT hZ964 (hw _ (gw 38 rfl))) (mvT hZ964 (hw _ (gw 39 rfl))) (notFace_of_selects (args := #[]) (mvT hZ964 (hw _ (gw 41 rfl)))) (mvT hZ964 (hw _ (gw 41 rfl))) (mvT hZ964 (hw _ (gw 40 rfl))) (by decide) (backOf (W := 0) (rm7_45 l Z a0 hw [] b1600 b1590 b38 b1016 p11 b39 b1017 i37 k40 i1015 i1014 k1018 T1601.heap n0  Ou1604 f1825 f1815 u1606 f1817 (Nat.ne_of_lt (Nat.lt_of_lt_of_le u49 u1029)) f1816 S_12 hk13 f1819 f1818 f1821 f1820 f1823 f1822) hZ964 (hw _ (gw 42 rfl)) (hw _ (gw 31 rfl)) (by decide) (by decide)) q1829a q1829c (g := (mkF m 79 #[.val (.int p1), .val (.int p2), .val (.int p3), .val (.int i8), .val (.ref b38), .val (.ref b1016), .val (.ref b1590), .val (.int (0 : Int32)), .val (.ref b1600), .val (.int (0 : Int32))] [(.ref b1590), (.ref b1600)])) rfl (by rw [hml]; rfl) (Steps.refl _) (argsL := [(.ref b1590)]) (rest := []) (lenOf pd_14 rfl) rfl (by show 2 * 0 + _ ≤ _; exact Nat.le_of_eq rfl) (hb hby at_79) (fun _ _ => ⟨rfl, u1828, (by decide : 14 + 0 ≤ _), (by decide : 26 + 0 ≤ _)⟩)
            dsimp only [Pt.U, Pt.locs, Pt.cells, Pt.slots] at X1829 l1829 y1829 z1829 st1829 hQ1829
            subst l1829 y1829 z1829
            obtain ⟨rfl, u1831, u1832⟩ := hQ1829
            have N1829 := Fr.app N1824 u1831
            obtain ⟨fs, hr, hrun, hended, hEnd⟩ := X1829.leaveW (s := s) (vm₁ := T964.vm) hS964 (by rw [u1832]; exact (Nat.le_trans (Nat.le_trans (Nat.le_trans (Nat.le_trans (Nat.le_refl _) E1590.1) Ku1594.1) E1600.1) Ku1604.1)) (v := some (.int (1 : Int32))) (fun h => by rw [Bd.returns] at h; cases h)
            refine hno ⟨_, _, pre1814 _ ?_, hrun, hended, _, _, rfl, ?_, hEnd.1, hEnd.2.1, hEnd.2.2.1, hEnd.2.2.2.mono (by decide) (by decide)⟩
            · show Steps p.tables e below (T1607.setTop (mkF m 61 #[.val (.int p1), .val (.int p2), .val (.int p3), .val (.int i8), .val (.ref b38), .val (.ref b1016), .val (.ref b1590), .val (.int (0 : Int32)), .val (.ref b1600), .unset] [(.int (0 : Int32))])) _
              refine XS.istore X1607.here hx rfl (hb hby at_61) rfl (l' := #[.val (.int p1), .val (.int p2), .val (.int p3), .val (.int i8), .val (.ref b38), .val (.ref b1016), .val (.ref b1590), .val (.int (0 : Int32)), .val (.ref b1600), .val (.int (0 : Int32))]) rfl ?_
              refine XS.aload X1607.here hx rfl (hb hby at_63) rfl rfl ?_
              refine XS.aload X1607.here hx rfl (hb hby at_65) rfl rfl ?_
              refine st1824.trans ?_
              refine XS.iload X1824.here hx rfl (hb hby at_70) rfl ?_
              refine XS.icmpNo X1824.here hx rfl (hb hby at_72) rfl (teq (by decide +kernel : (0 : Int32) = (0 : Int32))).2 ?_
              refine XS.aload X1824.here hx rfl (hb hby at_75) rfl rfl ?_
              refine XS.aload X1824.here hx rfl (hb hby at_77) rfl rfl ?_
              refine st1829.trans ?_
              show Steps p.tables e below (T1829.setTop (mkF m 82 #[.val (.int p1), .val (.int p2), .val (.int p3), .val (.int i8), .val (.ref b38), .val (.ref b1016), .val (.ref b1590), .val (.int (0 : Int32)), .val (.ref b1600), .val (.int (0 : Int32))] [(.int (0 : Int32))])) _
              refine XS.iload X1829.here hx rfl (hb hby at_82) rfl ?_
              refine XS.icmpNo X1829.here hx rfl (hb hby at_84) rfl (teq (by decide +kernel : (0 : Int32) = (0 : Int32))).2 ?_
              refine XS.iconst X1829.here hx rfl (hb hby at_87) ?_
              refine XS.goto X1829.here hx rfl (pc0 := 88) (pc' := 92) rfl (hb hby at_88) (by decide) (by decide) ?_
              show Steps p.tables e below (T1829.setTop (mkF m 92 #[.val (.int p1), .val (.int p2), .val (.int p3), .val (.int i8), .val (.ref b38), .val (.ref b1016), .val (.ref b1590), .val (.int (0 : Int32)), .val (.ref b1600), .val (.int (0 : Int32))] [(.int (1 : Int32))])) _
              exact retN X1829 hx (t := .boolean) Bd.returns (by simp) (hb hby at_92) hr
            · show Q0 Z _ _ _ _ h0 n0 _ T1829.heap _
              rw [u1832]
              exact ⟨rfl, N1829⟩
          · skip
            have N1607 := Fr.app N1601 u1721
            have pre1833 : ∀ t, Steps p.tables e below (T1607.setTop (mkF m 61 #[.val (.int p1), .val (.int p2), .val (.int p3), .val (.int i8), .val (.ref b38), .val (.ref b1016), .val (.ref b1590), .val (.int (0 : Int32)), .val (.ref b1600), .unset] [(.int (0 : Int32))])) t → Steps p.tables e below (s₁.setTop (entryFrame m #[(.int p1), (.int p2), (.int p3)] maxLocals)) t := by
              intro t kt
              refine pre1608 t ?_
              refine st1607 _ ?_
              exact kt
            obtain rfl : i34 = i1710 := (u1718.trans u45.symm).symm
            obtain rfl : i35 = i1711 := (u1716.trans u42.symm).symm
            exact absurd (u1714.trans u41.symm) (by decide +kernel)
          · skip
            have N1607 := Fr.app N1601 u1734
            have pre1834 : ∀ t, Steps p.tables e below (T1607.setTop (mkF m 61 #[.val (.int p1), .val (.int p2), .val (.int p3), .val (.int i8), .val (.ref b38), .val (.ref b1016), .val (.ref b1590), .val (.int (0 : Int32)), .val (.ref b1600), .unset] [(.int (0 : Int32))])) t → Steps p.tables e below (s₁.setTop (entryFrame m #[(.int p1), (.int p2), (.int p3)] maxLocals)) t := by
              intro t kt
              refine pre1608 t ?_
              refine st1607 _ ?_
              exact kt
            obtain rfl : i34 = i1723 := (u1731.trans u45.symm).symm
            obtain rfl : i35 = i1724 := (u1729.trans u42.symm).symm
            exact absurd (u1727.trans u41.symm) (by decide +kernel)
          · skip
            have N1607 := Fr.app N1601 u1761
            have pre1835 : ∀ t, Steps p.tables e below (T1607.setTop (mkF m 61 #[.val (.int p1), .val (.int p2), .val (.int p3), .val (.int i8), .val (.ref b38), .val (.ref b1016), .val (.ref b1590), .val (.int (0 : Int32)), .val (.ref b1600), .unset] [(.int (1 : Int32))])) t → Steps p.tables e below (s₁.setTop (entryFrame m #[(.int p1), (.int p2), (.int p3)] maxLocals)) t := by
              intro t kt
              refine pre1608 t ?_
              refine st1607 _ ?_
              exact kt
            obtain rfl : i36 = i1738 := (u1750.trans u44.symm).symm
            obtain rfl : i1009 = i1739 := (u1751.trans u1023.symm).symm
            obtain rfl : i34 = i1744 := (u1754.trans u45.symm).symm
            obtain rfl : i35 = i1745 := (u1748.trans u42.symm).symm
            exact absurd (u1746.trans u41.symm) (by decide +kernel)
          · skip
            have N1607 := Fr.app N1601 u1788
            have pre1836 : ∀ t, Steps p.tables e below (T1607.setTop (mkF m 61 #[.val (.int p1), .val (.int p2), .val (.int p3), .val (.int i8), .val (.ref b38), .val (.ref b1016), .val (.ref b1590), .val (.int (0 : Int32)), .val (.ref b1600), .unset] [(.int (0 : Int32))])) t → Steps p.tables e below (s₁.setTop (entryFrame m #[(.int p1), (.int p2), (.int p3)] maxLocals)) t := by
              intro t kt
              refine pre1608 t ?_
              refine st1607 _ ?_
              exact kt
            obtain rfl : i36 = i1765 := (u1777.trans u44.symm).symm
            obtain rfl : i1009 = i1766 := (u1778.trans u1023.symm).symm
            obtain rfl : i34 = i1771 := (u1781.trans u45.symm).symm
            obtain rfl : i35 = i1772 := (u1775.trans u42.symm).symm
            exact absurd (u1773.trans u41.symm) (by decide +kernel)
          · skip
            have N1607 := Fr.app N1601 u1806
            have pre1837 : ∀ t, Steps p.tables e below (T1607.setTop (mkF m 61 #[.val (.int p1), .val (.int p2), .val (.int p3), .val (.int i8), .val (.ref b38), .val (.ref b1016), .val (.ref b1590), .val (.int (0 : Int32)), .val (.ref b1600), .unset] [(.int (0 : Int32))])) t → Steps p.tables e below (s₁.setTop (entryFrame m #[(.int p1), (.int p2), (.int p3)] maxLocals)) t := by
              intro t kt
              refine pre1608 t ?_
              refine st1607 _ ?_
              exact kt
            obtain rfl : i36 = i1792 := (u1800.trans u44.symm).symm
            obtain rfl : i1009 = i1793 := (u1801.trans u1023.symm).symm
            obtain rfl : i34 = i1794 := (u1802.trans u45.symm).symm
            obtain rfl : i35 = i1795 := (u1798.trans u42.symm).symm
            exact absurd (u1796.trans u41.symm) (by decide +kernel)
        · skip
          have pre1838 : ∀ t, Steps p.tables e below (T1591.setTop (mkF m 96 #[.val (.int p1), .val (.int p2), .val (.int p3), .val (.int i8), .val (.ref b38), .val (.ref b1016), .val (.ref b1590), .val (.int i1597), .unset, .unset] [(.int (1 : Int32)), (.int i1597)])) t → Steps p.tables e below (s₁.setTop (entryFrame m #[(.int p1), (.int p2), (.int p3)] maxLocals)) t := by
            intro t kt
            refine pre1598 t ?_
            show Steps p.tables e below (T1591.setTop (mkF m 42 #[.val (.int p1), .val (.int p2), .val (.int p3), .val (.int i8), .val (.ref b38), .val (.ref b1016), .val (.ref b1590), .val (.int i1597), .unset, .unset] [(.int i1597)])) _
            refine XS.ifYes X1591.here hx rfl (pc0 := 42) (pc' := 93) rfl (hb hby at_42) rfl ((if0 _ _).trans (feq hc1599).2) (by decide) (by decide) ?_
            refine XS.iload X1591.here hx rfl (hb hby at_93) rfl ?_
            refine XS.iconst X1591.here hx rfl (hb hby at_95) ?_
            exact kt
          by_cases hc1839 : i1597 = (1 : Int32)
          · skip
            subst hc1839
            have f1840 : Exa Z T1591.heap b1016 C_0 := ((Exa.ext E1590 u1035).keep Ku1594)
            obtain ⟨cq1841, kq1841, q1841a, q1841b, q1841c⟩ := isOf hZ964 rfl u1595
            obtain ⟨_, _, ⟨T1841, L1841, k1841, n1841⟩, -, X1841, ⟨Lc1841, hQ1841, l1841, y1841, z1841⟩, st1841⟩ := X1591.virtualBack hx (y := M_15) (z := M_15) hown964 (mvT hZ964 (hw _ (gw 38 rfl))) (mvT hZ964 (hw _ (gw 39 rfl))) (notFace_of_selects (args := #[]) (mvT hZ964 (hw _ (gw 41 rfl)))) (mvT hZ964 (hw _ (gw 41 rfl))) (mvT hZ964 (hw _ (gw 40 rfl))) (by decide) (backOf (W := 0) (rm7_20 l Z a0 hw [] b1590 b1016 T1591.heap n0  Ou1594 f1840) hZ964 (hw _ (gw 42 rfl)) (hw _ (gw 31 rfl)) (by decide) (by decide)) q1841a q1841c (g := (mkF m 107 #[.val (.int p1), .val (.int p2), .val (.int p3), .val (.int i8), .val (.ref b38), .val (.ref b1016), .val (.ref b1590), .val (.int (1 : Int32)), .val (.ref b1016), .unset] [(.ref b1016), (.ref b1590)])) rfl (by rw [hml]; rfl) (Steps.refl _) (argsL := [(.ref b1016)]) (rest := []) (lenOf pd_14 rfl) rfl (by show 2 * 0 + _ ≤ _; exact Nat.le_of_eq rfl) (hb hby at_107) (fun _ _ => ⟨rfl, rfl, (by decide : 13 + 0 ≤ _), (by decide : 25 + 0 ≤ _)⟩)
            dsimp only [Pt.U, Pt.locs, Pt.cells, Pt.slots] at X1841 l1841 y1841 z1841 st1841 hQ1841
            subst l1841 y1841 z1841
            obtain ⟨rfl, u1843, u1844⟩ := hQ1841
            have N1841 := Fr.app N1591 u1843
            obtain ⟨fs, hr, hrun, hended, hEnd⟩ := X1841.leaveW (s := s) (vm₁ := T964.vm) hS964 (by rw [u1844]; exact (Nat.le_trans (Nat.le_trans (Nat.le_refl _) E1590.1) Ku1594.1)) (v := some (.int (1 : Int32))) (fun h => by rw [Bd.returns] at h; cases h)
            refine hno ⟨_, _, pre1838 _ ?_, hrun, hended, _, _, rfl, ?_, hEnd.1, hEnd.2.1, hEnd.2.2.1, hEnd.2.2.2.mono (by decide) (by decide)⟩
            · show Steps p.tables e below (T1591.setTop (mkF m 96 #[.val (.int p1), .val (.int p2), .val (.int p3), .val (.int i8), .val (.ref b38), .val (.ref b1016), .val (.ref b1590), .val (.int (1 : Int32)), .unset, .unset] [(.int (1 : Int32)), (.int (1 : Int32))])) _
              refine XS.icmpNo X1591.here hx rfl (hb hby at_96) rfl (teq (by decide +kernel : (1 : Int32) = (1 : Int32))).2 ?_
              refine XS.aload X1591.here hx rfl (hb hby at_99) rfl rfl ?_
              refine XS.astore X1591.here hx rfl (hb hby at_101) rfl rfl (l' := #[.val (.int p1), .val (.int p2), .val (.int p3), .val (.int i8), .val (.ref b38), .val (.ref b1016), .val (.ref b1590), .val (.int (1 : Int32)), .val (.ref b1016), .unset]) rfl ?_
              refine XS.aload X1591.here hx rfl (hb hby at_103) rfl rfl ?_
              refine XS.aload X1591.here hx rfl (hb hby at_105) rfl rfl ?_
              refine st1841.trans ?_
              refine XS.ifNo X1841.here hx rfl (hb hby at_110) rfl ((if0 _ _).trans (teq (by decide +kernel : (0 : Int32) = (0 : Int32))).2) ?_
              refine XS.iconst X1841.here hx rfl (hb hby at_113) ?_
              refine XS.goto X1841.here hx rfl (pc0 := 114) (pc' := 118) rfl (hb hby at_114) (by decide) (by decide) ?_
              show Steps p.tables e below (T1841.setTop (mkF m 118 #[.val (.int p1), .val (.int p2), .val (.int p3), .val (.int i8), .val (.ref b38), .val (.ref b1016), .val (.ref b1590), .val (.int (1 : Int32)), .val (.ref b1016), .unset] [(.int (1 : Int32))])) _
              exact retN X1841 hx (t := .boolean) Bd.returns (by simp) (hb hby at_118) hr
            · show Q0 Z _ _ _ _ h0 n0 _ T1841.heap _
              rw [u1844]
              exact ⟨rfl, N1841⟩
          · skip
            have pre1845 : ∀ t, Steps p.tables e below (T1591.setTop (mkF m 122 #[.val (.int p1), .val (.int p2), .val (.int p3), .val (.int i8), .val (.ref b38), .val (.ref b1016), .val (.ref b1590), .val (.int i1597), .unset, .unset] [(.int (2 : Int32)), (.int i1597)])) t → Steps p.tables e below (s₁.setTop (entryFrame m #[(.int p1), (.int p2), (.int p3)] maxLocals)) t := by
              intro t kt
              refine pre1838 t ?_
              show Steps p.tables e below (T1591.setTop (mkF m 96 #[.val (.int p1), .val (.int p2), .val (.int p3), .val (.int i8), .val (.ref b38), .val (.ref b1016), .val (.ref b1590), .val (.int i1597), .unset, .unset] [(.int (1 : Int32)), (.int i1597)])) _
              refine XS.icmpYes X1591.here hx rfl (pc0 := 96) (pc' := 119) rfl (hb hby at_96) rfl (feq hc1839).2 (by decide) (by decide) ?_
              refine XS.iload X1591.here hx rfl (hb hby at_119) rfl ?_
              refine XS.iconst X1591.here hx rfl (hb hby at_121) ?_
              exact kt
            by_cases hc1846 : i1597 = (2 : Int32)
            · skip
              subst hc1846
              obtain ⟨cq1847, kq1847, q1847a, q1847b, q1847c⟩ := isOf hZ964 rfl u1595
              obtain ⟨_, _, ⟨T1847, L1847, k1847, n1847⟩, -, X1847, ⟨Lc1847, hQ1847, l1847, y1847, z1847⟩, st1847⟩ := X1591.virtualBack hx (y := M_15) (z := M_15) hown964 (mvT hZ964 (hw _ (gw 38 rfl))) (mvT hZ964 (hw _ (gw 39 rfl))) (notFace_of_selects (args := #[]) (mvT hZ964 (hw _ (gw 41 rfl)))) (mvT hZ964 (hw _ (gw 41 rfl))) (mvT hZ964 (hw _ (gw 40 rfl))) (by decide) (backOf (W := 0) (rm7_21 l Z a0 hw [] b1590 T1591.heap n0  Ou1594) hZ964 (hw _ (gw 42 rfl)) (hw _ (gw 31 rfl)) (by decide) (by decide)) q1847a q1847c (g := (mkF m 128 #[.val (.int p1), .val (.int p2), .val (.int p3), .val (.int i8), .val (.ref b38), .val (.ref b1016), .val (.ref b1590), .val (.int (2 : Int32)), .unset, .unset] [.null, (.ref b1590)])) rfl (by rw [hml]; rfl) (Steps.refl _) (argsL := [.null]) (rest := []) (lenOf pd_14 rfl) rfl (by show 2 * 0 + _ ≤ _; exact Nat.le_of_eq rfl) (hb hby at_128) (fun _ _ => ⟨rfl, rfl, (by decide : 13 + 0 ≤ _), (by decide : 25 + 0 ≤ _)⟩)
              dsimp only [Pt.U, Pt.locs, Pt.cells, Pt.slots] at X1847 l1847 y1847 z1847 st1847 hQ1847
              subst l1847 y1847 z1847
              obtain ⟨rfl, u1849, u1850⟩ := hQ1847
              have N1847 := Fr.app N1591 u1849
              obtain ⟨fs, hr, hrun, hended, hEnd⟩ := X1847.leaveW (s := s) (vm₁ := T964.vm) hS964 (by rw [u1850]; exact (Nat.le_trans (Nat.le_trans (Nat.le_refl _) E1590.1) Ku1594.1)) (v := some (.int (1 : Int32))) (fun h => by rw [Bd.returns] at h; cases h)
              refine hno ⟨_, _, pre1845 _ ?_, hrun, hended, _, _, rfl, ?_, hEnd.1, hEnd.2.1, hEnd.2.2.1, hEnd.2.2.2.mono (by decide) (by decide)⟩
              · show Steps p.tables e below (T1591.setTop (mkF m 122 #[.val (.int p1), .val (.int p2), .val (.int p3), .val (.int i8), .val (.ref b38), .val (.ref b1016), .val (.ref b1590), .val (.int (2 : Int32)), .unset, .unset] [(.int (2 : Int32)), (.int (2 : Int32))])) _
                refine XS.icmpNo X1591.here hx rfl (hb hby at_122) rfl (teq (by decide +kernel : (2 : Int32) = (2 : Int32))).2 ?_
                refine XS.aload X1591.here hx rfl (hb hby at_125) rfl rfl ?_
                refine XS.aconstNull X1591.here hx rfl (hb hby at_127) ?_
                refine st1847.trans ?_
                refine XS.ifNo X1847.here hx rfl (hb hby at_131) rfl ((if0 _ _).trans (teq (by decide +kernel : (0 : Int32) = (0 : Int32))).2) ?_
                refine XS.iconst X1847.here hx rfl (hb hby at_134) ?_
                refine XS.goto X1847.here hx rfl (pc0 := 135) (pc' := 139) rfl (hb hby at_135) (by decide) (by decide) ?_
                show Steps p.tables e below (T1847.setTop (mkF m 139 #[.val (.int p1), .val (.int p2), .val (.int p3), .val (.int i8), .val (.ref b38), .val (.ref b1016), .val (.ref b1590), .val (.int (2 : Int32)), .unset, .unset] [(.int (1 : Int32))])) _
                exact retN X1847 hx (t := .boolean) Bd.returns (by simp) (hb hby at_139) hr
              · show Q0 Z _ _ _ _ h0 n0 _ T1847.heap _
                rw [u1850]
                exact ⟨rfl, N1847⟩
            · skip
              have f1851 : Exa Z T1591.heap b38 C_0 := ((Exa.ext E1590 (u54.keep Ku1034)).keep Ku1594)
              obtain ⟨cq1852, kq1852, q1852a, q1852b, q1852c⟩ := isOf hZ964 rfl u1595
              obtain ⟨_, _, ⟨T1852, L1852, k1852, n1852⟩, -, X1852, ⟨Lc1852, hQ1852, l1852, y1852, z1852⟩, st1852⟩ := X1591.virtualBack hx (y := M_15) (z := M_15) hown964 (mvT hZ964 (hw _ (gw 38 rfl))) (mvT hZ964 (hw _ (gw 39 rfl))) (notFace_of_selects (args := #[]) (mvT hZ964 (hw _ (gw 41 rfl)))) (mvT hZ964 (hw _ (gw 41 rfl))) (mvT hZ964 (hw _ (gw 40 rfl))) (by decide) (backOf (W := 0) (rm7_22 l Z a0 hw [] b1590 b38 T1591.heap n0  Ou1594 u1595 u1596 f1851) hZ964 (hw _ (gw 42 rfl)) (hw _ (gw 31 rfl)) (by decide) (by decide)) q1852a q1852c (g := (mkF m 148 #[.val (.int p1), .val (.int p2), .val (.int p3), .val (.int i8), .val (.ref b38), .val (.ref b1016), .val (.ref b1590), .val (.int i1597), .val (.ref b1590), .unset] [(.ref b1590), (.ref b1590)])) rfl (by rw [hml]; rfl) (Steps.refl _) (argsL := [(.ref b1590)]) (rest := []) (lenOf pd_14 rfl) rfl (by show 2 * 0 + _ ≤ _; exact Nat.le_of_eq rfl) (hb hby at_148) (fun _ _ => ⟨rfl, rfl, (by decide : 13 + 0 ≤ _), (by decide : 25 + 0 ≤ _)⟩)
              dsimp only [Pt.U, Pt.locs, Pt.cells, Pt.slots] at X1852 l1852 y1852 z1852 st1852 hQ1852
              subst l1852 y1852 z1852
              obtain ⟨rfl, u1854, u1855⟩ := hQ1852
              have N1852 := Fr.app N1591 u1854
              obtain ⟨fs, hr, hrun, hended, hEnd⟩ := X1852.leaveW (s := s) (vm₁ := T964.vm) hS964 (by rw [u1855]; exact (Nat.le_trans (Nat.le_trans (Nat.le_refl _) E1590.1) Ku1594.1)) (v := some (.int (1 : Int32))) (fun h => by rw [Bd.returns] at h; cases h)
              refine hno ⟨_, _, pre1845 _ ?_, hrun, hended, _, _, rfl, ?_, hEnd.1, hEnd.2.1, hEnd.2.2.1, hEnd.2.2.2.mono (by decide) (by decide)⟩
              · show Steps p.tables e below (T1591.setTop (mkF m 122 #[.val (.int p1), .val (.int p2), .val (.int p3), .val (.int i8), .val (.ref b38), .val (.ref b1016), .val (.ref b1590), .val (.int i1597), .unset, .unset] [(.int (2 : Int32)), (.int i1597)])) _
                refine XS.icmpYes X1591.here hx rfl (pc0 := 122) (pc' := 140) rfl (hb hby at_122) rfl (feq hc1846).2 (by decide) (by decide) ?_
                refine XS.aload X1591.here hx rfl (hb hby at_140) rfl rfl ?_
                refine XS.astore X1591.here hx rfl (hb hby at_142) rfl rfl (l' := #[.val (.int p1), .val (.int p2), .val (.int p3), .val (.int i8), .val (.ref b38), .val (.ref b1016), .val (.ref b1590), .val (.int i1597), .val (.ref b1590), .unset]) rfl ?_
                refine XS.aload X1591.here hx rfl (hb hby at_144) rfl rfl ?_
                refine XS.aload X1591.here hx rfl (hb hby at_146) rfl rfl ?_
                refine st1852.trans ?_
                show Steps p.tables e below (T1852.setTop (mkF m 151 #[.val (.int p1), .val (.int p2), .val (.int p3), .val (.int i8), .val (.ref b38), .val (.ref b1016), .val (.ref b1590), .val (.int i1597), .val (.ref b1590), .unset] [(.int (1 : Int32))])) _
                exact retN X1852 hx (t := .boolean) Bd.returns (by simp) (hb hby at_151) hr
              · show Q0 Z _ _ _ _ h0 n0 _ T1852.heap _
                rw [u1855]
                exact ⟨rfl, N1852⟩
    · skip
      have Ou84 : Old Z n0 T14.heap := O0.keep Ku84 all0
      have chu84 := cg14
      have CRu84 := CR0.trans chu84
      have g_b66 : n0 ≤ b66 := Nat.le_trans (own_z O0) u79
      have sz_b66 : h0.size ≤ b66 := Nat.le_trans (Nat.le_refl _) u79
      have g_b67 : n0 ≤ b67 := Nat.le_trans (own_z O0) u81
      have sz_b67 : h0.size ≤ b67 := Nat.le_trans (Nat.le_refl _) u81
      have N14 := Fr.app N0 u78
      have pre1857 : ∀ t, Steps p.tables e below (T14.setTop (mkF m 19 #[.val (.int p1), .val (.int p2), .val (.int p3), .val (.int i8), .val (.ref b66), .unset, .unset, .unset, .unset, .unset] [(.int i8)])) t → Steps p.tables e below (s₁.setTop (entryFrame m #[(.int p1), (.int p2), (.int p3)] maxLocals)) t := by
        intro t kt
        refine pre15 t ?_
        refine st14.trans ?_
        show Steps p.tables e below (T14.setTop (mkF m 16 #[.val (.int p1), .val (.int p2), .val (.int p3), .val (.int i8), .unset, .unset, .unset, .unset, .unset, .unset] [(.ref b66)])) _
        refine XS.astore X14.here hx rfl (hb hby at_16) rfl rfl (l' := #[.val (.int p1), .val (.int p2), .val (.int p3), .val (.int i8), .val (.ref b66), .unset, .unset, .unset, .unset, .unset]) rfl ?_
        refine XS.iloadN X14.here hx rfl (hb hby at_18) rfl ?_
        show Steps p.tables e below (T14.setTop (mkF m 19 #[.val (.int p1), .val (.int p2), .val (.int p3), .val (.int i8), .val (.ref b66), .unset, .unset, .unset, .unset, .unset] [(.int i8)])) _
        exact kt
      obtain ⟨_, _, ⟨T1856, L1856, k1856, n1856⟩, -, X1856, sn1856, gr1856, ⟨Lc1856, hQ1856, l1856, y1856, z1856, cg1856⟩, st1856⟩ := callSS X14 hx (y := M_10) hown14 (mvT hZ14 (hw _ (gw 0 rfl))) (mvT hZ14 (hw _ (gw 1 rfl))) (mvT hZ14 (hw _ (gw 2 rfl))) (mvT hZ14 (hw _ (gw 3 rfl))) (by decide) (backOfSH (s := s) (vm0 := T14.vm) (EL := own_EL) (W := 0) (rm1_2 l Z a0 hw [] i8 p11 T14.heap n0  Ou84 S_12 hk13) hZ14 (hw _ (gw 3 rfl)) (hw _ (gw 2 rfl)) (by decide) (by decide) (own_EW hw) CRu84.1) (g := (mkF m 19 #[.val (.int p1), .val (.int p2), .val (.int p3), .val (.int i8), .val (.ref b66), .unset, .unset, .unset, .unset, .unset] [(.int i8)])) rfl (by rw [hml]; rfl) (argsL := [(.int i8)]) (rest := []) (lenOf pd_10 rfl) rfl (by show 2 * 0 + _ ≤ _; exact Nat.le_of_eq rfl) (hb hby at_19) (fun _ _ => ⟨rfl, rfl, (by decide : 6 + 6 ≤ _), (by decide : 12 + 12 ≤ _)⟩)
      dsimp only [Pt.U, Pt.locs, Pt.cells, Pt.slots] at X1856 l1856 y1856 z1856 st1856 hQ1856 sn1856 gr1856 cg1856
      subst l1856 y1856 z1856
      have gs1856 : T14.heap.size ≤ T1856.heap.size := gr1856
      have hS1856 : s.Since T1856.vm T1856.heap.size := hS14.trans sn1856 (Nat.le_trans (Nat.le_refl _) gs1856)
      have hZ1856 : Z.Warmed39 (s.setVm T1856.vm).vm := State.Warmed39.trans (t := (s.setVm T14.vm)) hZ14 sn1856.1
      have hown1856 : (s.setVm T1856.vm).vm.findClass "com/example/vestry/vestry/NumeralEqualsPinLaw" = some m.cls := by rw [show (s.setVm T1856.vm).vm = T1856.vm from rfl, sn1856.1.alike.findClass]; exact hown14
      rcases hQ1856 with ⟨i1858, i1859, b1860, b1861, k1862, u1863, u1864, u1865, rfl, u1867, u1868, u1869, u1870, Ku1871, u1872, u1873, u1874, u1875⟩ | ⟨i1876, i1877, i1878, i1879, b1880, b1881, k1882, u1883, u1884, u1885, u1886, u1887, rfl, u1889, u1890, u1891, u1892, u1893, u1894, Ku1895, u1896, u1897, u1898, u1899, u1900⟩ | ⟨i1901, i1902, i1903, i1904, i1905, i1906, i1907, b1908, b1909, k1910, u1911, u1912, u1913, u1914, u1915, u1916, u1917, u1918, rfl, u1920, u1921, u1922, u1923, u1924, u1925, Ku1926, u1927, u1928, u1929, u1930, u1931⟩
      · skip
        have Ou1871 : Old Z n0 T1856.heap := Ou84.keep Ku1871 all0
        have chu1871 := cg1856
        have CRu1871 := CRu84.trans chu1871
        have g_b1860 : n0 ≤ b1860 := Nat.le_trans (own_z Ou84) u1868
        have sz_b1860 : h0.size ≤ b1860 := Nat.le_trans Ku84.1 u1868
        have N1856 := Fr.app N14 u1867
        obtain ⟨T1932, h1932, X1932, e1932, E1932, A1932, D1932, -, st1932⟩ := newO X1856 hx hZ1856 hown1856 (hw _ (gw 29 rfl)) (hw _ (gw 30 rfl)) (hw _ (gw 31 rfl)) rfl (g := (mkF m 24 #[.val (.int p1), .val (.int p2), .val (.int p3), .val (.int i8), .val (.ref b66), .val (.ref b1860), .unset, .unset, .unset, .unset] [])) rfl (hb hby at_24) (by decide) (by decide)
        obtain ⟨b1932, g1932⟩ : ∃ z, z = T1856.heap.size := ⟨_, rfl⟩
        rw [← g1932] at A1932 D1932 st1932
        have O1932 : Old Z n0 h1932 := Ou1871.ext E1932
        have ch1932 := CHr.ext E1932 CRu1871.1
        have CR1932 := CRu1871.trans ch1932
        have bd_b1932 : T1856.heap.size ≤ b1932 := Nat.le_of_eq g1932.symm
        have g_b1932 : n0 ≤ b1932 := Nat.le_trans (own_z Ou1871) bd_b1932
        have sz_b1932 : h0.size ≤ b1932 := Nat.le_trans (Nat.le_trans Ku84.1 Ku1871.1) bd_b1932
        have lt_b1932 : b1932 < h1932.size := A1932.lt
        have sfb_b1932 : Safe Z own_EL T1856.vm h1932 b1932 := Safe.ext E1932 CRu1871.1 (Safe.new bd_b1932)
        have D1932_37 : Fld Z h1932 b1932 C_1 "written" C_2 .null := D1932 (Or.inr (hw _ (gw 37 rfl))) (ty := (.object "java/lang/String")) (by decide)
        obtain ⟨_, _, ⟨T1933, L1933, k1933, n1933⟩, -, X1933, ⟨Lc1933, hQ1933, l1933, y1933, z1933⟩, st1933⟩ := X1932.specialBack hx (y := M_11) rfl hown1856 (mvT hZ1856 (hw _ (gw 32 rfl))) (mvT hZ1856 (hw _ (gw 33 rfl))) (mvT hZ1856 (hw _ (gw 34 rfl))) (by decide) (backOf (W := 1) (rm6_15 l Z a0 hw [] b1932 b66 h1932 n0  O1932 A1932 D1932_37 g_b1932) hZ1856 (hw _ (gw 34 rfl)) (hw _ (gw 31 rfl)) (by decide) (by decide)) (g := (mkF m 30 #[.val (.int p1), .val (.int p2), .val (.int p3), .val (.int i8), .val (.ref b66), .val (.ref b1860), .unset, .unset, .unset, .unset] [(.ref b66), (.ref b1932), (.ref b1932)])) rfl (by rw [hml]; rfl) (Steps.refl _) (a := b1932) (argsL := [(.ref b66)]) (rest := [(.ref b1932)]) (lenOf pd_11 rfl) rfl (by show 2 * 0 + _ ≤ _; exact Nat.le_of_eq rfl) (hb hby at_30) (fun _ _ => ⟨rfl, e1932, (by decide : 13 + 0 ≤ _), (by decide : 25 + 0 ≤ _)⟩)
        dsimp only [Pt.U, Pt.locs, Pt.cells, Pt.slots] at X1933 l1933 y1933 z1933 st1933 hQ1933
        subst l1933 y1933 z1933
        obtain ⟨rfl, u1935, Ku1936, u1937, u1938⟩ := hQ1933
        have Ou1936 : Old Z n0 T1933.heap := O1932.keep Ku1936 (allS g_b1932 all0)
        have chu1936 := CHr.keep Ku1936 (allS (Safe.exa hZ1856.alike A1932 (by decide) (by decide)) all0) CR1932.1
        have CRu1936 := CR1932.trans chu1936
        have N1933 := Fr.app N1856 u1935
        obtain ⟨i1939, hi1939⟩ : ∃ z, z = (p3 &&& (3 : Int32)) := ⟨_, rfl⟩
        have pre1940 : ∀ t, Steps p.tables e below (T1933.setTop (mkF m 42 #[.val (.int p1), .val (.int p2), .val (.int p3), .val (.int i8), .val (.ref b66), .val (.ref b1860), .val (.ref b1932), .val (.int i1939), .unset, .unset] [(.int i1939)])) t → Steps p.tables e below (s₁.setTop (entryFrame m #[(.int p1), (.int p2), (.int p3)] maxLocals)) t := by
          intro t kt
          refine pre1857 t ?_
          refine st1856.trans ?_
          show Steps p.tables e below (T1856.setTop (mkF m 22 #[.val (.int p1), .val (.int p2), .val (.int p3), .val (.int i8), .val (.ref b66), .unset, .unset, .unset, .unset, .unset] [(.ref b1860)])) _
          refine XS.astore X1856.here hx rfl (hb hby at_22) rfl rfl (l' := #[.val (.int p1), .val (.int p2), .val (.int p3), .val (.int i8), .val (.ref b66), .val (.ref b1860), .unset, .unset, .unset, .unset]) rfl ?_
          refine st1932 _ ?_
          refine XS.dup X1932.here hx rfl (hb hby at_27) rfl rfl ?_
          refine XS.aload X1932.here hx rfl (hb hby at_28) rfl rfl ?_
          refine st1933.trans ?_
          refine XS.astore X1933.here hx rfl (hb hby at_33) rfl rfl (l' := #[.val (.int p1), .val (.int p2), .val (.int p3), .val (.int i8), .val (.ref b66), .val (.ref b1860), .val (.ref b1932), .unset, .unset, .unset]) rfl ?_
          refine XS.iloadN X1933.here hx rfl (hb hby at_35) rfl ?_
          refine XS.iconst X1933.here hx rfl (hb hby at_36) ?_
          refine XS.iand X1933.here hx rfl (hb hby at_37) rfl ?_
          show Steps p.tables e below (T1933.setTop (mkF m 38 #[.val (.int p1), .val (.int p2), .val (.int p3), .val (.int i8), .val (.ref b66), .val (.ref b1860), .val (.ref b1932), .unset, .unset, .unset] [(.int (p3 &&& (3 : Int32)))])) _
          rw [← hi1939]
          refine XS.istore X1933.here hx rfl (hb hby at_38) rfl (l' := #[.val (.int p1), .val (.int p2), .val (.int p3), .val (.int i8), .val (.ref b66), .val (.ref b1860), .val (.ref b1932), .val (.int i1939), .unset, .unset]) rfl ?_
          refine XS.iload X1933.here hx rfl (hb hby at_40) rfl ?_
          exact kt
        by_cases hc1941 : i1939 = (0 : Int32)
        · skip
          subst hc1941
          obtain ⟨T1942, h1942, X1942, e1942, E1942, A1942, D1942, -, st1942⟩ := newO X1933 hx hZ1856 hown1856 (hw _ (gw 29 rfl)) (hw _ (gw 30 rfl)) (hw _ (gw 31 rfl)) rfl (g := (mkF m 45 #[.val (.int p1), .val (.int p2), .val (.int p3), .val (.int i8), .val (.ref b66), .val (.ref b1860), .val (.ref b1932), .val (.int (0 : Int32)), .unset, .unset] [])) rfl (hb hby at_45) (by decide) (by decide)
          obtain ⟨b1942, g1942⟩ : ∃ z, z = T1933.heap.size := ⟨_, rfl⟩
          rw [← g1942] at A1942 D1942 st1942
          have O1942 : Old Z n0 h1942 := Ou1936.ext E1942
          have ch1942 := CHr.ext E1942 CRu1936.1
          have CR1942 := CRu1936.trans ch1942
          have bd_b1942 : T1933.heap.size ≤ b1942 := Nat.le_of_eq g1942.symm
          have g_b1942 : n0 ≤ b1942 := Nat.le_trans (own_z Ou1936) bd_b1942
          have sz_b1942 : h0.size ≤ b1942 := Nat.le_trans (Nat.le_trans (Nat.le_trans (Nat.le_trans Ku84.1 Ku1871.1) E1932.1) Ku1936.1) bd_b1942
          have lt_b1942 : b1942 < h1942.size := A1942.lt
          have sfb_b1942 : Safe Z own_EL T1856.vm h1942 b1942 := Safe.ext E1942 CRu1936.1 (Safe.new bd_b1942)
          have D1942_37 : Fld Z h1942 b1942 C_1 "written" C_2 .null := D1942 (Or.inr (hw _ (gw 37 rfl))) (ty := (.object "java/lang/String")) (by decide)
          obtain ⟨_, _, ⟨T1943, L1943, k1943, n1943⟩, -, X1943, ⟨Lc1943, hQ1943, l1943, y1943, z1943⟩, st1943⟩ := X1942.specialBack hx (y := M_11) rfl hown1856 (mvT hZ1856 (hw _ (gw 32 rfl))) (mvT hZ1856 (hw _ (gw 33 rfl))) (mvT hZ1856 (hw _ (gw 34 rfl))) (by decide) (backOf (W := 1) (rm6_15 l Z a0 hw [] b1942 b1860 h1942 n0  O1942 A1942 D1942_37 g_b1942) hZ1856 (hw _ (gw 34 rfl)) (hw _ (gw 31 rfl)) (by decide) (by decide)) (g := (mkF m 51 #[.val (.int p1), .val (.int p2), .val (.int p3), .val (.int i8), .val (.ref b66), .val (.ref b1860), .val (.ref b1932), .val (.int (0 : Int32)), .unset, .unset] [(.ref b1860), (.ref b1942), (.ref b1942)])) rfl (by rw [hml]; rfl) (Steps.refl _) (a := b1942) (argsL := [(.ref b1860)]) (rest := [(.ref b1942)]) (lenOf pd_11 rfl) rfl (by show 2 * 0 + _ ≤ _; exact Nat.le_of_eq rfl) (hb hby at_51) (fun _ _ => ⟨rfl, e1942, (by decide : 14 + 0 ≤ _), (by decide : 26 + 0 ≤ _)⟩)
          dsimp only [Pt.U, Pt.locs, Pt.cells, Pt.slots] at X1943 l1943 y1943 z1943 st1943 hQ1943
          subst l1943 y1943 z1943
          obtain ⟨rfl, u1945, Ku1946, u1947, u1948⟩ := hQ1943
          have Ou1946 : Old Z n0 T1943.heap := O1942.keep Ku1946 (allS g_b1942 all0)
          have chu1946 := CHr.keep Ku1946 (allS (Safe.exa hZ1856.alike A1942 (by decide) (by decide)) all0) CR1942.1
          have CRu1946 := CR1942.trans chu1946
          have N1943 := Fr.app N1933 u1945
          have pre1950 : ∀ t, Steps p.tables e below (T1943.setTop (mkF m 58 #[.val (.int p1), .val (.int p2), .val (.int p3), .val (.int i8), .val (.ref b66), .val (.ref b1860), .val (.ref b1932), .val (.int (0 : Int32)), .val (.ref b1942), .unset] [(.int i8), (.int p1)])) t → Steps p.tables e below (s₁.setTop (entryFrame m #[(.int p1), (.int p2), (.int p3)] maxLocals)) t := by
            intro t kt
            refine pre1940 t ?_
            show Steps p.tables e below (T1933.setTop (mkF m 42 #[.val (.int p1), .val (.int p2), .val (.int p3), .val (.int i8), .val (.ref b66), .val (.ref b1860), .val (.ref b1932), .val (.int (0 : Int32)), .unset, .unset] [(.int (0 : Int32))])) _
            refine XS.ifNo X1933.here hx rfl (hb hby at_42) rfl ((if0 _ _).trans (teq (by decide +kernel : (0 : Int32) = (0 : Int32))).2) ?_
            refine st1942 _ ?_
            refine XS.dup X1942.here hx rfl (hb hby at_48) rfl rfl ?_
            refine XS.aload X1942.here hx rfl (hb hby at_49) rfl rfl ?_
            refine st1943.trans ?_
            refine XS.astore X1943.here hx rfl (hb hby at_54) rfl rfl (l' := #[.val (.int p1), .val (.int p2), .val (.int p3), .val (.int i8), .val (.ref b66), .val (.ref b1860), .val (.ref b1932), .val (.int (0 : Int32)), .val (.ref b1942), .unset]) rfl ?_
            refine XS.iloadN X1943.here hx rfl (hb hby at_56) rfl ?_
            refine XS.iloadN X1943.here hx rfl (hb hby at_57) rfl ?_
            show Steps p.tables e below (T1943.setTop (mkF m 58 #[.val (.int p1), .val (.int p2), .val (.int p3), .val (.int i8), .val (.ref b66), .val (.ref b1860), .val (.ref b1932), .val (.int (0 : Int32)), .val (.ref b1942), .unset] [(.int i8), (.int p1)])) _
            exact kt
          obtain ⟨_, _, ⟨T1949, L1949, k1949, n1949⟩, -, X1949, ⟨Lc1949, hQ1949, l1949, y1949, z1949⟩, st1949⟩ := Jvm.LawKit.callS X1943 hx (y := M_12) hown1856 (mvT hZ1856 (hw _ (gw 77 rfl))) (mvT hZ1856 (hw _ (gw 78 rfl))) (mvT hZ1856 (hw _ (gw 2 rfl))) (mvT hZ1856 (hw _ (gw 79 rfl))) (by decide) (backOf (W := 0) (rm16_16 l Z a0 hw [] p1 i8 T1943.heap n0  Ou1946) hZ1856 (hw _ (gw 79 rfl)) (hw _ (gw 2 rfl)) (by decide) (by decide)) (g := (mkF m 58 #[.val (.int p1), .val (.int p2), .val (.int p3), .val (.int i8), .val (.ref b66), .val (.ref b1860), .val (.ref b1932), .val (.int (0 : Int32)), .val (.ref b1942), .unset] [(.int i8), (.int p1)])) rfl (by rw [hml]; rfl) (argsL := [(.int p1), (.int i8)]) (rest := []) (lenOf pd_12 rfl) rfl (by show 2 * 0 + _ ≤ _; exact Nat.le_of_eq rfl) (hb hby at_58) (fun _ _ => ⟨rfl, rfl, (by decide : 14 + 0 ≤ _), (by decide : 26 + 0 ≤ _)⟩)
          dsimp only [Pt.U, Pt.locs, Pt.cells, Pt.slots] at X1949 l1949 y1949 z1949 st1949 hQ1949
          subst l1949 y1949 z1949
          rcases hQ1949 with ⟨i1951, i1952, i1953, i1954, u1955, u1956, u1957, u1958, u1959, u1960, rfl, u1962, u1963⟩ | ⟨i1964, i1965, i1966, i1967, u1968, u1969, u1970, u1971, u1972, u1973, rfl, u1975, u1976⟩ | ⟨i1977, i1978, i1979, i1980, u1981, u1982, u1983, u1984, u1985, u1986, rfl, u1988, u1989⟩ | ⟨i1990, i1991, i1992, i1993, u1994, u1995, u1996, u1997, u1998, u1999, rfl, u2001, u2002⟩ | ⟨i2003, i2004, i2005, i2006, i2007, i2008, u2009, u2010, u2011, u2012, u2013, u2014, u2015, u2016, u2017, rfl, u2019, u2020⟩ | ⟨i2021, i2022, i2023, i2024, i2025, i2026, u2027, u2028, u2029, u2030, u2031, u2032, u2033, u2034, u2035, rfl, u2037, u2038⟩ | ⟨i2039, i2040, i2041, i2042, u2043, u2044, u2045, u2046, u2047, u2048, rfl, u2050, u2051⟩ | ⟨i2052, i2053, i2054, i2055, u2056, u2057, u2058, u2059, u2060, u2061, rfl, u2063, u2064⟩ | ⟨i2065, i2066, i2067, i2068, u2069, u2070, u2071, u2072, u2073, u2074, rfl, u2076, u2077⟩ | ⟨i2078, i2079, i2080, i2081, i2082, i2083, i2084, i2085, i2086, i2087, u2088, u2089, u2090, u2091, u2092, u2093, u2094, u2095, u2096, u2097, u2098, u2099, u2100, u2101, rfl, u2103, u2104⟩ | ⟨i2105, i2106, i2107, i2108, i2109, i2110, i2111, i2112, i2113, i2114, u2115, u2116, u2117, u2118, u2119, u2120, u2121, u2122, u2123, u2124, u2125, u2126, u2127, u2128, rfl, u2130, u2131⟩ | ⟨i2132, i2133, i2134, i2135, i2136, i2137, u2138, u2139, u2140, u2141, u2142, u2143, u2144, u2145, u2146, rfl, u2148, u2149⟩
          · skip
            have N1949 := Fr.app N1943 u1962
            have pre2150 : ∀ t, Steps p.tables e below (T1949.setTop (mkF m 61 #[.val (.int p1), .val (.int p2), .val (.int p3), .val (.int i8), .val (.ref b66), .val (.ref b1860), .val (.ref b1932), .val (.int (0 : Int32)), .val (.ref b1942), .unset] [(.int (1 : Int32))])) t → Steps p.tables e below (s₁.setTop (entryFrame m #[(.int p1), (.int p2), (.int p3)] maxLocals)) t := by
              intro t kt
              refine pre1950 t ?_
              refine st1949 _ ?_
              exact kt
            obtain rfl : i60 = i1953 := (u1959.trans u75.symm).symm
            obtain rfl : i61 = i1954 := (u1957.trans u70.symm).symm
            exact absurd (u1955.trans u69.symm) (by decide +kernel)
          · skip
            have N1949 := Fr.app N1943 u1975
            have pre2151 : ∀ t, Steps p.tables e below (T1949.setTop (mkF m 61 #[.val (.int p1), .val (.int p2), .val (.int p3), .val (.int i8), .val (.ref b66), .val (.ref b1860), .val (.ref b1932), .val (.int (0 : Int32)), .val (.ref b1942), .unset] [(.int (0 : Int32))])) t → Steps p.tables e below (s₁.setTop (entryFrame m #[(.int p1), (.int p2), (.int p3)] maxLocals)) t := by
              intro t kt
              refine pre1950 t ?_
              refine st1949 _ ?_
              exact kt
            obtain rfl : i60 = i1966 := (u1972.trans u75.symm).symm
            obtain rfl : i61 = i1967 := (u1970.trans u70.symm).symm
            exact absurd (u1968.trans u69.symm) (by decide +kernel)
          · skip
            have N1949 := Fr.app N1943 u1988
            have pre2152 : ∀ t, Steps p.tables e below (T1949.setTop (mkF m 61 #[.val (.int p1), .val (.int p2), .val (.int p3), .val (.int i8), .val (.ref b66), .val (.ref b1860), .val (.ref b1932), .val (.int (0 : Int32)), .val (.ref b1942), .unset] [(.int (0 : Int32))])) t → Steps p.tables e below (s₁.setTop (entryFrame m #[(.int p1), (.int p2), (.int p3)] maxLocals)) t := by
              intro t kt
              refine pre1950 t ?_
              refine st1949 _ ?_
              exact kt
            obtain rfl : i60 = i1979 := (u1985.trans u75.symm).symm
            obtain rfl : i61 = i1980 := (u1983.trans u70.symm).symm
            exact absurd (u1981.trans u69.symm) (by decide +kernel)
          · skip
            have N1949 := Fr.app N1943 u2001
            have pre2153 : ∀ t, Steps p.tables e below (T1949.setTop (mkF m 61 #[.val (.int p1), .val (.int p2), .val (.int p3), .val (.int i8), .val (.ref b66), .val (.ref b1860), .val (.ref b1932), .val (.int (0 : Int32)), .val (.ref b1942), .unset] [(.int (0 : Int32))])) t → Steps p.tables e below (s₁.setTop (entryFrame m #[(.int p1), (.int p2), (.int p3)] maxLocals)) t := by
              intro t kt
              refine pre1950 t ?_
              refine st1949 _ ?_
              exact kt
            obtain rfl : i60 = i1990 := (u1998.trans u75.symm).symm
            obtain rfl : i61 = i1991 := (u1996.trans u70.symm).symm
            exact absurd (u1994.trans u69.symm) (by decide +kernel)
          · skip
            have N1949 := Fr.app N1943 u2019
            have pre2154 : ∀ t, Steps p.tables e below (T1949.setTop (mkF m 61 #[.val (.int p1), .val (.int p2), .val (.int p3), .val (.int i8), .val (.ref b66), .val (.ref b1860), .val (.ref b1932), .val (.int (0 : Int32)), .val (.ref b1942), .unset] [(.int (1 : Int32))])) t → Steps p.tables e below (s₁.setTop (entryFrame m #[(.int p1), (.int p2), (.int p3)] maxLocals)) t := by
              intro t kt
              refine pre1950 t ?_
              refine st1949 _ ?_
              exact kt
            obtain rfl : i59 = i2007 := (u2013.trans u73.symm).symm
            obtain rfl : i60 = i2003 := (u2015.trans u75.symm).symm
            obtain rfl : i61 = i2004 := (u2011.trans u70.symm).symm
            exact absurd (u2009.trans u69.symm) (by decide +kernel)
          · skip
            have N1949 := Fr.app N1943 u2037
            have pre2155 : ∀ t, Steps p.tables e below (T1949.setTop (mkF m 61 #[.val (.int p1), .val (.int p2), .val (.int p3), .val (.int i8), .val (.ref b66), .val (.ref b1860), .val (.ref b1932), .val (.int (0 : Int32)), .val (.ref b1942), .unset] [(.int (0 : Int32))])) t → Steps p.tables e below (s₁.setTop (entryFrame m #[(.int p1), (.int p2), (.int p3)] maxLocals)) t := by
              intro t kt
              refine pre1950 t ?_
              refine st1949 _ ?_
              exact kt
            obtain rfl : i59 = i2025 := (u2031.trans u73.symm).symm
            obtain rfl : i60 = i2021 := (u2033.trans u75.symm).symm
            obtain rfl : i61 = i2022 := (u2029.trans u70.symm).symm
            exact absurd (u2027.trans u69.symm) (by decide +kernel)
          · skip
            have N1949 := Fr.app N1943 u2050
            have pre2156 : ∀ t, Steps p.tables e below (T1949.setTop (mkF m 61 #[.val (.int p1), .val (.int p2), .val (.int p3), .val (.int i8), .val (.ref b66), .val (.ref b1860), .val (.ref b1932), .val (.int (0 : Int32)), .val (.ref b1942), .unset] [(.int (0 : Int32))])) t → Steps p.tables e below (s₁.setTop (entryFrame m #[(.int p1), (.int p2), (.int p3)] maxLocals)) t := by
              intro t kt
              refine pre1950 t ?_
              refine st1949 _ ?_
              exact kt
            obtain rfl : i60 = i2039 := (u2047.trans u75.symm).symm
            obtain rfl : i61 = i2040 := (u2045.trans u70.symm).symm
            exact absurd (u2043.trans u69.symm) (by decide +kernel)
          · skip
            have N1949 := Fr.app N1943 u2063
            have pre2157 : ∀ t, Steps p.tables e below (T1949.setTop (mkF m 61 #[.val (.int p1), .val (.int p2), .val (.int p3), .val (.int i8), .val (.ref b66), .val (.ref b1860), .val (.ref b1932), .val (.int (0 : Int32)), .val (.ref b1942), .unset] [(.int (0 : Int32))])) t → Steps p.tables e below (s₁.setTop (entryFrame m #[(.int p1), (.int p2), (.int p3)] maxLocals)) t := by
              intro t kt
              refine pre1950 t ?_
              refine st1949 _ ?_
              exact kt
            obtain rfl : i60 = i2052 := (u2060.trans u75.symm).symm
            obtain rfl : i61 = i2053 := (u2058.trans u70.symm).symm
            obtain rfl : i1858 = i2054 := (u2061.trans u1865.symm).symm
            obtain rfl : i1859 = i2055 := (u2059.trans u1864.symm).symm
            have f2158 : Fld Z T1943.heap b1932 C_1 "written" C_2 (.ref b66) := ((Fld.ext E1942 u1938).keep Ku1946 (ninS (Nat.ne_of_lt (Nat.lt_of_lt_of_le (Nat.lt_of_lt_of_le lt_b1932 Ku1936.1) bd_b1942)) nin0))
            have f2159 : Exa Z T1943.heap b1860 C_0 := ((Exa.ext E1942 ((Exa.ext E1932 u1872).keep Ku1936)).keep Ku1946)
            have f2160 : Exa Z T1943.heap b66 C_0 := ((Exa.ext E1942 ((Exa.ext E1932 (u85.keep Ku1871)).keep Ku1936)).keep Ku1946)
            have f2161 : Fld Z T1943.heap b1860 C_0 "coder" "B" (.int (0 : Int32)) := ((Fld.ext E1942 ((Fld.ext E1932 u1873).keep Ku1936 (ninS (Nat.ne_of_lt (Nat.lt_of_lt_of_le u1869 bd_b1932)) nin0))).keep Ku1946 (ninS (Nat.ne_of_lt (Nat.lt_of_lt_of_le (Nat.lt_of_lt_of_le (Nat.lt_of_lt_of_le u1869 E1932.1) Ku1936.1) bd_b1942)) nin0))
            have f2162 : Fld Z T1943.heap b66 C_0 "coder" "B" (.int (0 : Int32)) := ((Fld.ext E1942 ((Fld.ext E1932 (u86.keep Ku1871 nin0)).keep Ku1936 (ninS (Nat.ne_of_lt (Nat.lt_of_lt_of_le (Nat.lt_of_lt_of_le u80 Ku1871.1) bd_b1932)) nin0))).keep Ku1946 (ninS (Nat.ne_of_lt (Nat.lt_of_lt_of_le (Nat.lt_of_lt_of_le (Nat.lt_of_lt_of_le (Nat.lt_of_lt_of_le u80 Ku1871.1) E1932.1) Ku1936.1) bd_b1942)) nin0))
            have f2163 : Fld Z T1943.heap b1860 C_0 "value" "[B" (.ref b1861) := ((Fld.ext E1942 ((Fld.ext E1932 u1874).keep Ku1936 (ninS (Nat.ne_of_lt (Nat.lt_of_lt_of_le u1869 bd_b1932)) nin0))).keep Ku1946 (ninS (Nat.ne_of_lt (Nat.lt_of_lt_of_le (Nat.lt_of_lt_of_le (Nat.lt_of_lt_of_le u1869 E1932.1) Ku1936.1) bd_b1942)) nin0))
            have f2164 : Fld Z T1943.heap b66 C_0 "value" "[B" (.ref b67) := ((Fld.ext E1942 ((Fld.ext E1932 (u87.keep Ku1871 nin0)).keep Ku1936 (ninS (Nat.ne_of_lt (Nat.lt_of_lt_of_le (Nat.lt_of_lt_of_le u80 Ku1871.1) bd_b1932)) nin0))).keep Ku1946 (ninS (Nat.ne_of_lt (Nat.lt_of_lt_of_le (Nat.lt_of_lt_of_le (Nat.lt_of_lt_of_le (Nat.lt_of_lt_of_le u80 Ku1871.1) E1932.1) Ku1936.1) bd_b1942)) nin0))
            have f2165 : Arv Z T1943.heap b1861 k1862 .byte (0 : Int32) [] (.int 0) := ((((u1875.ext E1932).keep Ku1936 (ninS (Nat.ne_of_lt (Nat.lt_of_lt_of_le u1870 bd_b1932)) nin0)).ext E1942).keep Ku1946 (ninS (Nat.ne_of_lt (Nat.lt_of_lt_of_le (Nat.lt_of_lt_of_le (Nat.lt_of_lt_of_le u1870 E1932.1) Ku1936.1) bd_b1942)) nin0))
            have f2166 : Arv Z T1943.heap b67 k68 .byte (2 : Int32) [(.int i65), (.int i64)] (.int (0 : Int32)) := (((((u89.keep Ku1871 nin0).ext E1932).keep Ku1936 (ninS (Nat.ne_of_lt (Nat.lt_of_lt_of_le (Nat.lt_of_lt_of_le u82 Ku1871.1) bd_b1932)) nin0)).ext E1942).keep Ku1946 (ninS (Nat.ne_of_lt (Nat.lt_of_lt_of_le (Nat.lt_of_lt_of_le (Nat.lt_of_lt_of_le (Nat.lt_of_lt_of_le u82 Ku1871.1) E1932.1) Ku1936.1) bd_b1942)) nin0))
            have f2168 : Exa Z T1943.heap b1932 C_1 := ((Exa.ext E1942 u1937).keep Ku1946)
            obtain ⟨cq2167, kq2167, q2167a, q2167b, q2167c⟩ := isOf hZ1856 u2064 f2168
            obtain ⟨_, _, ⟨T2167, L2167, k2167, n2167⟩, -, X2167, ⟨Lc2167, hQ2167, l2167, y2167, z2167⟩, st2167⟩ := X1949.virtualBack hx (y := M_15) (z := M_15) hown1856 (mvT hZ1856 (hw _ (gw 38 rfl))) (mvT hZ1856 (hw _ (gw 39 rfl))) (notFace_of_selects (args := #[]) (mvT hZ1856 (hw _ (gw 41 rfl)))) (mvT hZ1856 (hw _ (gw 41 rfl))) (mvT hZ1856 (hw _ (gw 40 rfl))) (by decide) (backOf (W := 0) (rm7_33 l Z a0 hw [] b1932 b1942 b1860 b66 p11 b1861 b67 k1862 i65 i64 k68 T1943.heap n0  Ou1946 u1947 u1948 f2158 f2159 (Ne.symm (Nat.ne_of_lt (Nat.lt_of_lt_of_le u80 u1868))) f2160 S_12 hk13 f2161 f2162 f2163 f2164 f2165 f2166) hZ1856 (hw _ (gw 42 rfl)) (hw _ (gw 31 rfl)) (by decide) (by decide)) q2167a q2167c (g := (mkF m 67 #[.val (.int p1), .val (.int p2), .val (.int p3), .val (.int i8), .val (.ref b66), .val (.ref b1860), .val (.ref b1932), .val (.int (0 : Int32)), .val (.ref b1942), .val (.int (0 : Int32))] [(.ref b1942), (.ref b1932)])) rfl (by rw [hml]; rfl) (Steps.refl _) (argsL := [(.ref b1942)]) (rest := []) (lenOf pd_14 rfl) rfl (by show 2 * 0 + _ ≤ _; exact Nat.le_of_eq rfl) (hb hby at_67) (fun _ _ => ⟨rfl, u2064, (by decide : 14 + 0 ≤ _), (by decide : 26 + 0 ≤ _)⟩)
            dsimp only [Pt.U, Pt.locs, Pt.cells, Pt.slots] at X2167 l2167 y2167 z2167 st2167 hQ2167
            subst l2167 y2167 z2167
            obtain ⟨rfl, u2170, u2171⟩ := hQ2167
            have N2167 := Fr.app N1949 u2170
            obtain ⟨cq2172, kq2172, q2172a, q2172b, q2172c⟩ := isOf hZ1856 u2171 u1947
            obtain ⟨_, _, ⟨T2172, L2172, k2172, n2172⟩, -, X2172, ⟨Lc2172, hQ2172, l2172, y2172, z2172⟩, st2172⟩ := X2167.virtualBack hx (y := M_15) (z := M_15) hown1856 (mvT hZ1856 (hw _ (gw 38 rfl))) (mvT hZ1856 (hw _ (gw 39 rfl))) (notFace_of_selects (args := #[]) (mvT hZ1856 (hw _ (gw 41 rfl)))) (mvT hZ1856 (hw _ (gw 41 rfl))) (mvT hZ1856 (hw _ (gw 40 rfl))) (by decide) (backOf (W := 0) (rm7_30 l Z a0 hw [] b1942 b1932 b66 b1860 p11 b67 b1861 i65 i64 k68 k1862 T1943.heap n0  Ou1946 f2168 f2158 u1948 f2160 (Nat.ne_of_lt (Nat.lt_of_lt_of_le u80 u1868)) f2159 S_12 hk13 f2162 f2161 f2164 f2163 f2166 f2165) hZ1856 (hw _ (gw 42 rfl)) (hw _ (gw 31 rfl)) (by decide) (by decide)) q2172a q2172c (g := (mkF m 79 #[.val (.int p1), .val (.int p2), .val (.int p3), .val (.int i8), .val (.ref b66), .val (.ref b1860), .val (.ref b1932), .val (.int (0 : Int32)), .val (.ref b1942), .val (.int (0 : Int32))] [(.ref b1932), (.ref b1942)])) rfl (by rw [hml]; rfl) (Steps.refl _) (argsL := [(.ref b1932)]) (rest := []) (lenOf pd_14 rfl) rfl (by show 2 * 0 + _ ≤ _; exact Nat.le_of_eq rfl) (hb hby at_79) (fun _ _ => ⟨rfl, u2171, (by decide : 14 + 0 ≤ _), (by decide : 26 + 0 ≤ _)⟩)
            dsimp only [Pt.U, Pt.locs, Pt.cells, Pt.slots] at X2172 l2172 y2172 z2172 st2172 hQ2172
            subst l2172 y2172 z2172
            obtain ⟨rfl, u2174, u2175⟩ := hQ2172
            have N2172 := Fr.app N2167 u2174
            obtain ⟨fs, hr, hrun, hended, hEnd⟩ := X2172.leaveW (s := s) (vm₁ := T1856.vm) hS1856 (by rw [u2175]; exact (Nat.le_trans (Nat.le_trans (Nat.le_trans (Nat.le_trans (Nat.le_refl _) E1932.1) Ku1936.1) E1942.1) Ku1946.1)) (v := some (.int (1 : Int32))) (fun h => by rw [Bd.returns] at h; cases h)
            refine hno ⟨_, _, pre2157 _ ?_, hrun, hended, _, _, rfl, ?_, hEnd.1, hEnd.2.1, hEnd.2.2.1, hEnd.2.2.2.mono (by decide) (by decide)⟩
            · show Steps p.tables e below (T1949.setTop (mkF m 61 #[.val (.int p1), .val (.int p2), .val (.int p3), .val (.int i8), .val (.ref b66), .val (.ref b1860), .val (.ref b1932), .val (.int (0 : Int32)), .val (.ref b1942), .unset] [(.int (0 : Int32))])) _
              refine XS.istore X1949.here hx rfl (hb hby at_61) rfl (l' := #[.val (.int p1), .val (.int p2), .val (.int p3), .val (.int i8), .val (.ref b66), .val (.ref b1860), .val (.ref b1932), .val (.int (0 : Int32)), .val (.ref b1942), .val (.int (0 : Int32))]) rfl ?_
              refine XS.aload X1949.here hx rfl (hb hby at_63) rfl rfl ?_
              refine XS.aload X1949.here hx rfl (hb hby at_65) rfl rfl ?_
              refine st2167.trans ?_
              refine XS.iload X2167.here hx rfl (hb hby at_70) rfl ?_
              refine XS.icmpNo X2167.here hx rfl (hb hby at_72) rfl (teq (by decide +kernel : (0 : Int32) = (0 : Int32))).2 ?_
              refine XS.aload X2167.here hx rfl (hb hby at_75) rfl rfl ?_
              refine XS.aload X2167.here hx rfl (hb hby at_77) rfl rfl ?_
              refine st2172.trans ?_
              show Steps p.tables e below (T2172.setTop (mkF m 82 #[.val (.int p1), .val (.int p2), .val (.int p3), .val (.int i8), .val (.ref b66), .val (.ref b1860), .val (.ref b1932), .val (.int (0 : Int32)), .val (.ref b1942), .val (.int (0 : Int32))] [(.int (0 : Int32))])) _
              refine XS.iload X2172.here hx rfl (hb hby at_82) rfl ?_
              refine XS.icmpNo X2172.here hx rfl (hb hby at_84) rfl (teq (by decide +kernel : (0 : Int32) = (0 : Int32))).2 ?_
              refine XS.iconst X2172.here hx rfl (hb hby at_87) ?_
              refine XS.goto X2172.here hx rfl (pc0 := 88) (pc' := 92) rfl (hb hby at_88) (by decide) (by decide) ?_
              show Steps p.tables e below (T2172.setTop (mkF m 92 #[.val (.int p1), .val (.int p2), .val (.int p3), .val (.int i8), .val (.ref b66), .val (.ref b1860), .val (.ref b1932), .val (.int (0 : Int32)), .val (.ref b1942), .val (.int (0 : Int32))] [(.int (1 : Int32))])) _
              exact retN X2172 hx (t := .boolean) Bd.returns (by simp) (hb hby at_92) hr
            · show Q0 Z _ _ _ _ h0 n0 _ T2172.heap _
              rw [u2175]
              exact ⟨rfl, N2172⟩
          · skip
            have N1949 := Fr.app N1943 u2076
            have pre2176 : ∀ t, Steps p.tables e below (T1949.setTop (mkF m 61 #[.val (.int p1), .val (.int p2), .val (.int p3), .val (.int i8), .val (.ref b66), .val (.ref b1860), .val (.ref b1932), .val (.int (0 : Int32)), .val (.ref b1942), .unset] [(.int (0 : Int32))])) t → Steps p.tables e below (s₁.setTop (entryFrame m #[(.int p1), (.int p2), (.int p3)] maxLocals)) t := by
              intro t kt
              refine pre1950 t ?_
              refine st1949 _ ?_
              exact kt
            obtain rfl : i60 = i2065 := (u2073.trans u75.symm).symm
            obtain rfl : i61 = i2066 := (u2071.trans u70.symm).symm
            obtain rfl : i1858 = i2067 := (u2074.trans u1865.symm).symm
            obtain rfl : i1859 = i2068 := (u2072.trans u1864.symm).symm
            exact absurd (u2070.trans u1863.symm) (by decide +kernel)
          · skip
            have N1949 := Fr.app N1943 u2103
            have pre2177 : ∀ t, Steps p.tables e below (T1949.setTop (mkF m 61 #[.val (.int p1), .val (.int p2), .val (.int p3), .val (.int i8), .val (.ref b66), .val (.ref b1860), .val (.ref b1932), .val (.int (0 : Int32)), .val (.ref b1942), .unset] [(.int (1 : Int32))])) t → Steps p.tables e below (s₁.setTop (entryFrame m #[(.int p1), (.int p2), (.int p3)] maxLocals)) t := by
              intro t kt
              refine pre1950 t ?_
              refine st1949 _ ?_
              exact kt
            obtain rfl : i59 = i2080 := (u2092.trans u73.symm).symm
            obtain rfl : i60 = i2086 := (u2096.trans u75.symm).symm
            obtain rfl : i61 = i2087 := (u2090.trans u70.symm).symm
            obtain rfl : i1858 = i2078 := (u2097.trans u1865.symm).symm
            obtain rfl : i1859 = i2079 := (u2091.trans u1864.symm).symm
            exact absurd (u2089.trans u1863.symm) (by decide +kernel)
          · skip
            have N1949 := Fr.app N1943 u2130
            have pre2178 : ∀ t, Steps p.tables e below (T1949.setTop (mkF m 61 #[.val (.int p1), .val (.int p2), .val (.int p3), .val (.int i8), .val (.ref b66), .val (.ref b1860), .val (.ref b1932), .val (.int (0 : Int32)), .val (.ref b1942), .unset] [(.int (0 : Int32))])) t → Steps p.tables e below (s₁.setTop (entryFrame m #[(.int p1), (.int p2), (.int p3)] maxLocals)) t := by
              intro t kt
              refine pre1950 t ?_
              refine st1949 _ ?_
              exact kt
            obtain rfl : i59 = i2107 := (u2119.trans u73.symm).symm
            obtain rfl : i60 = i2113 := (u2123.trans u75.symm).symm
            obtain rfl : i61 = i2114 := (u2117.trans u70.symm).symm
            obtain rfl : i1858 = i2105 := (u2124.trans u1865.symm).symm
            obtain rfl : i1859 = i2106 := (u2118.trans u1864.symm).symm
            exact absurd (u2116.trans u1863.symm) (by decide +kernel)
          · skip
            have N1949 := Fr.app N1943 u2148
            have pre2179 : ∀ t, Steps p.tables e below (T1949.setTop (mkF m 61 #[.val (.int p1), .val (.int p2), .val (.int p3), .val (.int i8), .val (.ref b66), .val (.ref b1860), .val (.ref b1932), .val (.int (0 : Int32)), .val (.ref b1942), .unset] [(.int (0 : Int32))])) t → Steps p.tables e below (s₁.setTop (entryFrame m #[(.int p1), (.int p2), (.int p3)] maxLocals)) t := by
              intro t kt
              refine pre1950 t ?_
              refine st1949 _ ?_
              exact kt
            obtain rfl : i59 = i2134 := (u2142.trans u73.symm).symm
            obtain rfl : i60 = i2136 := (u2144.trans u75.symm).symm
            obtain rfl : i61 = i2137 := (u2140.trans u70.symm).symm
            obtain rfl : i1858 = i2132 := (u2145.trans u1865.symm).symm
            obtain rfl : i1859 = i2133 := (u2141.trans u1864.symm).symm
            exact absurd (u2139.trans u1863.symm) (by decide +kernel)
        · skip
          have pre2180 : ∀ t, Steps p.tables e below (T1933.setTop (mkF m 96 #[.val (.int p1), .val (.int p2), .val (.int p3), .val (.int i8), .val (.ref b66), .val (.ref b1860), .val (.ref b1932), .val (.int i1939), .unset, .unset] [(.int (1 : Int32)), (.int i1939)])) t → Steps p.tables e below (s₁.setTop (entryFrame m #[(.int p1), (.int p2), (.int p3)] maxLocals)) t := by
            intro t kt
            refine pre1940 t ?_
            show Steps p.tables e below (T1933.setTop (mkF m 42 #[.val (.int p1), .val (.int p2), .val (.int p3), .val (.int i8), .val (.ref b66), .val (.ref b1860), .val (.ref b1932), .val (.int i1939), .unset, .unset] [(.int i1939)])) _
            refine XS.ifYes X1933.here hx rfl (pc0 := 42) (pc' := 93) rfl (hb hby at_42) rfl ((if0 _ _).trans (feq hc1941).2) (by decide) (by decide) ?_
            refine XS.iload X1933.here hx rfl (hb hby at_93) rfl ?_
            refine XS.iconst X1933.here hx rfl (hb hby at_95) ?_
            exact kt
          by_cases hc2181 : i1939 = (1 : Int32)
          · skip
            subst hc2181
            have f2182 : Exa Z T1933.heap b1860 C_0 := ((Exa.ext E1932 u1872).keep Ku1936)
            obtain ⟨cq2183, kq2183, q2183a, q2183b, q2183c⟩ := isOf hZ1856 rfl u1937
            obtain ⟨_, _, ⟨T2183, L2183, k2183, n2183⟩, -, X2183, ⟨Lc2183, hQ2183, l2183, y2183, z2183⟩, st2183⟩ := X1933.virtualBack hx (y := M_15) (z := M_15) hown1856 (mvT hZ1856 (hw _ (gw 38 rfl))) (mvT hZ1856 (hw _ (gw 39 rfl))) (notFace_of_selects (args := #[]) (mvT hZ1856 (hw _ (gw 41 rfl)))) (mvT hZ1856 (hw _ (gw 41 rfl))) (mvT hZ1856 (hw _ (gw 40 rfl))) (by decide) (backOf (W := 0) (rm7_20 l Z a0 hw [] b1932 b1860 T1933.heap n0  Ou1936 f2182) hZ1856 (hw _ (gw 42 rfl)) (hw _ (gw 31 rfl)) (by decide) (by decide)) q2183a q2183c (g := (mkF m 107 #[.val (.int p1), .val (.int p2), .val (.int p3), .val (.int i8), .val (.ref b66), .val (.ref b1860), .val (.ref b1932), .val (.int (1 : Int32)), .val (.ref b1860), .unset] [(.ref b1860), (.ref b1932)])) rfl (by rw [hml]; rfl) (Steps.refl _) (argsL := [(.ref b1860)]) (rest := []) (lenOf pd_14 rfl) rfl (by show 2 * 0 + _ ≤ _; exact Nat.le_of_eq rfl) (hb hby at_107) (fun _ _ => ⟨rfl, rfl, (by decide : 13 + 0 ≤ _), (by decide : 25 + 0 ≤ _)⟩)
            dsimp only [Pt.U, Pt.locs, Pt.cells, Pt.slots] at X2183 l2183 y2183 z2183 st2183 hQ2183
            subst l2183 y2183 z2183
            obtain ⟨rfl, u2185, u2186⟩ := hQ2183
            have N2183 := Fr.app N1933 u2185
            obtain ⟨fs, hr, hrun, hended, hEnd⟩ := X2183.leaveW (s := s) (vm₁ := T1856.vm) hS1856 (by rw [u2186]; exact (Nat.le_trans (Nat.le_trans (Nat.le_refl _) E1932.1) Ku1936.1)) (v := some (.int (1 : Int32))) (fun h => by rw [Bd.returns] at h; cases h)
            refine hno ⟨_, _, pre2180 _ ?_, hrun, hended, _, _, rfl, ?_, hEnd.1, hEnd.2.1, hEnd.2.2.1, hEnd.2.2.2.mono (by decide) (by decide)⟩
            · show Steps p.tables e below (T1933.setTop (mkF m 96 #[.val (.int p1), .val (.int p2), .val (.int p3), .val (.int i8), .val (.ref b66), .val (.ref b1860), .val (.ref b1932), .val (.int (1 : Int32)), .unset, .unset] [(.int (1 : Int32)), (.int (1 : Int32))])) _
              refine XS.icmpNo X1933.here hx rfl (hb hby at_96) rfl (teq (by decide +kernel : (1 : Int32) = (1 : Int32))).2 ?_
              refine XS.aload X1933.here hx rfl (hb hby at_99) rfl rfl ?_
              refine XS.astore X1933.here hx rfl (hb hby at_101) rfl rfl (l' := #[.val (.int p1), .val (.int p2), .val (.int p3), .val (.int i8), .val (.ref b66), .val (.ref b1860), .val (.ref b1932), .val (.int (1 : Int32)), .val (.ref b1860), .unset]) rfl ?_
              refine XS.aload X1933.here hx rfl (hb hby at_103) rfl rfl ?_
              refine XS.aload X1933.here hx rfl (hb hby at_105) rfl rfl ?_
              refine st2183.trans ?_
              refine XS.ifNo X2183.here hx rfl (hb hby at_110) rfl ((if0 _ _).trans (teq (by decide +kernel : (0 : Int32) = (0 : Int32))).2) ?_
              refine XS.iconst X2183.here hx rfl (hb hby at_113) ?_
              refine XS.goto X2183.here hx rfl (pc0 := 114) (pc' := 118) rfl (hb hby at_114) (by decide) (by decide) ?_
              show Steps p.tables e below (T2183.setTop (mkF m 118 #[.val (.int p1), .val (.int p2), .val (.int p3), .val (.int i8), .val (.ref b66), .val (.ref b1860), .val (.ref b1932), .val (.int (1 : Int32)), .val (.ref b1860), .unset] [(.int (1 : Int32))])) _
              exact retN X2183 hx (t := .boolean) Bd.returns (by simp) (hb hby at_118) hr
            · show Q0 Z _ _ _ _ h0 n0 _ T2183.heap _
              rw [u2186]
              exact ⟨rfl, N2183⟩
          · skip
            have pre2187 : ∀ t, Steps p.tables e below (T1933.setTop (mkF m 122 #[.val (.int p1), .val (.int p2), .val (.int p3), .val (.int i8), .val (.ref b66), .val (.ref b1860), .val (.ref b1932), .val (.int i1939), .unset, .unset] [(.int (2 : Int32)), (.int i1939)])) t → Steps p.tables e below (s₁.setTop (entryFrame m #[(.int p1), (.int p2), (.int p3)] maxLocals)) t := by
              intro t kt
              refine pre2180 t ?_
              show Steps p.tables e below (T1933.setTop (mkF m 96 #[.val (.int p1), .val (.int p2), .val (.int p3), .val (.int i8), .val (.ref b66), .val (.ref b1860), .val (.ref b1932), .val (.int i1939), .unset, .unset] [(.int (1 : Int32)), (.int i1939)])) _
              refine XS.icmpYes X1933.here hx rfl (pc0 := 96) (pc' := 119) rfl (hb hby at_96) rfl (feq hc2181).2 (by decide) (by decide) ?_
              refine XS.iload X1933.here hx rfl (hb hby at_119) rfl ?_
              refine XS.iconst X1933.here hx rfl (hb hby at_121) ?_
              exact kt
            by_cases hc2188 : i1939 = (2 : Int32)
            · skip
              subst hc2188
              obtain ⟨cq2189, kq2189, q2189a, q2189b, q2189c⟩ := isOf hZ1856 rfl u1937
              obtain ⟨_, _, ⟨T2189, L2189, k2189, n2189⟩, -, X2189, ⟨Lc2189, hQ2189, l2189, y2189, z2189⟩, st2189⟩ := X1933.virtualBack hx (y := M_15) (z := M_15) hown1856 (mvT hZ1856 (hw _ (gw 38 rfl))) (mvT hZ1856 (hw _ (gw 39 rfl))) (notFace_of_selects (args := #[]) (mvT hZ1856 (hw _ (gw 41 rfl)))) (mvT hZ1856 (hw _ (gw 41 rfl))) (mvT hZ1856 (hw _ (gw 40 rfl))) (by decide) (backOf (W := 0) (rm7_21 l Z a0 hw [] b1932 T1933.heap n0  Ou1936) hZ1856 (hw _ (gw 42 rfl)) (hw _ (gw 31 rfl)) (by decide) (by decide)) q2189a q2189c (g := (mkF m 128 #[.val (.int p1), .val (.int p2), .val (.int p3), .val (.int i8), .val (.ref b66), .val (.ref b1860), .val (.ref b1932), .val (.int (2 : Int32)), .unset, .unset] [.null, (.ref b1932)])) rfl (by rw [hml]; rfl) (Steps.refl _) (argsL := [.null]) (rest := []) (lenOf pd_14 rfl) rfl (by show 2 * 0 + _ ≤ _; exact Nat.le_of_eq rfl) (hb hby at_128) (fun _ _ => ⟨rfl, rfl, (by decide : 13 + 0 ≤ _), (by decide : 25 + 0 ≤ _)⟩)
              dsimp only [Pt.U, Pt.locs, Pt.cells, Pt.slots] at X2189 l2189 y2189 z2189 st2189 hQ2189
              subst l2189 y2189 z2189
              obtain ⟨rfl, u2191, u2192⟩ := hQ2189
              have N2189 := Fr.app N1933 u2191
              obtain ⟨fs, hr, hrun, hended, hEnd⟩ := X2189.leaveW (s := s) (vm₁ := T1856.vm) hS1856 (by rw [u2192]; exact (Nat.le_trans (Nat.le_trans (Nat.le_refl _) E1932.1) Ku1936.1)) (v := some (.int (1 : Int32))) (fun h => by rw [Bd.returns] at h; cases h)
              refine hno ⟨_, _, pre2187 _ ?_, hrun, hended, _, _, rfl, ?_, hEnd.1, hEnd.2.1, hEnd.2.2.1, hEnd.2.2.2.mono (by decide) (by decide)⟩
              · show Steps p.tables e below (T1933.setTop (mkF m 122 #[.val (.int p1), .val (.int p2), .val (.int p3), .val (.int i8), .val (.ref b66), .val (.ref b1860), .val (.ref b1932), .val (.int (2 : Int32)), .unset, .unset] [(.int (2 : Int32)), (.int (2 : Int32))])) _
                refine XS.icmpNo X1933.here hx rfl (hb hby at_122) rfl (teq (by decide +kernel : (2 : Int32) = (2 : Int32))).2 ?_
                refine XS.aload X1933.here hx rfl (hb hby at_125) rfl rfl ?_
                refine XS.aconstNull X1933.here hx rfl (hb hby at_127) ?_
                refine st2189.trans ?_
                refine XS.ifNo X2189.here hx rfl (hb hby at_131) rfl ((if0 _ _).trans (teq (by decide +kernel : (0 : Int32) = (0 : Int32))).2) ?_
                refine XS.iconst X2189.here hx rfl (hb hby at_134) ?_
                refine XS.goto X2189.here hx rfl (pc0 := 135) (pc' := 139) rfl (hb hby at_135) (by decide) (by decide) ?_
                show Steps p.tables e below (T2189.setTop (mkF m 139 #[.val (.int p1), .val (.int p2), .val (.int p3), .val (.int i8), .val (.ref b66), .val (.ref b1860), .val (.ref b1932), .val (.int (2 : Int32)), .unset, .unset] [(.int (1 : Int32))])) _
                exact retN X2189 hx (t := .boolean) Bd.returns (by simp) (hb hby at_139) hr
              · show Q0 Z _ _ _ _ h0 n0 _ T2189.heap _
                rw [u2192]
                exact ⟨rfl, N2189⟩
            · skip
              have f2193 : Exa Z T1933.heap b66 C_0 := ((Exa.ext E1932 (u85.keep Ku1871)).keep Ku1936)
              obtain ⟨cq2194, kq2194, q2194a, q2194b, q2194c⟩ := isOf hZ1856 rfl u1937
              obtain ⟨_, _, ⟨T2194, L2194, k2194, n2194⟩, -, X2194, ⟨Lc2194, hQ2194, l2194, y2194, z2194⟩, st2194⟩ := X1933.virtualBack hx (y := M_15) (z := M_15) hown1856 (mvT hZ1856 (hw _ (gw 38 rfl))) (mvT hZ1856 (hw _ (gw 39 rfl))) (notFace_of_selects (args := #[]) (mvT hZ1856 (hw _ (gw 41 rfl)))) (mvT hZ1856 (hw _ (gw 41 rfl))) (mvT hZ1856 (hw _ (gw 40 rfl))) (by decide) (backOf (W := 0) (rm7_22 l Z a0 hw [] b1932 b66 T1933.heap n0  Ou1936 u1937 u1938 f2193) hZ1856 (hw _ (gw 42 rfl)) (hw _ (gw 31 rfl)) (by decide) (by decide)) q2194a q2194c (g := (mkF m 148 #[.val (.int p1), .val (.int p2), .val (.int p3), .val (.int i8), .val (.ref b66), .val (.ref b1860), .val (.ref b1932), .val (.int i1939), .val (.ref b1932), .unset] [(.ref b1932), (.ref b1932)])) rfl (by rw [hml]; rfl) (Steps.refl _) (argsL := [(.ref b1932)]) (rest := []) (lenOf pd_14 rfl) rfl (by show 2 * 0 + _ ≤ _; exact Nat.le_of_eq rfl) (hb hby at_148) (fun _ _ => ⟨rfl, rfl, (by decide : 13 + 0 ≤ _), (by decide : 25 + 0 ≤ _)⟩)
              dsimp only [Pt.U, Pt.locs, Pt.cells, Pt.slots] at X2194 l2194 y2194 z2194 st2194 hQ2194
              subst l2194 y2194 z2194
              obtain ⟨rfl, u2196, u2197⟩ := hQ2194
              have N2194 := Fr.app N1933 u2196
              obtain ⟨fs, hr, hrun, hended, hEnd⟩ := X2194.leaveW (s := s) (vm₁ := T1856.vm) hS1856 (by rw [u2197]; exact (Nat.le_trans (Nat.le_trans (Nat.le_refl _) E1932.1) Ku1936.1)) (v := some (.int (1 : Int32))) (fun h => by rw [Bd.returns] at h; cases h)
              refine hno ⟨_, _, pre2187 _ ?_, hrun, hended, _, _, rfl, ?_, hEnd.1, hEnd.2.1, hEnd.2.2.1, hEnd.2.2.2.mono (by decide) (by decide)⟩
              · show Steps p.tables e below (T1933.setTop (mkF m 122 #[.val (.int p1), .val (.int p2), .val (.int p3), .val (.int i8), .val (.ref b66), .val (.ref b1860), .val (.ref b1932), .val (.int i1939), .unset, .unset] [(.int (2 : Int32)), (.int i1939)])) _
                refine XS.icmpYes X1933.here hx rfl (pc0 := 122) (pc' := 140) rfl (hb hby at_122) rfl (feq hc2188).2 (by decide) (by decide) ?_
                refine XS.aload X1933.here hx rfl (hb hby at_140) rfl rfl ?_
                refine XS.astore X1933.here hx rfl (hb hby at_142) rfl rfl (l' := #[.val (.int p1), .val (.int p2), .val (.int p3), .val (.int i8), .val (.ref b66), .val (.ref b1860), .val (.ref b1932), .val (.int i1939), .val (.ref b1932), .unset]) rfl ?_
                refine XS.aload X1933.here hx rfl (hb hby at_144) rfl rfl ?_
                refine XS.aload X1933.here hx rfl (hb hby at_146) rfl rfl ?_
                refine st2194.trans ?_
                show Steps p.tables e below (T2194.setTop (mkF m 151 #[.val (.int p1), .val (.int p2), .val (.int p3), .val (.int i8), .val (.ref b66), .val (.ref b1860), .val (.ref b1932), .val (.int i1939), .val (.ref b1932), .unset] [(.int (1 : Int32))])) _
                exact retN X2194 hx (t := .boolean) Bd.returns (by simp) (hb hby at_151) hr
              · show Q0 Z _ _ _ _ h0 n0 _ T2194.heap _
                rw [u2197]
                exact ⟨rfl, N2194⟩
      · skip
        have Ou1895 : Old Z n0 T1856.heap := Ou84.keep Ku1895 all0
        have chu1895 := cg1856
        have CRu1895 := CRu84.trans chu1895
        have g_b1880 : n0 ≤ b1880 := Nat.le_trans (own_z Ou84) u1890
        have sz_b1880 : h0.size ≤ b1880 := Nat.le_trans Ku84.1 u1890
        have g_b1881 : n0 ≤ b1881 := Nat.le_trans (own_z Ou84) u1892
        have sz_b1881 : h0.size ≤ b1881 := Nat.le_trans Ku84.1 u1892
        have N1856 := Fr.app N14 u1889
        obtain ⟨T2198, h2198, X2198, e2198, E2198, A2198, D2198, -, st2198⟩ := newO X1856 hx hZ1856 hown1856 (hw _ (gw 29 rfl)) (hw _ (gw 30 rfl)) (hw _ (gw 31 rfl)) rfl (g := (mkF m 24 #[.val (.int p1), .val (.int p2), .val (.int p3), .val (.int i8), .val (.ref b66), .val (.ref b1880), .unset, .unset, .unset, .unset] [])) rfl (hb hby at_24) (by decide) (by decide)
        obtain ⟨b2198, g2198⟩ : ∃ z, z = T1856.heap.size := ⟨_, rfl⟩
        rw [← g2198] at A2198 D2198 st2198
        have O2198 : Old Z n0 h2198 := Ou1895.ext E2198
        have ch2198 := CHr.ext E2198 CRu1895.1
        have CR2198 := CRu1895.trans ch2198
        have bd_b2198 : T1856.heap.size ≤ b2198 := Nat.le_of_eq g2198.symm
        have g_b2198 : n0 ≤ b2198 := Nat.le_trans (own_z Ou1895) bd_b2198
        have sz_b2198 : h0.size ≤ b2198 := Nat.le_trans (Nat.le_trans Ku84.1 Ku1895.1) bd_b2198
        have lt_b2198 : b2198 < h2198.size := A2198.lt
        have sfb_b2198 : Safe Z own_EL T1856.vm h2198 b2198 := Safe.ext E2198 CRu1895.1 (Safe.new bd_b2198)
        have D2198_37 : Fld Z h2198 b2198 C_1 "written" C_2 .null := D2198 (Or.inr (hw _ (gw 37 rfl))) (ty := (.object "java/lang/String")) (by decide)
        obtain ⟨_, _, ⟨T2199, L2199, k2199, n2199⟩, -, X2199, ⟨Lc2199, hQ2199, l2199, y2199, z2199⟩, st2199⟩ := X2198.specialBack hx (y := M_11) rfl hown1856 (mvT hZ1856 (hw _ (gw 32 rfl))) (mvT hZ1856 (hw _ (gw 33 rfl))) (mvT hZ1856 (hw _ (gw 34 rfl))) (by decide) (backOf (W := 1) (rm6_15 l Z a0 hw [] b2198 b66 h2198 n0  O2198 A2198 D2198_37 g_b2198) hZ1856 (hw _ (gw 34 rfl)) (hw _ (gw 31 rfl)) (by decide) (by decide)) (g := (mkF m 30 #[.val (.int p1), .val (.int p2), .val (.int p3), .val (.int i8), .val (.ref b66), .val (.ref b1880), .unset, .unset, .unset, .unset] [(.ref b66), (.ref b2198), (.ref b2198)])) rfl (by rw [hml]; rfl) (Steps.refl _) (a := b2198) (argsL := [(.ref b66)]) (rest := [(.ref b2198)]) (lenOf pd_11 rfl) rfl (by show 2 * 0 + _ ≤ _; exact Nat.le_of_eq rfl) (hb hby at_30) (fun _ _ => ⟨rfl, e2198, (by decide : 13 + 0 ≤ _), (by decide : 25 + 0 ≤ _)⟩)
        dsimp only [Pt.U, Pt.locs, Pt.cells, Pt.slots] at X2199 l2199 y2199 z2199 st2199 hQ2199
        subst l2199 y2199 z2199
        obtain ⟨rfl, u2201, Ku2202, u2203, u2204⟩ := hQ2199
        have Ou2202 : Old Z n0 T2199.heap := O2198.keep Ku2202 (allS g_b2198 all0)
        have chu2202 := CHr.keep Ku2202 (allS (Safe.exa hZ1856.alike A2198 (by decide) (by decide)) all0) CR2198.1
        have CRu2202 := CR2198.trans chu2202
        have N2199 := Fr.app N1856 u2201
        obtain ⟨i2205, hi2205⟩ : ∃ z, z = (p3 &&& (3 : Int32)) := ⟨_, rfl⟩
        have pre2206 : ∀ t, Steps p.tables e below (T2199.setTop (mkF m 42 #[.val (.int p1), .val (.int p2), .val (.int p3), .val (.int i8), .val (.ref b66), .val (.ref b1880), .val (.ref b2198), .val (.int i2205), .unset, .unset] [(.int i2205)])) t → Steps p.tables e below (s₁.setTop (entryFrame m #[(.int p1), (.int p2), (.int p3)] maxLocals)) t := by
          intro t kt
          refine pre1857 t ?_
          refine st1856.trans ?_
          show Steps p.tables e below (T1856.setTop (mkF m 22 #[.val (.int p1), .val (.int p2), .val (.int p3), .val (.int i8), .val (.ref b66), .unset, .unset, .unset, .unset, .unset] [(.ref b1880)])) _
          refine XS.astore X1856.here hx rfl (hb hby at_22) rfl rfl (l' := #[.val (.int p1), .val (.int p2), .val (.int p3), .val (.int i8), .val (.ref b66), .val (.ref b1880), .unset, .unset, .unset, .unset]) rfl ?_
          refine st2198 _ ?_
          refine XS.dup X2198.here hx rfl (hb hby at_27) rfl rfl ?_
          refine XS.aload X2198.here hx rfl (hb hby at_28) rfl rfl ?_
          refine st2199.trans ?_
          refine XS.astore X2199.here hx rfl (hb hby at_33) rfl rfl (l' := #[.val (.int p1), .val (.int p2), .val (.int p3), .val (.int i8), .val (.ref b66), .val (.ref b1880), .val (.ref b2198), .unset, .unset, .unset]) rfl ?_
          refine XS.iloadN X2199.here hx rfl (hb hby at_35) rfl ?_
          refine XS.iconst X2199.here hx rfl (hb hby at_36) ?_
          refine XS.iand X2199.here hx rfl (hb hby at_37) rfl ?_
          show Steps p.tables e below (T2199.setTop (mkF m 38 #[.val (.int p1), .val (.int p2), .val (.int p3), .val (.int i8), .val (.ref b66), .val (.ref b1880), .val (.ref b2198), .unset, .unset, .unset] [(.int (p3 &&& (3 : Int32)))])) _
          rw [← hi2205]
          refine XS.istore X2199.here hx rfl (hb hby at_38) rfl (l' := #[.val (.int p1), .val (.int p2), .val (.int p3), .val (.int i8), .val (.ref b66), .val (.ref b1880), .val (.ref b2198), .val (.int i2205), .unset, .unset]) rfl ?_
          refine XS.iload X2199.here hx rfl (hb hby at_40) rfl ?_
          exact kt
        by_cases hc2207 : i2205 = (0 : Int32)
        · skip
          subst hc2207
          obtain ⟨T2208, h2208, X2208, e2208, E2208, A2208, D2208, -, st2208⟩ := newO X2199 hx hZ1856 hown1856 (hw _ (gw 29 rfl)) (hw _ (gw 30 rfl)) (hw _ (gw 31 rfl)) rfl (g := (mkF m 45 #[.val (.int p1), .val (.int p2), .val (.int p3), .val (.int i8), .val (.ref b66), .val (.ref b1880), .val (.ref b2198), .val (.int (0 : Int32)), .unset, .unset] [])) rfl (hb hby at_45) (by decide) (by decide)
          obtain ⟨b2208, g2208⟩ : ∃ z, z = T2199.heap.size := ⟨_, rfl⟩
          rw [← g2208] at A2208 D2208 st2208
          have O2208 : Old Z n0 h2208 := Ou2202.ext E2208
          have ch2208 := CHr.ext E2208 CRu2202.1
          have CR2208 := CRu2202.trans ch2208
          have bd_b2208 : T2199.heap.size ≤ b2208 := Nat.le_of_eq g2208.symm
          have g_b2208 : n0 ≤ b2208 := Nat.le_trans (own_z Ou2202) bd_b2208
          have sz_b2208 : h0.size ≤ b2208 := Nat.le_trans (Nat.le_trans (Nat.le_trans (Nat.le_trans Ku84.1 Ku1895.1) E2198.1) Ku2202.1) bd_b2208
          have lt_b2208 : b2208 < h2208.size := A2208.lt
          have sfb_b2208 : Safe Z own_EL T1856.vm h2208 b2208 := Safe.ext E2208 CRu2202.1 (Safe.new bd_b2208)
          have D2208_37 : Fld Z h2208 b2208 C_1 "written" C_2 .null := D2208 (Or.inr (hw _ (gw 37 rfl))) (ty := (.object "java/lang/String")) (by decide)
          obtain ⟨_, _, ⟨T2209, L2209, k2209, n2209⟩, -, X2209, ⟨Lc2209, hQ2209, l2209, y2209, z2209⟩, st2209⟩ := X2208.specialBack hx (y := M_11) rfl hown1856 (mvT hZ1856 (hw _ (gw 32 rfl))) (mvT hZ1856 (hw _ (gw 33 rfl))) (mvT hZ1856 (hw _ (gw 34 rfl))) (by decide) (backOf (W := 1) (rm6_15 l Z a0 hw [] b2208 b1880 h2208 n0  O2208 A2208 D2208_37 g_b2208) hZ1856 (hw _ (gw 34 rfl)) (hw _ (gw 31 rfl)) (by decide) (by decide)) (g := (mkF m 51 #[.val (.int p1), .val (.int p2), .val (.int p3), .val (.int i8), .val (.ref b66), .val (.ref b1880), .val (.ref b2198), .val (.int (0 : Int32)), .unset, .unset] [(.ref b1880), (.ref b2208), (.ref b2208)])) rfl (by rw [hml]; rfl) (Steps.refl _) (a := b2208) (argsL := [(.ref b1880)]) (rest := [(.ref b2208)]) (lenOf pd_11 rfl) rfl (by show 2 * 0 + _ ≤ _; exact Nat.le_of_eq rfl) (hb hby at_51) (fun _ _ => ⟨rfl, e2208, (by decide : 14 + 0 ≤ _), (by decide : 26 + 0 ≤ _)⟩)
          dsimp only [Pt.U, Pt.locs, Pt.cells, Pt.slots] at X2209 l2209 y2209 z2209 st2209 hQ2209
          subst l2209 y2209 z2209
          obtain ⟨rfl, u2211, Ku2212, u2213, u2214⟩ := hQ2209
          have Ou2212 : Old Z n0 T2209.heap := O2208.keep Ku2212 (allS g_b2208 all0)
          have chu2212 := CHr.keep Ku2212 (allS (Safe.exa hZ1856.alike A2208 (by decide) (by decide)) all0) CR2208.1
          have CRu2212 := CR2208.trans chu2212
          have N2209 := Fr.app N2199 u2211
          have pre2216 : ∀ t, Steps p.tables e below (T2209.setTop (mkF m 58 #[.val (.int p1), .val (.int p2), .val (.int p3), .val (.int i8), .val (.ref b66), .val (.ref b1880), .val (.ref b2198), .val (.int (0 : Int32)), .val (.ref b2208), .unset] [(.int i8), (.int p1)])) t → Steps p.tables e below (s₁.setTop (entryFrame m #[(.int p1), (.int p2), (.int p3)] maxLocals)) t := by
            intro t kt
            refine pre2206 t ?_
            show Steps p.tables e below (T2199.setTop (mkF m 42 #[.val (.int p1), .val (.int p2), .val (.int p3), .val (.int i8), .val (.ref b66), .val (.ref b1880), .val (.ref b2198), .val (.int (0 : Int32)), .unset, .unset] [(.int (0 : Int32))])) _
            refine XS.ifNo X2199.here hx rfl (hb hby at_42) rfl ((if0 _ _).trans (teq (by decide +kernel : (0 : Int32) = (0 : Int32))).2) ?_
            refine st2208 _ ?_
            refine XS.dup X2208.here hx rfl (hb hby at_48) rfl rfl ?_
            refine XS.aload X2208.here hx rfl (hb hby at_49) rfl rfl ?_
            refine st2209.trans ?_
            refine XS.astore X2209.here hx rfl (hb hby at_54) rfl rfl (l' := #[.val (.int p1), .val (.int p2), .val (.int p3), .val (.int i8), .val (.ref b66), .val (.ref b1880), .val (.ref b2198), .val (.int (0 : Int32)), .val (.ref b2208), .unset]) rfl ?_
            refine XS.iloadN X2209.here hx rfl (hb hby at_56) rfl ?_
            refine XS.iloadN X2209.here hx rfl (hb hby at_57) rfl ?_
            show Steps p.tables e below (T2209.setTop (mkF m 58 #[.val (.int p1), .val (.int p2), .val (.int p3), .val (.int i8), .val (.ref b66), .val (.ref b1880), .val (.ref b2198), .val (.int (0 : Int32)), .val (.ref b2208), .unset] [(.int i8), (.int p1)])) _
            exact kt
          obtain ⟨_, _, ⟨T2215, L2215, k2215, n2215⟩, -, X2215, ⟨Lc2215, hQ2215, l2215, y2215, z2215⟩, st2215⟩ := Jvm.LawKit.callS X2209 hx (y := M_12) hown1856 (mvT hZ1856 (hw _ (gw 77 rfl))) (mvT hZ1856 (hw _ (gw 78 rfl))) (mvT hZ1856 (hw _ (gw 2 rfl))) (mvT hZ1856 (hw _ (gw 79 rfl))) (by decide) (backOf (W := 0) (rm16_16 l Z a0 hw [] p1 i8 T2209.heap n0  Ou2212) hZ1856 (hw _ (gw 79 rfl)) (hw _ (gw 2 rfl)) (by decide) (by decide)) (g := (mkF m 58 #[.val (.int p1), .val (.int p2), .val (.int p3), .val (.int i8), .val (.ref b66), .val (.ref b1880), .val (.ref b2198), .val (.int (0 : Int32)), .val (.ref b2208), .unset] [(.int i8), (.int p1)])) rfl (by rw [hml]; rfl) (argsL := [(.int p1), (.int i8)]) (rest := []) (lenOf pd_12 rfl) rfl (by show 2 * 0 + _ ≤ _; exact Nat.le_of_eq rfl) (hb hby at_58) (fun _ _ => ⟨rfl, rfl, (by decide : 14 + 0 ≤ _), (by decide : 26 + 0 ≤ _)⟩)
          dsimp only [Pt.U, Pt.locs, Pt.cells, Pt.slots] at X2215 l2215 y2215 z2215 st2215 hQ2215
          subst l2215 y2215 z2215
          rcases hQ2215 with ⟨i2217, i2218, i2219, i2220, u2221, u2222, u2223, u2224, u2225, u2226, rfl, u2228, u2229⟩ | ⟨i2230, i2231, i2232, i2233, u2234, u2235, u2236, u2237, u2238, u2239, rfl, u2241, u2242⟩ | ⟨i2243, i2244, i2245, i2246, u2247, u2248, u2249, u2250, u2251, u2252, rfl, u2254, u2255⟩ | ⟨i2256, i2257, i2258, i2259, u2260, u2261, u2262, u2263, u2264, u2265, rfl, u2267, u2268⟩ | ⟨i2269, i2270, i2271, i2272, i2273, i2274, u2275, u2276, u2277, u2278, u2279, u2280, u2281, u2282, u2283, rfl, u2285, u2286⟩ | ⟨i2287, i2288, i2289, i2290, i2291, i2292, u2293, u2294, u2295, u2296, u2297, u2298, u2299, u2300, u2301, rfl, u2303, u2304⟩ | ⟨i2305, i2306, i2307, i2308, u2309, u2310, u2311, u2312, u2313, u2314, rfl, u2316, u2317⟩ | ⟨i2318, i2319, i2320, i2321, u2322, u2323, u2324, u2325, u2326, u2327, rfl, u2329, u2330⟩ | ⟨i2331, i2332, i2333, i2334, u2335, u2336, u2337, u2338, u2339, u2340, rfl, u2342, u2343⟩ | ⟨i2344, i2345, i2346, i2347, i2348, i2349, i2350, i2351, i2352, i2353, u2354, u2355, u2356, u2357, u2358, u2359, u2360, u2361, u2362, u2363, u2364, u2365, u2366, u2367, rfl, u2369, u2370⟩ | ⟨i2371, i2372, i2373, i2374, i2375, i2376, i2377, i2378, i2379, i2380, u2381, u2382, u2383, u2384, u2385, u2386, u2387, u2388, u2389, u2390, u2391, u2392, u2393, u2394, rfl, u2396, u2397⟩ | ⟨i2398, i2399, i2400, i2401, i2402, i2403, u2404, u2405, u2406, u2407, u2408, u2409, u2410, u2411, u2412, rfl, u2414, u2415⟩
          · skip
            have N2215 := Fr.app N2209 u2228
            have pre2416 : ∀ t, Steps p.tables e below (T2215.setTop (mkF m 61 #[.val (.int p1), .val (.int p2), .val (.int p3), .val (.int i8), .val (.ref b66), .val (.ref b1880), .val (.ref b2198), .val (.int (0 : Int32)), .val (.ref b2208), .unset] [(.int (1 : Int32))])) t → Steps p.tables e below (s₁.setTop (entryFrame m #[(.int p1), (.int p2), (.int p3)] maxLocals)) t := by
              intro t kt
              refine pre2216 t ?_
              refine st2215 _ ?_
              exact kt
            obtain rfl : i60 = i2219 := (u2225.trans u75.symm).symm
            obtain rfl : i61 = i2220 := (u2223.trans u70.symm).symm
            exact absurd (u2221.trans u69.symm) (by decide +kernel)
          · skip
            have N2215 := Fr.app N2209 u2241
            have pre2417 : ∀ t, Steps p.tables e below (T2215.setTop (mkF m 61 #[.val (.int p1), .val (.int p2), .val (.int p3), .val (.int i8), .val (.ref b66), .val (.ref b1880), .val (.ref b2198), .val (.int (0 : Int32)), .val (.ref b2208), .unset] [(.int (0 : Int32))])) t → Steps p.tables e below (s₁.setTop (entryFrame m #[(.int p1), (.int p2), (.int p3)] maxLocals)) t := by
              intro t kt
              refine pre2216 t ?_
              refine st2215 _ ?_
              exact kt
            obtain rfl : i60 = i2232 := (u2238.trans u75.symm).symm
            obtain rfl : i61 = i2233 := (u2236.trans u70.symm).symm
            exact absurd (u2234.trans u69.symm) (by decide +kernel)
          · skip
            have N2215 := Fr.app N2209 u2254
            have pre2418 : ∀ t, Steps p.tables e below (T2215.setTop (mkF m 61 #[.val (.int p1), .val (.int p2), .val (.int p3), .val (.int i8), .val (.ref b66), .val (.ref b1880), .val (.ref b2198), .val (.int (0 : Int32)), .val (.ref b2208), .unset] [(.int (0 : Int32))])) t → Steps p.tables e below (s₁.setTop (entryFrame m #[(.int p1), (.int p2), (.int p3)] maxLocals)) t := by
              intro t kt
              refine pre2216 t ?_
              refine st2215 _ ?_
              exact kt
            obtain rfl : i60 = i2245 := (u2251.trans u75.symm).symm
            obtain rfl : i61 = i2246 := (u2249.trans u70.symm).symm
            exact absurd (u2247.trans u69.symm) (by decide +kernel)
          · skip
            have N2215 := Fr.app N2209 u2267
            have pre2419 : ∀ t, Steps p.tables e below (T2215.setTop (mkF m 61 #[.val (.int p1), .val (.int p2), .val (.int p3), .val (.int i8), .val (.ref b66), .val (.ref b1880), .val (.ref b2198), .val (.int (0 : Int32)), .val (.ref b2208), .unset] [(.int (0 : Int32))])) t → Steps p.tables e below (s₁.setTop (entryFrame m #[(.int p1), (.int p2), (.int p3)] maxLocals)) t := by
              intro t kt
              refine pre2216 t ?_
              refine st2215 _ ?_
              exact kt
            obtain rfl : i60 = i2256 := (u2264.trans u75.symm).symm
            obtain rfl : i61 = i2257 := (u2262.trans u70.symm).symm
            exact absurd (u2260.trans u69.symm) (by decide +kernel)
          · skip
            have N2215 := Fr.app N2209 u2285
            have pre2420 : ∀ t, Steps p.tables e below (T2215.setTop (mkF m 61 #[.val (.int p1), .val (.int p2), .val (.int p3), .val (.int i8), .val (.ref b66), .val (.ref b1880), .val (.ref b2198), .val (.int (0 : Int32)), .val (.ref b2208), .unset] [(.int (1 : Int32))])) t → Steps p.tables e below (s₁.setTop (entryFrame m #[(.int p1), (.int p2), (.int p3)] maxLocals)) t := by
              intro t kt
              refine pre2216 t ?_
              refine st2215 _ ?_
              exact kt
            obtain rfl : i59 = i2273 := (u2279.trans u73.symm).symm
            obtain rfl : i1878 = i2274 := (u2280.trans u1886.symm).symm
            obtain rfl : i60 = i2269 := (u2281.trans u75.symm).symm
            obtain rfl : i61 = i2270 := (u2277.trans u70.symm).symm
            exact absurd (u2275.trans u69.symm) (by decide +kernel)
          · skip
            have N2215 := Fr.app N2209 u2303
            have pre2421 : ∀ t, Steps p.tables e below (T2215.setTop (mkF m 61 #[.val (.int p1), .val (.int p2), .val (.int p3), .val (.int i8), .val (.ref b66), .val (.ref b1880), .val (.ref b2198), .val (.int (0 : Int32)), .val (.ref b2208), .unset] [(.int (0 : Int32))])) t → Steps p.tables e below (s₁.setTop (entryFrame m #[(.int p1), (.int p2), (.int p3)] maxLocals)) t := by
              intro t kt
              refine pre2216 t ?_
              refine st2215 _ ?_
              exact kt
            obtain rfl : i59 = i2291 := (u2297.trans u73.symm).symm
            obtain rfl : i1878 = i2292 := (u2298.trans u1886.symm).symm
            obtain rfl : i60 = i2287 := (u2299.trans u75.symm).symm
            obtain rfl : i61 = i2288 := (u2295.trans u70.symm).symm
            exact absurd (u2293.trans u69.symm) (by decide +kernel)
          · skip
            have N2215 := Fr.app N2209 u2316
            have pre2422 : ∀ t, Steps p.tables e below (T2215.setTop (mkF m 61 #[.val (.int p1), .val (.int p2), .val (.int p3), .val (.int i8), .val (.ref b66), .val (.ref b1880), .val (.ref b2198), .val (.int (0 : Int32)), .val (.ref b2208), .unset] [(.int (0 : Int32))])) t → Steps p.tables e below (s₁.setTop (entryFrame m #[(.int p1), (.int p2), (.int p3)] maxLocals)) t := by
              intro t kt
              refine pre2216 t ?_
              refine st2215 _ ?_
              exact kt
            obtain rfl : i60 = i2305 := (u2313.trans u75.symm).symm
            obtain rfl : i61 = i2306 := (u2311.trans u70.symm).symm
            exact absurd (u2309.trans u69.symm) (by decide +kernel)
          · skip
            have N2215 := Fr.app N2209 u2329
            have pre2423 : ∀ t, Steps p.tables e below (T2215.setTop (mkF m 61 #[.val (.int p1), .val (.int p2), .val (.int p3), .val (.int i8), .val (.ref b66), .val (.ref b1880), .val (.ref b2198), .val (.int (0 : Int32)), .val (.ref b2208), .unset] [(.int (0 : Int32))])) t → Steps p.tables e below (s₁.setTop (entryFrame m #[(.int p1), (.int p2), (.int p3)] maxLocals)) t := by
              intro t kt
              refine pre2216 t ?_
              refine st2215 _ ?_
              exact kt
            obtain rfl : i60 = i2318 := (u2326.trans u75.symm).symm
            obtain rfl : i61 = i2319 := (u2324.trans u70.symm).symm
            obtain rfl : i1876 = i2320 := (u2327.trans u1887.symm).symm
            obtain rfl : i1877 = i2321 := (u2325.trans u1884.symm).symm
            exact absurd (u2323.trans u1883.symm) (by decide +kernel)
          · skip
            have N2215 := Fr.app N2209 u2342
            have pre2424 : ∀ t, Steps p.tables e below (T2215.setTop (mkF m 61 #[.val (.int p1), .val (.int p2), .val (.int p3), .val (.int i8), .val (.ref b66), .val (.ref b1880), .val (.ref b2198), .val (.int (0 : Int32)), .val (.ref b2208), .unset] [(.int (0 : Int32))])) t → Steps p.tables e below (s₁.setTop (entryFrame m #[(.int p1), (.int p2), (.int p3)] maxLocals)) t := by
              intro t kt
              refine pre2216 t ?_
              refine st2215 _ ?_
              exact kt
            obtain rfl : i60 = i2331 := (u2339.trans u75.symm).symm
            obtain rfl : i61 = i2332 := (u2337.trans u70.symm).symm
            obtain rfl : i1876 = i2333 := (u2340.trans u1887.symm).symm
            obtain rfl : i1877 = i2334 := (u2338.trans u1884.symm).symm
            have f2425 : Fld Z T2209.heap b2198 C_1 "written" C_2 (.ref b66) := ((Fld.ext E2208 u2204).keep Ku2212 (ninS (Nat.ne_of_lt (Nat.lt_of_lt_of_le (Nat.lt_of_lt_of_le lt_b2198 Ku2202.1) bd_b2208)) nin0))
            have f2426 : Exa Z T2209.heap b1880 C_0 := ((Exa.ext E2208 ((Exa.ext E2198 u1896).keep Ku2202)).keep Ku2212)
            have f2427 : Exa Z T2209.heap b66 C_0 := ((Exa.ext E2208 ((Exa.ext E2198 (u85.keep Ku1895)).keep Ku2202)).keep Ku2212)
            have f2428 : Fld Z T2209.heap b1880 C_0 "coder" "B" (.int (0 : Int32)) := ((Fld.ext E2208 ((Fld.ext E2198 u1897).keep Ku2202 (ninS (Nat.ne_of_lt (Nat.lt_of_lt_of_le u1891 bd_b2198)) nin0))).keep Ku2212 (ninS (Nat.ne_of_lt (Nat.lt_of_lt_of_le (Nat.lt_of_lt_of_le (Nat.lt_of_lt_of_le u1891 E2198.1) Ku2202.1) bd_b2208)) nin0))
            have f2429 : Fld Z T2209.heap b66 C_0 "coder" "B" (.int (0 : Int32)) := ((Fld.ext E2208 ((Fld.ext E2198 (u86.keep Ku1895 nin0)).keep Ku2202 (ninS (Nat.ne_of_lt (Nat.lt_of_lt_of_le (Nat.lt_of_lt_of_le u80 Ku1895.1) bd_b2198)) nin0))).keep Ku2212 (ninS (Nat.ne_of_lt (Nat.lt_of_lt_of_le (Nat.lt_of_lt_of_le (Nat.lt_of_lt_of_le (Nat.lt_of_lt_of_le u80 Ku1895.1) E2198.1) Ku2202.1) bd_b2208)) nin0))
            have f2430 : Fld Z T2209.heap b1880 C_0 "value" "[B" (.ref b1881) := ((Fld.ext E2208 ((Fld.ext E2198 u1898).keep Ku2202 (ninS (Nat.ne_of_lt (Nat.lt_of_lt_of_le u1891 bd_b2198)) nin0))).keep Ku2212 (ninS (Nat.ne_of_lt (Nat.lt_of_lt_of_le (Nat.lt_of_lt_of_le (Nat.lt_of_lt_of_le u1891 E2198.1) Ku2202.1) bd_b2208)) nin0))
            have f2431 : Fld Z T2209.heap b66 C_0 "value" "[B" (.ref b67) := ((Fld.ext E2208 ((Fld.ext E2198 (u87.keep Ku1895 nin0)).keep Ku2202 (ninS (Nat.ne_of_lt (Nat.lt_of_lt_of_le (Nat.lt_of_lt_of_le u80 Ku1895.1) bd_b2198)) nin0))).keep Ku2212 (ninS (Nat.ne_of_lt (Nat.lt_of_lt_of_le (Nat.lt_of_lt_of_le (Nat.lt_of_lt_of_le (Nat.lt_of_lt_of_le u80 Ku1895.1) E2198.1) Ku2202.1) bd_b2208)) nin0))
            have f2432 : Arv Z T2209.heap b1881 k1882 .byte (1 : Int32) [(.int i1879)] (.int (0 : Int32)) := ((((u1900.ext E2198).keep Ku2202 (ninS (Nat.ne_of_lt (Nat.lt_of_lt_of_le u1893 bd_b2198)) nin0)).ext E2208).keep Ku2212 (ninS (Nat.ne_of_lt (Nat.lt_of_lt_of_le (Nat.lt_of_lt_of_le (Nat.lt_of_lt_of_le u1893 E2198.1) Ku2202.1) bd_b2208)) nin0))
            have f2433 : Arv Z T2209.heap b67 k68 .byte (2 : Int32) [(.int i65), (.int i64)] (.int (0 : Int32)) := (((((u89.keep Ku1895 nin0).ext E2198).keep Ku2202 (ninS (Nat.ne_of_lt (Nat.lt_of_lt_of_le (Nat.lt_of_lt_of_le u82 Ku1895.1) bd_b2198)) nin0)).ext E2208).keep Ku2212 (ninS (Nat.ne_of_lt (Nat.lt_of_lt_of_le (Nat.lt_of_lt_of_le (Nat.lt_of_lt_of_le (Nat.lt_of_lt_of_le u82 Ku1895.1) E2198.1) Ku2202.1) bd_b2208)) nin0))
            have f2435 : Exa Z T2209.heap b2198 C_1 := ((Exa.ext E2208 u2203).keep Ku2212)
            obtain ⟨cq2434, kq2434, q2434a, q2434b, q2434c⟩ := isOf hZ1856 u2343 f2435
            obtain ⟨_, _, ⟨T2434, L2434, k2434, n2434⟩, -, X2434, ⟨Lc2434, hQ2434, l2434, y2434, z2434⟩, st2434⟩ := X2215.virtualBack hx (y := M_15) (z := M_15) hown1856 (mvT hZ1856 (hw _ (gw 38 rfl))) (mvT hZ1856 (hw _ (gw 39 rfl))) (notFace_of_selects (args := #[]) (mvT hZ1856 (hw _ (gw 41 rfl)))) (mvT hZ1856 (hw _ (gw 41 rfl))) (mvT hZ1856 (hw _ (gw 40 rfl))) (by decide) (backOf (W := 0) (rm7_45 l Z a0 hw [] b2198 b2208 b1880 b66 p11 b1881 b67 i1879 k1882 i65 i64 k68 T2209.heap n0  Ou2212 u2213 u2214 f2425 f2426 (Ne.symm (Nat.ne_of_lt (Nat.lt_of_lt_of_le u80 u1890))) f2427 S_12 hk13 f2428 f2429 f2430 f2431 f2432 f2433) hZ1856 (hw _ (gw 42 rfl)) (hw _ (gw 31 rfl)) (by decide) (by decide)) q2434a q2434c (g := (mkF m 67 #[.val (.int p1), .val (.int p2), .val (.int p3), .val (.int i8), .val (.ref b66), .val (.ref b1880), .val (.ref b2198), .val (.int (0 : Int32)), .val (.ref b2208), .val (.int (0 : Int32))] [(.ref b2208), (.ref b2198)])) rfl (by rw [hml]; rfl) (Steps.refl _) (argsL := [(.ref b2208)]) (rest := []) (lenOf pd_14 rfl) rfl (by show 2 * 0 + _ ≤ _; exact Nat.le_of_eq rfl) (hb hby at_67) (fun _ _ => ⟨rfl, u2343, (by decide : 14 + 0 ≤ _), (by decide : 26 + 0 ≤ _)⟩)
            dsimp only [Pt.U, Pt.locs, Pt.cells, Pt.slots] at X2434 l2434 y2434 z2434 st2434 hQ2434
            subst l2434 y2434 z2434
            obtain ⟨rfl, u2437, u2438⟩ := hQ2434
            have N2434 := Fr.app N2215 u2437
            obtain ⟨cq2439, kq2439, q2439a, q2439b, q2439c⟩ := isOf hZ1856 u2438 u2213
            obtain ⟨_, _, ⟨T2439, L2439, k2439, n2439⟩, -, X2439, ⟨Lc2439, hQ2439, l2439, y2439, z2439⟩, st2439⟩ := X2434.virtualBack hx (y := M_15) (z := M_15) hown1856 (mvT hZ1856 (hw _ (gw 38 rfl))) (mvT hZ1856 (hw _ (gw 39 rfl))) (notFace_of_selects (args := #[]) (mvT hZ1856 (hw _ (gw 41 rfl)))) (mvT hZ1856 (hw _ (gw 41 rfl))) (mvT hZ1856 (hw _ (gw 40 rfl))) (by decide) (backOf (W := 0) (rm7_42 l Z a0 hw [] b2208 b2198 b66 b1880 p11 b67 b1881 i65 i64 k68 i1879 k1882 T2209.heap n0  Ou2212 f2435 f2425 u2214 f2427 (Nat.ne_of_lt (Nat.lt_of_lt_of_le u80 u1890)) f2426 S_12 hk13 f2429 f2428 f2431 f2430 f2433 f2432) hZ1856 (hw _ (gw 42 rfl)) (hw _ (gw 31 rfl)) (by decide) (by decide)) q2439a q2439c (g := (mkF m 79 #[.val (.int p1), .val (.int p2), .val (.int p3), .val (.int i8), .val (.ref b66), .val (.ref b1880), .val (.ref b2198), .val (.int (0 : Int32)), .val (.ref b2208), .val (.int (0 : Int32))] [(.ref b2198), (.ref b2208)])) rfl (by rw [hml]; rfl) (Steps.refl _) (argsL := [(.ref b2198)]) (rest := []) (lenOf pd_14 rfl) rfl (by show 2 * 0 + _ ≤ _; exact Nat.le_of_eq rfl) (hb hby at_79) (fun _ _ => ⟨rfl, u2438, (by decide : 14 + 0 ≤ _), (by decide : 26 + 0 ≤ _)⟩)
            dsimp only [Pt.U, Pt.locs, Pt.cells, Pt.slots] at X2439 l2439 y2439 z2439 st2439 hQ2439
            subst l2439 y2439 z2439
            obtain ⟨rfl, u2441, u2442⟩ := hQ2439
            have N2439 := Fr.app N2434 u2441
            obtain ⟨fs, hr, hrun, hended, hEnd⟩ := X2439.leaveW (s := s) (vm₁ := T1856.vm) hS1856 (by rw [u2442]; exact (Nat.le_trans (Nat.le_trans (Nat.le_trans (Nat.le_trans (Nat.le_refl _) E2198.1) Ku2202.1) E2208.1) Ku2212.1)) (v := some (.int (1 : Int32))) (fun h => by rw [Bd.returns] at h; cases h)
            refine hno ⟨_, _, pre2424 _ ?_, hrun, hended, _, _, rfl, ?_, hEnd.1, hEnd.2.1, hEnd.2.2.1, hEnd.2.2.2.mono (by decide) (by decide)⟩
            · show Steps p.tables e below (T2215.setTop (mkF m 61 #[.val (.int p1), .val (.int p2), .val (.int p3), .val (.int i8), .val (.ref b66), .val (.ref b1880), .val (.ref b2198), .val (.int (0 : Int32)), .val (.ref b2208), .unset] [(.int (0 : Int32))])) _
              refine XS.istore X2215.here hx rfl (hb hby at_61) rfl (l' := #[.val (.int p1), .val (.int p2), .val (.int p3), .val (.int i8), .val (.ref b66), .val (.ref b1880), .val (.ref b2198), .val (.int (0 : Int32)), .val (.ref b2208), .val (.int (0 : Int32))]) rfl ?_
              refine XS.aload X2215.here hx rfl (hb hby at_63) rfl rfl ?_
              refine XS.aload X2215.here hx rfl (hb hby at_65) rfl rfl ?_
              refine st2434.trans ?_
              refine XS.iload X2434.here hx rfl (hb hby at_70) rfl ?_
              refine XS.icmpNo X2434.here hx rfl (hb hby at_72) rfl (teq (by decide +kernel : (0 : Int32) = (0 : Int32))).2 ?_
              refine XS.aload X2434.here hx rfl (hb hby at_75) rfl rfl ?_
              refine XS.aload X2434.here hx rfl (hb hby at_77) rfl rfl ?_
              refine st2439.trans ?_
              show Steps p.tables e below (T2439.setTop (mkF m 82 #[.val (.int p1), .val (.int p2), .val (.int p3), .val (.int i8), .val (.ref b66), .val (.ref b1880), .val (.ref b2198), .val (.int (0 : Int32)), .val (.ref b2208), .val (.int (0 : Int32))] [(.int (0 : Int32))])) _
              refine XS.iload X2439.here hx rfl (hb hby at_82) rfl ?_
              refine XS.icmpNo X2439.here hx rfl (hb hby at_84) rfl (teq (by decide +kernel : (0 : Int32) = (0 : Int32))).2 ?_
              refine XS.iconst X2439.here hx rfl (hb hby at_87) ?_
              refine XS.goto X2439.here hx rfl (pc0 := 88) (pc' := 92) rfl (hb hby at_88) (by decide) (by decide) ?_
              show Steps p.tables e below (T2439.setTop (mkF m 92 #[.val (.int p1), .val (.int p2), .val (.int p3), .val (.int i8), .val (.ref b66), .val (.ref b1880), .val (.ref b2198), .val (.int (0 : Int32)), .val (.ref b2208), .val (.int (0 : Int32))] [(.int (1 : Int32))])) _
              exact retN X2439 hx (t := .boolean) Bd.returns (by simp) (hb hby at_92) hr
            · show Q0 Z _ _ _ _ h0 n0 _ T2439.heap _
              rw [u2442]
              exact ⟨rfl, N2439⟩
          · skip
            have N2215 := Fr.app N2209 u2369
            have pre2443 : ∀ t, Steps p.tables e below (T2215.setTop (mkF m 61 #[.val (.int p1), .val (.int p2), .val (.int p3), .val (.int i8), .val (.ref b66), .val (.ref b1880), .val (.ref b2198), .val (.int (0 : Int32)), .val (.ref b2208), .unset] [(.int (1 : Int32))])) t → Steps p.tables e below (s₁.setTop (entryFrame m #[(.int p1), (.int p2), (.int p3)] maxLocals)) t := by
              intro t kt
              refine pre2216 t ?_
              refine st2215 _ ?_
              exact kt
            obtain rfl : i59 = i2346 := (u2358.trans u73.symm).symm
            obtain rfl : i1878 = i2347 := (u2359.trans u1886.symm).symm
            obtain rfl : i60 = i2352 := (u2362.trans u75.symm).symm
            obtain rfl : i61 = i2353 := (u2356.trans u70.symm).symm
            obtain rfl : i1876 = i2344 := (u2363.trans u1887.symm).symm
            obtain rfl : i1877 = i2345 := (u2357.trans u1884.symm).symm
            exact absurd (u2355.trans u1883.symm) (by decide +kernel)
          · skip
            have N2215 := Fr.app N2209 u2396
            have pre2444 : ∀ t, Steps p.tables e below (T2215.setTop (mkF m 61 #[.val (.int p1), .val (.int p2), .val (.int p3), .val (.int i8), .val (.ref b66), .val (.ref b1880), .val (.ref b2198), .val (.int (0 : Int32)), .val (.ref b2208), .unset] [(.int (0 : Int32))])) t → Steps p.tables e below (s₁.setTop (entryFrame m #[(.int p1), (.int p2), (.int p3)] maxLocals)) t := by
              intro t kt
              refine pre2216 t ?_
              refine st2215 _ ?_
              exact kt
            obtain rfl : i59 = i2373 := (u2385.trans u73.symm).symm
            obtain rfl : i1878 = i2374 := (u2386.trans u1886.symm).symm
            obtain rfl : i60 = i2379 := (u2389.trans u75.symm).symm
            obtain rfl : i61 = i2380 := (u2383.trans u70.symm).symm
            obtain rfl : i1876 = i2371 := (u2390.trans u1887.symm).symm
            obtain rfl : i1877 = i2372 := (u2384.trans u1884.symm).symm
            exact absurd (u2382.trans u1883.symm) (by decide +kernel)
          · skip
            have N2215 := Fr.app N2209 u2414
            have pre2445 : ∀ t, Steps p.tables e below (T2215.setTop (mkF m 61 #[.val (.int p1), .val (.int p2), .val (.int p3), .val (.int i8), .val (.ref b66), .val (.ref b1880), .val (.ref b2198), .val (.int (0 : Int32)), .val (.ref b2208), .unset] [(.int (0 : Int32))])) t → Steps p.tables e below (s₁.setTop (entryFrame m #[(.int p1), (.int p2), (.int p3)] maxLocals)) t := by
              intro t kt
              refine pre2216 t ?_
              refine st2215 _ ?_
              exact kt
            obtain rfl : i59 = i2400 := (u2408.trans u73.symm).symm
            obtain rfl : i1878 = i2401 := (u2409.trans u1886.symm).symm
            obtain rfl : i60 = i2402 := (u2410.trans u75.symm).symm
            obtain rfl : i61 = i2403 := (u2406.trans u70.symm).symm
            obtain rfl : i1876 = i2398 := (u2411.trans u1887.symm).symm
            obtain rfl : i1877 = i2399 := (u2407.trans u1884.symm).symm
            exact absurd (u2405.trans u1883.symm) (by decide +kernel)
        · skip
          have pre2446 : ∀ t, Steps p.tables e below (T2199.setTop (mkF m 96 #[.val (.int p1), .val (.int p2), .val (.int p3), .val (.int i8), .val (.ref b66), .val (.ref b1880), .val (.ref b2198), .val (.int i2205), .unset, .unset] [(.int (1 : Int32)), (.int i2205)])) t → Steps p.tables e below (s₁.setTop (entryFrame m #[(.int p1), (.int p2), (.int p3)] maxLocals)) t := by
            intro t kt
            refine pre2206 t ?_
            show Steps p.tables e below (T2199.setTop (mkF m 42 #[.val (.int p1), .val (.int p2), .val (.int p3), .val (.int i8), .val (.ref b66), .val (.ref b1880), .val (.ref b2198), .val (.int i2205), .unset, .unset] [(.int i2205)])) _
            refine XS.ifYes X2199.here hx rfl (pc0 := 42) (pc' := 93) rfl (hb hby at_42) rfl ((if0 _ _).trans (feq hc2207).2) (by decide) (by decide) ?_
            refine XS.iload X2199.here hx rfl (hb hby at_93) rfl ?_
            refine XS.iconst X2199.here hx rfl (hb hby at_95) ?_
            exact kt
          by_cases hc2447 : i2205 = (1 : Int32)
          · skip
            subst hc2447
            have f2448 : Exa Z T2199.heap b1880 C_0 := ((Exa.ext E2198 u1896).keep Ku2202)
            obtain ⟨cq2449, kq2449, q2449a, q2449b, q2449c⟩ := isOf hZ1856 rfl u2203
            obtain ⟨_, _, ⟨T2449, L2449, k2449, n2449⟩, -, X2449, ⟨Lc2449, hQ2449, l2449, y2449, z2449⟩, st2449⟩ := X2199.virtualBack hx (y := M_15) (z := M_15) hown1856 (mvT hZ1856 (hw _ (gw 38 rfl))) (mvT hZ1856 (hw _ (gw 39 rfl))) (notFace_of_selects (args := #[]) (mvT hZ1856 (hw _ (gw 41 rfl)))) (mvT hZ1856 (hw _ (gw 41 rfl))) (mvT hZ1856 (hw _ (gw 40 rfl))) (by decide) (backOf (W := 0) (rm7_20 l Z a0 hw [] b2198 b1880 T2199.heap n0  Ou2202 f2448) hZ1856 (hw _ (gw 42 rfl)) (hw _ (gw 31 rfl)) (by decide) (by decide)) q2449a q2449c (g := (mkF m 107 #[.val (.int p1), .val (.int p2), .val (.int p3), .val (.int i8), .val (.ref b66), .val (.ref b1880), .val (.ref b2198), .val (.int (1 : Int32)), .val (.ref b1880), .unset] [(.ref b1880), (.ref b2198)])) rfl (by rw [hml]; rfl) (Steps.refl _) (argsL := [(.ref b1880)]) (rest := []) (lenOf pd_14 rfl) rfl (by show 2 * 0 + _ ≤ _; exact Nat.le_of_eq rfl) (hb hby at_107) (fun _ _ => ⟨rfl, rfl, (by decide : 13 + 0 ≤ _), (by decide : 25 + 0 ≤ _)⟩)
            dsimp only [Pt.U, Pt.locs, Pt.cells, Pt.slots] at X2449 l2449 y2449 z2449 st2449 hQ2449
            subst l2449 y2449 z2449
            obtain ⟨rfl, u2451, u2452⟩ := hQ2449
            have N2449 := Fr.app N2199 u2451
            obtain ⟨fs, hr, hrun, hended, hEnd⟩ := X2449.leaveW (s := s) (vm₁ := T1856.vm) hS1856 (by rw [u2452]; exact (Nat.le_trans (Nat.le_trans (Nat.le_refl _) E2198.1) Ku2202.1)) (v := some (.int (1 : Int32))) (fun h => by rw [Bd.returns] at h; cases h)
            refine hno ⟨_, _, pre2446 _ ?_, hrun, hended, _, _, rfl, ?_, hEnd.1, hEnd.2.1, hEnd.2.2.1, hEnd.2.2.2.mono (by decide) (by decide)⟩
            · show Steps p.tables e below (T2199.setTop (mkF m 96 #[.val (.int p1), .val (.int p2), .val (.int p3), .val (.int i8), .val (.ref b66), .val (.ref b1880), .val (.ref b2198), .val (.int (1 : Int32)), .unset, .unset] [(.int (1 : Int32)), (.int (1 : Int32))])) _
              refine XS.icmpNo X2199.here hx rfl (hb hby at_96) rfl (teq (by decide +kernel : (1 : Int32) = (1 : Int32))).2 ?_
              refine XS.aload X2199.here hx rfl (hb hby at_99) rfl rfl ?_
              refine XS.astore X2199.here hx rfl (hb hby at_101) rfl rfl (l' := #[.val (.int p1), .val (.int p2), .val (.int p3), .val (.int i8), .val (.ref b66), .val (.ref b1880), .val (.ref b2198), .val (.int (1 : Int32)), .val (.ref b1880), .unset]) rfl ?_
              refine XS.aload X2199.here hx rfl (hb hby at_103) rfl rfl ?_
              refine XS.aload X2199.here hx rfl (hb hby at_105) rfl rfl ?_
              refine st2449.trans ?_
              refine XS.ifNo X2449.here hx rfl (hb hby at_110) rfl ((if0 _ _).trans (teq (by decide +kernel : (0 : Int32) = (0 : Int32))).2) ?_
              refine XS.iconst X2449.here hx rfl (hb hby at_113) ?_
              refine XS.goto X2449.here hx rfl (pc0 := 114) (pc' := 118) rfl (hb hby at_114) (by decide) (by decide) ?_
              show Steps p.tables e below (T2449.setTop (mkF m 118 #[.val (.int p1), .val (.int p2), .val (.int p3), .val (.int i8), .val (.ref b66), .val (.ref b1880), .val (.ref b2198), .val (.int (1 : Int32)), .val (.ref b1880), .unset] [(.int (1 : Int32))])) _
              exact retN X2449 hx (t := .boolean) Bd.returns (by simp) (hb hby at_118) hr
            · show Q0 Z _ _ _ _ h0 n0 _ T2449.heap _
              rw [u2452]
              exact ⟨rfl, N2449⟩
          · skip
            have pre2453 : ∀ t, Steps p.tables e below (T2199.setTop (mkF m 122 #[.val (.int p1), .val (.int p2), .val (.int p3), .val (.int i8), .val (.ref b66), .val (.ref b1880), .val (.ref b2198), .val (.int i2205), .unset, .unset] [(.int (2 : Int32)), (.int i2205)])) t → Steps p.tables e below (s₁.setTop (entryFrame m #[(.int p1), (.int p2), (.int p3)] maxLocals)) t := by
              intro t kt
              refine pre2446 t ?_
              show Steps p.tables e below (T2199.setTop (mkF m 96 #[.val (.int p1), .val (.int p2), .val (.int p3), .val (.int i8), .val (.ref b66), .val (.ref b1880), .val (.ref b2198), .val (.int i2205), .unset, .unset] [(.int (1 : Int32)), (.int i2205)])) _
              refine XS.icmpYes X2199.here hx rfl (pc0 := 96) (pc' := 119) rfl (hb hby at_96) rfl (feq hc2447).2 (by decide) (by decide) ?_
              refine XS.iload X2199.here hx rfl (hb hby at_119) rfl ?_
              refine XS.iconst X2199.here hx rfl (hb hby at_121) ?_
              exact kt
            by_cases hc2454 : i2205 = (2 : Int32)
            · skip
              subst hc2454
              obtain ⟨cq2455, kq2455, q2455a, q2455b, q2455c⟩ := isOf hZ1856 rfl u2203
              obtain ⟨_, _, ⟨T2455, L2455, k2455, n2455⟩, -, X2455, ⟨Lc2455, hQ2455, l2455, y2455, z2455⟩, st2455⟩ := X2199.virtualBack hx (y := M_15) (z := M_15) hown1856 (mvT hZ1856 (hw _ (gw 38 rfl))) (mvT hZ1856 (hw _ (gw 39 rfl))) (notFace_of_selects (args := #[]) (mvT hZ1856 (hw _ (gw 41 rfl)))) (mvT hZ1856 (hw _ (gw 41 rfl))) (mvT hZ1856 (hw _ (gw 40 rfl))) (by decide) (backOf (W := 0) (rm7_21 l Z a0 hw [] b2198 T2199.heap n0  Ou2202) hZ1856 (hw _ (gw 42 rfl)) (hw _ (gw 31 rfl)) (by decide) (by decide)) q2455a q2455c (g := (mkF m 128 #[.val (.int p1), .val (.int p2), .val (.int p3), .val (.int i8), .val (.ref b66), .val (.ref b1880), .val (.ref b2198), .val (.int (2 : Int32)), .unset, .unset] [.null, (.ref b2198)])) rfl (by rw [hml]; rfl) (Steps.refl _) (argsL := [.null]) (rest := []) (lenOf pd_14 rfl) rfl (by show 2 * 0 + _ ≤ _; exact Nat.le_of_eq rfl) (hb hby at_128) (fun _ _ => ⟨rfl, rfl, (by decide : 13 + 0 ≤ _), (by decide : 25 + 0 ≤ _)⟩)
              dsimp only [Pt.U, Pt.locs, Pt.cells, Pt.slots] at X2455 l2455 y2455 z2455 st2455 hQ2455
              subst l2455 y2455 z2455
              obtain ⟨rfl, u2457, u2458⟩ := hQ2455
              have N2455 := Fr.app N2199 u2457
              obtain ⟨fs, hr, hrun, hended, hEnd⟩ := X2455.leaveW (s := s) (vm₁ := T1856.vm) hS1856 (by rw [u2458]; exact (Nat.le_trans (Nat.le_trans (Nat.le_refl _) E2198.1) Ku2202.1)) (v := some (.int (1 : Int32))) (fun h => by rw [Bd.returns] at h; cases h)
              refine hno ⟨_, _, pre2453 _ ?_, hrun, hended, _, _, rfl, ?_, hEnd.1, hEnd.2.1, hEnd.2.2.1, hEnd.2.2.2.mono (by decide) (by decide)⟩
              · show Steps p.tables e below (T2199.setTop (mkF m 122 #[.val (.int p1), .val (.int p2), .val (.int p3), .val (.int i8), .val (.ref b66), .val (.ref b1880), .val (.ref b2198), .val (.int (2 : Int32)), .unset, .unset] [(.int (2 : Int32)), (.int (2 : Int32))])) _
                refine XS.icmpNo X2199.here hx rfl (hb hby at_122) rfl (teq (by decide +kernel : (2 : Int32) = (2 : Int32))).2 ?_
                refine XS.aload X2199.here hx rfl (hb hby at_125) rfl rfl ?_
                refine XS.aconstNull X2199.here hx rfl (hb hby at_127) ?_
                refine st2455.trans ?_
                refine XS.ifNo X2455.here hx rfl (hb hby at_131) rfl ((if0 _ _).trans (teq (by decide +kernel : (0 : Int32) = (0 : Int32))).2) ?_
                refine XS.iconst X2455.here hx rfl (hb hby at_134) ?_
                refine XS.goto X2455.here hx rfl (pc0 := 135) (pc' := 139) rfl (hb hby at_135) (by decide) (by decide) ?_
                show Steps p.tables e below (T2455.setTop (mkF m 139 #[.val (.int p1), .val (.int p2), .val (.int p3), .val (.int i8), .val (.ref b66), .val (.ref b1880), .val (.ref b2198), .val (.int (2 : Int32)), .unset, .unset] [(.int (1 : Int32))])) _
                exact retN X2455 hx (t := .boolean) Bd.returns (by simp) (hb hby at_139) hr
              · show Q0 Z _ _ _ _ h0 n0 _ T2455.heap _
                rw [u2458]
                exact ⟨rfl, N2455⟩
            · skip
              have f2459 : Exa Z T2199.heap b66 C_0 := ((Exa.ext E2198 (u85.keep Ku1895)).keep Ku2202)
              obtain ⟨cq2460, kq2460, q2460a, q2460b, q2460c⟩ := isOf hZ1856 rfl u2203
              obtain ⟨_, _, ⟨T2460, L2460, k2460, n2460⟩, -, X2460, ⟨Lc2460, hQ2460, l2460, y2460, z2460⟩, st2460⟩ := X2199.virtualBack hx (y := M_15) (z := M_15) hown1856 (mvT hZ1856 (hw _ (gw 38 rfl))) (mvT hZ1856 (hw _ (gw 39 rfl))) (notFace_of_selects (args := #[]) (mvT hZ1856 (hw _ (gw 41 rfl)))) (mvT hZ1856 (hw _ (gw 41 rfl))) (mvT hZ1856 (hw _ (gw 40 rfl))) (by decide) (backOf (W := 0) (rm7_22 l Z a0 hw [] b2198 b66 T2199.heap n0  Ou2202 u2203 u2204 f2459) hZ1856 (hw _ (gw 42 rfl)) (hw _ (gw 31 rfl)) (by decide) (by decide)) q2460a q2460c (g := (mkF m 148 #[.val (.int p1), .val (.int p2), .val (.int p3), .val (.int i8), .val (.ref b66), .val (.ref b1880), .val (.ref b2198), .val (.int i2205), .val (.ref b2198), .unset] [(.ref b2198), (.ref b2198)])) rfl (by rw [hml]; rfl) (Steps.refl _) (argsL := [(.ref b2198)]) (rest := []) (lenOf pd_14 rfl) rfl (by show 2 * 0 + _ ≤ _; exact Nat.le_of_eq rfl) (hb hby at_148) (fun _ _ => ⟨rfl, rfl, (by decide : 13 + 0 ≤ _), (by decide : 25 + 0 ≤ _)⟩)
              dsimp only [Pt.U, Pt.locs, Pt.cells, Pt.slots] at X2460 l2460 y2460 z2460 st2460 hQ2460
              subst l2460 y2460 z2460
              obtain ⟨rfl, u2462, u2463⟩ := hQ2460
              have N2460 := Fr.app N2199 u2462
              obtain ⟨fs, hr, hrun, hended, hEnd⟩ := X2460.leaveW (s := s) (vm₁ := T1856.vm) hS1856 (by rw [u2463]; exact (Nat.le_trans (Nat.le_trans (Nat.le_refl _) E2198.1) Ku2202.1)) (v := some (.int (1 : Int32))) (fun h => by rw [Bd.returns] at h; cases h)
              refine hno ⟨_, _, pre2453 _ ?_, hrun, hended, _, _, rfl, ?_, hEnd.1, hEnd.2.1, hEnd.2.2.1, hEnd.2.2.2.mono (by decide) (by decide)⟩
              · show Steps p.tables e below (T2199.setTop (mkF m 122 #[.val (.int p1), .val (.int p2), .val (.int p3), .val (.int i8), .val (.ref b66), .val (.ref b1880), .val (.ref b2198), .val (.int i2205), .unset, .unset] [(.int (2 : Int32)), (.int i2205)])) _
                refine XS.icmpYes X2199.here hx rfl (pc0 := 122) (pc' := 140) rfl (hb hby at_122) rfl (feq hc2454).2 (by decide) (by decide) ?_
                refine XS.aload X2199.here hx rfl (hb hby at_140) rfl rfl ?_
                refine XS.astore X2199.here hx rfl (hb hby at_142) rfl rfl (l' := #[.val (.int p1), .val (.int p2), .val (.int p3), .val (.int i8), .val (.ref b66), .val (.ref b1880), .val (.ref b2198), .val (.int i2205), .val (.ref b2198), .unset]) rfl ?_
                refine XS.aload X2199.here hx rfl (hb hby at_144) rfl rfl ?_
                refine XS.aload X2199.here hx rfl (hb hby at_146) rfl rfl ?_
                refine st2460.trans ?_
                show Steps p.tables e below (T2460.setTop (mkF m 151 #[.val (.int p1), .val (.int p2), .val (.int p3), .val (.int i8), .val (.ref b66), .val (.ref b1880), .val (.ref b2198), .val (.int i2205), .val (.ref b2198), .unset] [(.int (1 : Int32))])) _
                exact retN X2460 hx (t := .boolean) Bd.returns (by simp) (hb hby at_151) hr
              · show Q0 Z _ _ _ _ h0 n0 _ T2460.heap _
                rw [u2463]
                exact ⟨rfl, N2460⟩
      · skip
        have Ou1926 : Old Z n0 T1856.heap := Ou84.keep Ku1926 all0
        have chu1926 := cg1856
        have CRu1926 := CRu84.trans chu1926
        have g_b1908 : n0 ≤ b1908 := Nat.le_trans (own_z Ou84) u1921
        have sz_b1908 : h0.size ≤ b1908 := Nat.le_trans Ku84.1 u1921
        have g_b1909 : n0 ≤ b1909 := Nat.le_trans (own_z Ou84) u1923
        have sz_b1909 : h0.size ≤ b1909 := Nat.le_trans Ku84.1 u1923
        have N1856 := Fr.app N14 u1920
        obtain ⟨T2464, h2464, X2464, e2464, E2464, A2464, D2464, -, st2464⟩ := newO X1856 hx hZ1856 hown1856 (hw _ (gw 29 rfl)) (hw _ (gw 30 rfl)) (hw _ (gw 31 rfl)) rfl (g := (mkF m 24 #[.val (.int p1), .val (.int p2), .val (.int p3), .val (.int i8), .val (.ref b66), .val (.ref b1908), .unset, .unset, .unset, .unset] [])) rfl (hb hby at_24) (by decide) (by decide)
        obtain ⟨b2464, g2464⟩ : ∃ z, z = T1856.heap.size := ⟨_, rfl⟩
        rw [← g2464] at A2464 D2464 st2464
        have O2464 : Old Z n0 h2464 := Ou1926.ext E2464
        have ch2464 := CHr.ext E2464 CRu1926.1
        have CR2464 := CRu1926.trans ch2464
        have bd_b2464 : T1856.heap.size ≤ b2464 := Nat.le_of_eq g2464.symm
        have g_b2464 : n0 ≤ b2464 := Nat.le_trans (own_z Ou1926) bd_b2464
        have sz_b2464 : h0.size ≤ b2464 := Nat.le_trans (Nat.le_trans Ku84.1 Ku1926.1) bd_b2464
        have lt_b2464 : b2464 < h2464.size := A2464.lt
        have sfb_b2464 : Safe Z own_EL T1856.vm h2464 b2464 := Safe.ext E2464 CRu1926.1 (Safe.new bd_b2464)
        have D2464_37 : Fld Z h2464 b2464 C_1 "written" C_2 .null := D2464 (Or.inr (hw _ (gw 37 rfl))) (ty := (.object "java/lang/String")) (by decide)
        obtain ⟨_, _, ⟨T2465, L2465, k2465, n2465⟩, -, X2465, ⟨Lc2465, hQ2465, l2465, y2465, z2465⟩, st2465⟩ := X2464.specialBack hx (y := M_11) rfl hown1856 (mvT hZ1856 (hw _ (gw 32 rfl))) (mvT hZ1856 (hw _ (gw 33 rfl))) (mvT hZ1856 (hw _ (gw 34 rfl))) (by decide) (backOf (W := 1) (rm6_15 l Z a0 hw [] b2464 b66 h2464 n0  O2464 A2464 D2464_37 g_b2464) hZ1856 (hw _ (gw 34 rfl)) (hw _ (gw 31 rfl)) (by decide) (by decide)) (g := (mkF m 30 #[.val (.int p1), .val (.int p2), .val (.int p3), .val (.int i8), .val (.ref b66), .val (.ref b1908), .unset, .unset, .unset, .unset] [(.ref b66), (.ref b2464), (.ref b2464)])) rfl (by rw [hml]; rfl) (Steps.refl _) (a := b2464) (argsL := [(.ref b66)]) (rest := [(.ref b2464)]) (lenOf pd_11 rfl) rfl (by show 2 * 0 + _ ≤ _; exact Nat.le_of_eq rfl) (hb hby at_30) (fun _ _ => ⟨rfl, e2464, (by decide : 13 + 0 ≤ _), (by decide : 25 + 0 ≤ _)⟩)
        dsimp only [Pt.U, Pt.locs, Pt.cells, Pt.slots] at X2465 l2465 y2465 z2465 st2465 hQ2465
        subst l2465 y2465 z2465
        obtain ⟨rfl, u2467, Ku2468, u2469, u2470⟩ := hQ2465
        have Ou2468 : Old Z n0 T2465.heap := O2464.keep Ku2468 (allS g_b2464 all0)
        have chu2468 := CHr.keep Ku2468 (allS (Safe.exa hZ1856.alike A2464 (by decide) (by decide)) all0) CR2464.1
        have CRu2468 := CR2464.trans chu2468
        have N2465 := Fr.app N1856 u2467
        obtain ⟨i2471, hi2471⟩ : ∃ z, z = (p3 &&& (3 : Int32)) := ⟨_, rfl⟩
        have pre2472 : ∀ t, Steps p.tables e below (T2465.setTop (mkF m 42 #[.val (.int p1), .val (.int p2), .val (.int p3), .val (.int i8), .val (.ref b66), .val (.ref b1908), .val (.ref b2464), .val (.int i2471), .unset, .unset] [(.int i2471)])) t → Steps p.tables e below (s₁.setTop (entryFrame m #[(.int p1), (.int p2), (.int p3)] maxLocals)) t := by
          intro t kt
          refine pre1857 t ?_
          refine st1856.trans ?_
          show Steps p.tables e below (T1856.setTop (mkF m 22 #[.val (.int p1), .val (.int p2), .val (.int p3), .val (.int i8), .val (.ref b66), .unset, .unset, .unset, .unset, .unset] [(.ref b1908)])) _
          refine XS.astore X1856.here hx rfl (hb hby at_22) rfl rfl (l' := #[.val (.int p1), .val (.int p2), .val (.int p3), .val (.int i8), .val (.ref b66), .val (.ref b1908), .unset, .unset, .unset, .unset]) rfl ?_
          refine st2464 _ ?_
          refine XS.dup X2464.here hx rfl (hb hby at_27) rfl rfl ?_
          refine XS.aload X2464.here hx rfl (hb hby at_28) rfl rfl ?_
          refine st2465.trans ?_
          refine XS.astore X2465.here hx rfl (hb hby at_33) rfl rfl (l' := #[.val (.int p1), .val (.int p2), .val (.int p3), .val (.int i8), .val (.ref b66), .val (.ref b1908), .val (.ref b2464), .unset, .unset, .unset]) rfl ?_
          refine XS.iloadN X2465.here hx rfl (hb hby at_35) rfl ?_
          refine XS.iconst X2465.here hx rfl (hb hby at_36) ?_
          refine XS.iand X2465.here hx rfl (hb hby at_37) rfl ?_
          show Steps p.tables e below (T2465.setTop (mkF m 38 #[.val (.int p1), .val (.int p2), .val (.int p3), .val (.int i8), .val (.ref b66), .val (.ref b1908), .val (.ref b2464), .unset, .unset, .unset] [(.int (p3 &&& (3 : Int32)))])) _
          rw [← hi2471]
          refine XS.istore X2465.here hx rfl (hb hby at_38) rfl (l' := #[.val (.int p1), .val (.int p2), .val (.int p3), .val (.int i8), .val (.ref b66), .val (.ref b1908), .val (.ref b2464), .val (.int i2471), .unset, .unset]) rfl ?_
          refine XS.iload X2465.here hx rfl (hb hby at_40) rfl ?_
          exact kt
        by_cases hc2473 : i2471 = (0 : Int32)
        · skip
          subst hc2473
          obtain ⟨T2474, h2474, X2474, e2474, E2474, A2474, D2474, -, st2474⟩ := newO X2465 hx hZ1856 hown1856 (hw _ (gw 29 rfl)) (hw _ (gw 30 rfl)) (hw _ (gw 31 rfl)) rfl (g := (mkF m 45 #[.val (.int p1), .val (.int p2), .val (.int p3), .val (.int i8), .val (.ref b66), .val (.ref b1908), .val (.ref b2464), .val (.int (0 : Int32)), .unset, .unset] [])) rfl (hb hby at_45) (by decide) (by decide)
          obtain ⟨b2474, g2474⟩ : ∃ z, z = T2465.heap.size := ⟨_, rfl⟩
          rw [← g2474] at A2474 D2474 st2474
          have O2474 : Old Z n0 h2474 := Ou2468.ext E2474
          have ch2474 := CHr.ext E2474 CRu2468.1
          have CR2474 := CRu2468.trans ch2474
          have bd_b2474 : T2465.heap.size ≤ b2474 := Nat.le_of_eq g2474.symm
          have g_b2474 : n0 ≤ b2474 := Nat.le_trans (own_z Ou2468) bd_b2474
          have sz_b2474 : h0.size ≤ b2474 := Nat.le_trans (Nat.le_trans (Nat.le_trans (Nat.le_trans Ku84.1 Ku1926.1) E2464.1) Ku2468.1) bd_b2474
          have lt_b2474 : b2474 < h2474.size := A2474.lt
          have sfb_b2474 : Safe Z own_EL T1856.vm h2474 b2474 := Safe.ext E2474 CRu2468.1 (Safe.new bd_b2474)
          have D2474_37 : Fld Z h2474 b2474 C_1 "written" C_2 .null := D2474 (Or.inr (hw _ (gw 37 rfl))) (ty := (.object "java/lang/String")) (by decide)
          obtain ⟨_, _, ⟨T2475, L2475, k2475, n2475⟩, -, X2475, ⟨Lc2475, hQ2475, l2475, y2475, z2475⟩, st2475⟩ := X2474.specialBack hx (y := M_11) rfl hown1856 (mvT hZ1856 (hw _ (gw 32 rfl))) (mvT hZ1856 (hw _ (gw 33 rfl))) (mvT hZ1856 (hw _ (gw 34 rfl))) (by decide) (backOf (W := 1) (rm6_15 l Z a0 hw [] b2474 b1908 h2474 n0  O2474 A2474 D2474_37 g_b2474) hZ1856 (hw _ (gw 34 rfl)) (hw _ (gw 31 rfl)) (by decide) (by decide)) (g := (mkF m 51 #[.val (.int p1), .val (.int p2), .val (.int p3), .val (.int i8), .val (.ref b66), .val (.ref b1908), .val (.ref b2464), .val (.int (0 : Int32)), .unset, .unset] [(.ref b1908), (.ref b2474), (.ref b2474)])) rfl (by rw [hml]; rfl) (Steps.refl _) (a := b2474) (argsL := [(.ref b1908)]) (rest := [(.ref b2474)]) (lenOf pd_11 rfl) rfl (by show 2 * 0 + _ ≤ _; exact Nat.le_of_eq rfl) (hb hby at_51) (fun _ _ => ⟨rfl, e2474, (by decide : 14 + 0 ≤ _), (by decide : 26 + 0 ≤ _)⟩)
          dsimp only [Pt.U, Pt.locs, Pt.cells, Pt.slots] at X2475 l2475 y2475 z2475 st2475 hQ2475
          subst l2475 y2475 z2475
          obtain ⟨rfl, u2477, Ku2478, u2479, u2480⟩ := hQ2475
          have Ou2478 : Old Z n0 T2475.heap := O2474.keep Ku2478 (allS g_b2474 all0)
          have chu2478 := CHr.keep Ku2478 (allS (Safe.exa hZ1856.alike A2474 (by decide) (by decide)) all0) CR2474.1
          have CRu2478 := CR2474.trans chu2478
          have N2475 := Fr.app N2465 u2477
          have pre2482 : ∀ t, Steps p.tables e below (T2475.setTop (mkF m 58 #[.val (.int p1), .val (.int p2), .val (.int p3), .val (.int i8), .val (.ref b66), .val (.ref b1908), .val (.ref b2464), .val (.int (0 : Int32)), .val (.ref b2474), .unset] [(.int i8), (.int p1)])) t → Steps p.tables e below (s₁.setTop (entryFrame m #[(.int p1), (.int p2), (.int p3)] maxLocals)) t := by
            intro t kt
            refine pre2472 t ?_
            show Steps p.tables e below (T2465.setTop (mkF m 42 #[.val (.int p1), .val (.int p2), .val (.int p3), .val (.int i8), .val (.ref b66), .val (.ref b1908), .val (.ref b2464), .val (.int (0 : Int32)), .unset, .unset] [(.int (0 : Int32))])) _
            refine XS.ifNo X2465.here hx rfl (hb hby at_42) rfl ((if0 _ _).trans (teq (by decide +kernel : (0 : Int32) = (0 : Int32))).2) ?_
            refine st2474 _ ?_
            refine XS.dup X2474.here hx rfl (hb hby at_48) rfl rfl ?_
            refine XS.aload X2474.here hx rfl (hb hby at_49) rfl rfl ?_
            refine st2475.trans ?_
            refine XS.astore X2475.here hx rfl (hb hby at_54) rfl rfl (l' := #[.val (.int p1), .val (.int p2), .val (.int p3), .val (.int i8), .val (.ref b66), .val (.ref b1908), .val (.ref b2464), .val (.int (0 : Int32)), .val (.ref b2474), .unset]) rfl ?_
            refine XS.iloadN X2475.here hx rfl (hb hby at_56) rfl ?_
            refine XS.iloadN X2475.here hx rfl (hb hby at_57) rfl ?_
            show Steps p.tables e below (T2475.setTop (mkF m 58 #[.val (.int p1), .val (.int p2), .val (.int p3), .val (.int i8), .val (.ref b66), .val (.ref b1908), .val (.ref b2464), .val (.int (0 : Int32)), .val (.ref b2474), .unset] [(.int i8), (.int p1)])) _
            exact kt
          obtain ⟨_, _, ⟨T2481, L2481, k2481, n2481⟩, -, X2481, ⟨Lc2481, hQ2481, l2481, y2481, z2481⟩, st2481⟩ := Jvm.LawKit.callS X2475 hx (y := M_12) hown1856 (mvT hZ1856 (hw _ (gw 77 rfl))) (mvT hZ1856 (hw _ (gw 78 rfl))) (mvT hZ1856 (hw _ (gw 2 rfl))) (mvT hZ1856 (hw _ (gw 79 rfl))) (by decide) (backOf (W := 0) (rm16_16 l Z a0 hw [] p1 i8 T2475.heap n0  Ou2478) hZ1856 (hw _ (gw 79 rfl)) (hw _ (gw 2 rfl)) (by decide) (by decide)) (g := (mkF m 58 #[.val (.int p1), .val (.int p2), .val (.int p3), .val (.int i8), .val (.ref b66), .val (.ref b1908), .val (.ref b2464), .val (.int (0 : Int32)), .val (.ref b2474), .unset] [(.int i8), (.int p1)])) rfl (by rw [hml]; rfl) (argsL := [(.int p1), (.int i8)]) (rest := []) (lenOf pd_12 rfl) rfl (by show 2 * 0 + _ ≤ _; exact Nat.le_of_eq rfl) (hb hby at_58) (fun _ _ => ⟨rfl, rfl, (by decide : 14 + 0 ≤ _), (by decide : 26 + 0 ≤ _)⟩)
          dsimp only [Pt.U, Pt.locs, Pt.cells, Pt.slots] at X2481 l2481 y2481 z2481 st2481 hQ2481
          subst l2481 y2481 z2481
          rcases hQ2481 with ⟨i2483, i2484, i2485, i2486, u2487, u2488, u2489, u2490, u2491, u2492, rfl, u2494, u2495⟩ | ⟨i2496, i2497, i2498, i2499, u2500, u2501, u2502, u2503, u2504, u2505, rfl, u2507, u2508⟩ | ⟨i2509, i2510, i2511, i2512, u2513, u2514, u2515, u2516, u2517, u2518, rfl, u2520, u2521⟩ | ⟨i2522, i2523, i2524, i2525, u2526, u2527, u2528, u2529, u2530, u2531, rfl, u2533, u2534⟩ | ⟨i2535, i2536, i2537, i2538, i2539, i2540, u2541, u2542, u2543, u2544, u2545, u2546, u2547, u2548, u2549, rfl, u2551, u2552⟩ | ⟨i2553, i2554, i2555, i2556, i2557, i2558, u2559, u2560, u2561, u2562, u2563, u2564, u2565, u2566, u2567, rfl, u2569, u2570⟩ | ⟨i2571, i2572, i2573, i2574, u2575, u2576, u2577, u2578, u2579, u2580, rfl, u2582, u2583⟩ | ⟨i2584, i2585, i2586, i2587, u2588, u2589, u2590, u2591, u2592, u2593, rfl, u2595, u2596⟩ | ⟨i2597, i2598, i2599, i2600, u2601, u2602, u2603, u2604, u2605, u2606, rfl, u2608, u2609⟩ | ⟨i2610, i2611, i2612, i2613, i2614, i2615, i2616, i2617, i2618, i2619, u2620, u2621, u2622, u2623, u2624, u2625, u2626, u2627, u2628, u2629, u2630, u2631, u2632, u2633, rfl, u2635, u2636⟩ | ⟨i2637, i2638, i2639, i2640, i2641, i2642, i2643, i2644, i2645, i2646, u2647, u2648, u2649, u2650, u2651, u2652, u2653, u2654, u2655, u2656, u2657, u2658, u2659, u2660, rfl, u2662, u2663⟩ | ⟨i2664, i2665, i2666, i2667, i2668, i2669, u2670, u2671, u2672, u2673, u2674, u2675, u2676, u2677, u2678, rfl, u2680, u2681⟩
          · skip
            have N2481 := Fr.app N2475 u2494
            have pre2682 : ∀ t, Steps p.tables e below (T2481.setTop (mkF m 61 #[.val (.int p1), .val (.int p2), .val (.int p3), .val (.int i8), .val (.ref b66), .val (.ref b1908), .val (.ref b2464), .val (.int (0 : Int32)), .val (.ref b2474), .unset] [(.int (1 : Int32))])) t → Steps p.tables e below (s₁.setTop (entryFrame m #[(.int p1), (.int p2), (.int p3)] maxLocals)) t := by
              intro t kt
              refine pre2482 t ?_
              refine st2481 _ ?_
              exact kt
            obtain rfl : i60 = i2485 := (u2491.trans u75.symm).symm
            obtain rfl : i61 = i2486 := (u2489.trans u70.symm).symm
            exact absurd (u2487.trans u69.symm) (by decide +kernel)
          · skip
            have N2481 := Fr.app N2475 u2507
            have pre2683 : ∀ t, Steps p.tables e below (T2481.setTop (mkF m 61 #[.val (.int p1), .val (.int p2), .val (.int p3), .val (.int i8), .val (.ref b66), .val (.ref b1908), .val (.ref b2464), .val (.int (0 : Int32)), .val (.ref b2474), .unset] [(.int (0 : Int32))])) t → Steps p.tables e below (s₁.setTop (entryFrame m #[(.int p1), (.int p2), (.int p3)] maxLocals)) t := by
              intro t kt
              refine pre2482 t ?_
              refine st2481 _ ?_
              exact kt
            obtain rfl : i60 = i2498 := (u2504.trans u75.symm).symm
            obtain rfl : i61 = i2499 := (u2502.trans u70.symm).symm
            exact absurd (u2500.trans u69.symm) (by decide +kernel)
          · skip
            have N2481 := Fr.app N2475 u2520
            have pre2684 : ∀ t, Steps p.tables e below (T2481.setTop (mkF m 61 #[.val (.int p1), .val (.int p2), .val (.int p3), .val (.int i8), .val (.ref b66), .val (.ref b1908), .val (.ref b2464), .val (.int (0 : Int32)), .val (.ref b2474), .unset] [(.int (0 : Int32))])) t → Steps p.tables e below (s₁.setTop (entryFrame m #[(.int p1), (.int p2), (.int p3)] maxLocals)) t := by
              intro t kt
              refine pre2482 t ?_
              refine st2481 _ ?_
              exact kt
            obtain rfl : i60 = i2511 := (u2517.trans u75.symm).symm
            obtain rfl : i61 = i2512 := (u2515.trans u70.symm).symm
            exact absurd (u2513.trans u69.symm) (by decide +kernel)
          · skip
            have N2481 := Fr.app N2475 u2533
            have pre2685 : ∀ t, Steps p.tables e below (T2481.setTop (mkF m 61 #[.val (.int p1), .val (.int p2), .val (.int p3), .val (.int i8), .val (.ref b66), .val (.ref b1908), .val (.ref b2464), .val (.int (0 : Int32)), .val (.ref b2474), .unset] [(.int (0 : Int32))])) t → Steps p.tables e below (s₁.setTop (entryFrame m #[(.int p1), (.int p2), (.int p3)] maxLocals)) t := by
              intro t kt
              refine pre2482 t ?_
              refine st2481 _ ?_
              exact kt
            obtain rfl : i60 = i2522 := (u2530.trans u75.symm).symm
            obtain rfl : i61 = i2523 := (u2528.trans u70.symm).symm
            exact absurd (u2526.trans u69.symm) (by decide +kernel)
          · skip
            have N2481 := Fr.app N2475 u2551
            have pre2686 : ∀ t, Steps p.tables e below (T2481.setTop (mkF m 61 #[.val (.int p1), .val (.int p2), .val (.int p3), .val (.int i8), .val (.ref b66), .val (.ref b1908), .val (.ref b2464), .val (.int (0 : Int32)), .val (.ref b2474), .unset] [(.int (1 : Int32))])) t → Steps p.tables e below (s₁.setTop (entryFrame m #[(.int p1), (.int p2), (.int p3)] maxLocals)) t := by
              intro t kt
              refine pre2482 t ?_
              refine st2481 _ ?_
              exact kt
            obtain rfl : i59 = i2539 := (u2545.trans u73.symm).symm
            obtain rfl : i1901 = i2540 := (u2546.trans u1915.symm).symm
            obtain rfl : i60 = i2535 := (u2547.trans u75.symm).symm
            obtain rfl : i61 = i2536 := (u2543.trans u70.symm).symm
            exact absurd (u2541.trans u69.symm) (by decide +kernel)
          · skip
            have N2481 := Fr.app N2475 u2569
            have pre2687 : ∀ t, Steps p.tables e below (T2481.setTop (mkF m 61 #[.val (.int p1), .val (.int p2), .val (.int p3), .val (.int i8), .val (.ref b66), .val (.ref b1908), .val (.ref b2464), .val (.int (0 : Int32)), .val (.ref b2474), .unset] [(.int (0 : Int32))])) t → Steps p.tables e below (s₁.setTop (entryFrame m #[(.int p1), (.int p2), (.int p3)] maxLocals)) t := by
              intro t kt
              refine pre2482 t ?_
              refine st2481 _ ?_
              exact kt
            obtain rfl : i59 = i2557 := (u2563.trans u73.symm).symm
            obtain rfl : i1901 = i2558 := (u2564.trans u1915.symm).symm
            obtain rfl : i60 = i2553 := (u2565.trans u75.symm).symm
            obtain rfl : i61 = i2554 := (u2561.trans u70.symm).symm
            exact absurd (u2559.trans u69.symm) (by decide +kernel)
          · skip
            have N2481 := Fr.app N2475 u2582
            have pre2688 : ∀ t, Steps p.tables e below (T2481.setTop (mkF m 61 #[.val (.int p1), .val (.int p2), .val (.int p3), .val (.int i8), .val (.ref b66), .val (.ref b1908), .val (.ref b2464), .val (.int (0 : Int32)), .val (.ref b2474), .unset] [(.int (0 : Int32))])) t → Steps p.tables e below (s₁.setTop (entryFrame m #[(.int p1), (.int p2), (.int p3)] maxLocals)) t := by
              intro t kt
              refine pre2482 t ?_
              refine st2481 _ ?_
              exact kt
            obtain rfl : i60 = i2571 := (u2579.trans u75.symm).symm
            obtain rfl : i61 = i2572 := (u2577.trans u70.symm).symm
            exact absurd (u2575.trans u69.symm) (by decide +kernel)
          · skip
            have N2481 := Fr.app N2475 u2595
            have pre2689 : ∀ t, Steps p.tables e below (T2481.setTop (mkF m 61 #[.val (.int p1), .val (.int p2), .val (.int p3), .val (.int i8), .val (.ref b66), .val (.ref b1908), .val (.ref b2464), .val (.int (0 : Int32)), .val (.ref b2474), .unset] [(.int (0 : Int32))])) t → Steps p.tables e below (s₁.setTop (entryFrame m #[(.int p1), (.int p2), (.int p3)] maxLocals)) t := by
              intro t kt
              refine pre2482 t ?_
              refine st2481 _ ?_
              exact kt
            obtain rfl : i60 = i2584 := (u2592.trans u75.symm).symm
            obtain rfl : i61 = i2585 := (u2590.trans u70.symm).symm
            obtain rfl : i1902 = i2586 := (u2593.trans u1917.symm).symm
            obtain rfl : i1903 = i2587 := (u2591.trans u1912.symm).symm
            exact absurd (u2589.trans u1911.symm) (by decide +kernel)
          · skip
            have N2481 := Fr.app N2475 u2608
            have pre2690 : ∀ t, Steps p.tables e below (T2481.setTop (mkF m 61 #[.val (.int p1), .val (.int p2), .val (.int p3), .val (.int i8), .val (.ref b66), .val (.ref b1908), .val (.ref b2464), .val (.int (0 : Int32)), .val (.ref b2474), .unset] [(.int (0 : Int32))])) t → Steps p.tables e below (s₁.setTop (entryFrame m #[(.int p1), (.int p2), (.int p3)] maxLocals)) t := by
              intro t kt
              refine pre2482 t ?_
              refine st2481 _ ?_
              exact kt
            obtain rfl : i60 = i2597 := (u2605.trans u75.symm).symm
            obtain rfl : i61 = i2598 := (u2603.trans u70.symm).symm
            obtain rfl : i1902 = i2599 := (u2606.trans u1917.symm).symm
            obtain rfl : i1903 = i2600 := (u2604.trans u1912.symm).symm
            exact absurd (u2602.trans u1911.symm) (by decide +kernel)
          · skip
            have N2481 := Fr.app N2475 u2635
            have pre2691 : ∀ t, Steps p.tables e below (T2481.setTop (mkF m 61 #[.val (.int p1), .val (.int p2), .val (.int p3), .val (.int i8), .val (.ref b66), .val (.ref b1908), .val (.ref b2464), .val (.int (0 : Int32)), .val (.ref b2474), .unset] [(.int (1 : Int32))])) t → Steps p.tables e below (s₁.setTop (entryFrame m #[(.int p1), (.int p2), (.int p3)] maxLocals)) t := by
              intro t kt
              refine pre2482 t ?_
              refine st2481 _ ?_
              exact kt
            obtain rfl : i59 = i2612 := (u2624.trans u73.symm).symm
            obtain rfl : i1901 = i2613 := (u2625.trans u1915.symm).symm
            obtain rfl : i60 = i2618 := (u2628.trans u75.symm).symm
            obtain rfl : i61 = i2619 := (u2622.trans u70.symm).symm
            obtain rfl : i1902 = i2610 := (u2629.trans u1917.symm).symm
            obtain rfl : i1903 = i2611 := (u2623.trans u1912.symm).symm
            obtain rfl : i62 = i2614 := (u2630.trans u76.symm).symm
            obtain rfl : i63 = i2615 := (u2626.trans u74.symm).symm
            obtain rfl : i1904 = i2616 := (u2631.trans u1918.symm).symm
            obtain rfl : i1905 = i2617 := (u2627.trans u1916.symm).symm
            have f2692 : Fld Z T2475.heap b2464 C_1 "written" C_2 (.ref b66) := ((Fld.ext E2474 u2470).keep Ku2478 (ninS (Nat.ne_of_lt (Nat.lt_of_lt_of_le (Nat.lt_of_lt_of_le lt_b2464 Ku2468.1) bd_b2474)) nin0))
            have f2693 : Exa Z T2475.heap b1908 C_0 := ((Exa.ext E2474 ((Exa.ext E2464 u1927).keep Ku2468)).keep Ku2478)
            have f2694 : Exa Z T2475.heap b66 C_0 := ((Exa.ext E2474 ((Exa.ext E2464 (u85.keep Ku1926)).keep Ku2468)).keep Ku2478)
            have f2695 : Fld Z T2475.heap b1908 C_0 "coder" "B" (.int (0 : Int32)) := ((Fld.ext E2474 ((Fld.ext E2464 u1928).keep Ku2468 (ninS (Nat.ne_of_lt (Nat.lt_of_lt_of_le u1922 bd_b2464)) nin0))).keep Ku2478 (ninS (Nat.ne_of_lt (Nat.lt_of_lt_of_le (Nat.lt_of_lt_of_le (Nat.lt_of_lt_of_le u1922 E2464.1) Ku2468.1) bd_b2474)) nin0))
            have f2696 : Fld Z T2475.heap b66 C_0 "coder" "B" (.int (0 : Int32)) := ((Fld.ext E2474 ((Fld.ext E2464 (u86.keep Ku1926 nin0)).keep Ku2468 (ninS (Nat.ne_of_lt (Nat.lt_of_lt_of_le (Nat.lt_of_lt_of_le u80 Ku1926.1) bd_b2464)) nin0))).keep Ku2478 (ninS (Nat.ne_of_lt (Nat.lt_of_lt_of_le (Nat.lt_of_lt_of_le (Nat.lt_of_lt_of_le (Nat.lt_of_lt_of_le u80 Ku1926.1) E2464.1) Ku2468.1) bd_b2474)) nin0))
            have f2697 : Fld Z T2475.heap b1908 C_0 "value" "[B" (.ref b1909) := ((Fld.ext E2474 ((Fld.ext E2464 u1929).keep Ku2468 (ninS (Nat.ne_of_lt (Nat.lt_of_lt_of_le u1922 bd_b2464)) nin0))).keep Ku2478 (ninS (Nat.ne_of_lt (Nat.lt_of_lt_of_le (Nat.lt_of_lt_of_le (Nat.lt_of_lt_of_le u1922 E2464.1) Ku2468.1) bd_b2474)) nin0))
            have f2698 : Fld Z T2475.heap b66 C_0 "value" "[B" (.ref b67) := ((Fld.ext E2474 ((Fld.ext E2464 (u87.keep Ku1926 nin0)).keep Ku2468 (ninS (Nat.ne_of_lt (Nat.lt_of_lt_of_le (Nat.lt_of_lt_of_le u80 Ku1926.1) bd_b2464)) nin0))).keep Ku2478 (ninS (Nat.ne_of_lt (Nat.lt_of_lt_of_le (Nat.lt_of_lt_of_le (Nat.lt_of_lt_of_le (Nat.lt_of_lt_of_le u80 Ku1926.1) E2464.1) Ku2468.1) bd_b2474)) nin0))
            have f2699 : Arv Z T2475.heap b1909 k1910 .byte (2 : Int32) [(.int i1907), (.int i1906)] (.int (0 : Int32)) := ((((u1931.ext E2464).keep Ku2468 (ninS (Nat.ne_of_lt (Nat.lt_of_lt_of_le u1924 bd_b2464)) nin0)).ext E2474).keep Ku2478 (ninS (Nat.ne_of_lt (Nat.lt_of_lt_of_le (Nat.lt_of_lt_of_le (Nat.lt_of_lt_of_le u1924 E2464.1) Ku2468.1) bd_b2474)) nin0))
            have f2700 : Arv Z T2475.heap b67 k68 .byte (2 : Int32) [(.int i65), (.int i64)] (.int (0 : Int32)) := (((((u89.keep Ku1926 nin0).ext E2464).keep Ku2468 (ninS (Nat.ne_of_lt (Nat.lt_of_lt_of_le (Nat.lt_of_lt_of_le u82 Ku1926.1) bd_b2464)) nin0)).ext E2474).keep Ku2478 (ninS (Nat.ne_of_lt (Nat.lt_of_lt_of_le (Nat.lt_of_lt_of_le (Nat.lt_of_lt_of_le (Nat.lt_of_lt_of_le u82 Ku1926.1) E2464.1) Ku2468.1) bd_b2474)) nin0))
            have f2702 : Exa Z T2475.heap b2464 C_1 := ((Exa.ext E2474 u2469).keep Ku2478)
            obtain ⟨cq2701, kq2701, q2701a, q2701b, q2701c⟩ := isOf hZ1856 u2636 f2702
            obtain ⟨_, _, ⟨T2701, L2701, k2701, n2701⟩, -, X2701, ⟨Lc2701, hQ2701, l2701, y2701, z2701⟩, st2701⟩ := X2481.virtualBack hx (y := M_15) (z := M_15) hown1856 (mvT hZ1856 (hw _ (gw 38 rfl))) (mvT hZ1856 (hw _ (gw 39 rfl))) (notFace_of_selects (args := #[]) (mvT hZ1856 (hw _ (gw 41 rfl)))) (mvT hZ1856 (hw _ (gw 41 rfl))) (mvT hZ1856 (hw _ (gw 40 rfl))) (by decide) (backOf (W := 0) (rm7_48 l Z a0 hw [] b2464 b2474 b1908 b66 p11 b1909 b67 i1907 i1906 k1910 i65 i64 k68 T2475.heap n0  Ou2478 u2479 u2480 f2692 f2693 (Ne.symm (Nat.ne_of_lt (Nat.lt_of_lt_of_le u80 u1921))) f2694 S_12 hk13 f2695 f2696 f2697 f2698 f2699 f2700 (own_beq (u := 0) (v := 0) u1913 u71 u2632.symm) (own_beq (u := 0) (v := 0) u1914 u72 u2633.symm)) hZ1856 (hw _ (gw 42 rfl)) (hw _ (gw 31 rfl)) (by decide) (by decide)) q2701a q2701c (g := (mkF m 67 #[.val (.int p1), .val (.int p2), .val (.int p3), .val (.int i8), .val (.ref b66), .val (.ref b1908), .val (.ref b2464), .val (.int (0 : Int32)), .val (.ref b2474), .val (.int (1 : Int32))] [(.ref b2474), (.ref b2464)])) rfl (by rw [hml]; rfl) (Steps.refl _) (argsL := [(.ref b2474)]) (rest := []) (lenOf pd_14 rfl) rfl (by show 2 * 0 + _ ≤ _; exact Nat.le_of_eq rfl) (hb hby at_67) (fun _ _ => ⟨rfl, u2636, (by decide : 14 + 0 ≤ _), (by decide : 26 + 0 ≤ _)⟩)
            dsimp only [Pt.U, Pt.locs, Pt.cells, Pt.slots] at X2701 l2701 y2701 z2701 st2701 hQ2701
            subst l2701 y2701 z2701
            obtain ⟨rfl, u2704, u2705⟩ := hQ2701
            have N2701 := Fr.app N2481 u2704
            obtain ⟨cq2706, kq2706, q2706a, q2706b, q2706c⟩ := isOf hZ1856 u2705 u2479
            obtain ⟨_, _, ⟨T2706, L2706, k2706, n2706⟩, -, X2706, ⟨Lc2706, hQ2706, l2706, y2706, z2706⟩, st2706⟩ := X2701.virtualBack hx (y := M_15) (z := M_15) hown1856 (mvT hZ1856 (hw _ (gw 38 rfl))) (mvT hZ1856 (hw _ (gw 39 rfl))) (notFace_of_selects (args := #[]) (mvT hZ1856 (hw _ (gw 41 rfl)))) (mvT hZ1856 (hw _ (gw 41 rfl))) (mvT hZ1856 (hw _ (gw 40 rfl))) (by decide) (backOf (W := 0) (rm7_48 l Z a0 hw [] b2474 b2464 b66 b1908 p11 b67 b1909 i65 i64 k68 i1907 i1906 k1910 T2475.heap n0  Ou2478 f2702 f2692 u2480 f2694 (Nat.ne_of_lt (Nat.lt_of_lt_of_le u80 u1921)) f2693 S_12 hk13 f2696 f2695 f2698 f2697 f2700 f2699 (own_beq (u := 0) (v := 0) u71 u1913 u2632) (own_beq (u := 0) (v := 0) u72 u1914 u2633)) hZ1856 (hw _ (gw 42 rfl)) (hw _ (gw 31 rfl)) (by decide) (by decide)) q2706a q2706c (g := (mkF m 79 #[.val (.int p1), .val (.int p2), .val (.int p3), .val (.int i8), .val (.ref b66), .val (.ref b1908), .val (.ref b2464), .val (.int (0 : Int32)), .val (.ref b2474), .val (.int (1 : Int32))] [(.ref b2464), (.ref b2474)])) rfl (by rw [hml]; rfl) (Steps.refl _) (argsL := [(.ref b2464)]) (rest := []) (lenOf pd_14 rfl) rfl (by show 2 * 0 + _ ≤ _; exact Nat.le_of_eq rfl) (hb hby at_79) (fun _ _ => ⟨rfl, u2705, (by decide : 14 + 0 ≤ _), (by decide : 26 + 0 ≤ _)⟩)
            dsimp only [Pt.U, Pt.locs, Pt.cells, Pt.slots] at X2706 l2706 y2706 z2706 st2706 hQ2706
            subst l2706 y2706 z2706
            obtain ⟨rfl, u2708, u2709⟩ := hQ2706
            have N2706 := Fr.app N2701 u2708
            obtain ⟨fs, hr, hrun, hended, hEnd⟩ := X2706.leaveW (s := s) (vm₁ := T1856.vm) hS1856 (by rw [u2709]; exact (Nat.le_trans (Nat.le_trans (Nat.le_trans (Nat.le_trans (Nat.le_refl _) E2464.1) Ku2468.1) E2474.1) Ku2478.1)) (v := some (.int (1 : Int32))) (fun h => by rw [Bd.returns] at h; cases h)
            refine hno ⟨_, _, pre2691 _ ?_, hrun, hended, _, _, rfl, ?_, hEnd.1, hEnd.2.1, hEnd.2.2.1, hEnd.2.2.2.mono (by decide) (by decide)⟩
            · show Steps p.tables e below (T2481.setTop (mkF m 61 #[.val (.int p1), .val (.int p2), .val (.int p3), .val (.int i8), .val (.ref b66), .val (.ref b1908), .val (.ref b2464), .val (.int (0 : Int32)), .val (.ref b2474), .unset] [(.int (1 : Int32))])) _
              refine XS.istore X2481.here hx rfl (hb hby at_61) rfl (l' := #[.val (.int p1), .val (.int p2), .val (.int p3), .val (.int i8), .val (.ref b66), .val (.ref b1908), .val (.ref b2464), .val (.int (0 : Int32)), .val (.ref b2474), .val (.int (1 : Int32))]) rfl ?_
              refine XS.aload X2481.here hx rfl (hb hby at_63) rfl rfl ?_
              refine XS.aload X2481.here hx rfl (hb hby at_65) rfl rfl ?_
              refine st2701.trans ?_
              refine XS.iload X2701.here hx rfl (hb hby at_70) rfl ?_
              refine XS.icmpNo X2701.here hx rfl (hb hby at_72) rfl (teq (by decide +kernel : (1 : Int32) = (1 : Int32))).2 ?_
              refine XS.aload X2701.here hx rfl (hb hby at_75) rfl rfl ?_
              refine XS.aload X2701.here hx rfl (hb hby at_77) rfl rfl ?_
              refine st2706.trans ?_
              show Steps p.tables e below (T2706.setTop (mkF m 82 #[.val (.int p1), .val (.int p2), .val (.int p3), .val (.int i8), .val (.ref b66), .val (.ref b1908), .val (.ref b2464), .val (.int (0 : Int32)), .val (.ref b2474), .val (.int (1 : Int32))] [(.int (1 : Int32))])) _
              refine XS.iload X2706.here hx rfl (hb hby at_82) rfl ?_
              refine XS.icmpNo X2706.here hx rfl (hb hby at_84) rfl (teq (by decide +kernel : (1 : Int32) = (1 : Int32))).2 ?_
              refine XS.iconst X2706.here hx rfl (hb hby at_87) ?_
              refine XS.goto X2706.here hx rfl (pc0 := 88) (pc' := 92) rfl (hb hby at_88) (by decide) (by decide) ?_
              show Steps p.tables e below (T2706.setTop (mkF m 92 #[.val (.int p1), .val (.int p2), .val (.int p3), .val (.int i8), .val (.ref b66), .val (.ref b1908), .val (.ref b2464), .val (.int (0 : Int32)), .val (.ref b2474), .val (.int (1 : Int32))] [(.int (1 : Int32))])) _
              exact retN X2706 hx (t := .boolean) Bd.returns (by simp) (hb hby at_92) hr
            · show Q0 Z _ _ _ _ h0 n0 _ T2706.heap _
              rw [u2709]
              exact ⟨rfl, N2706⟩
          · skip
            have N2481 := Fr.app N2475 u2662
            have pre2710 : ∀ t, Steps p.tables e below (T2481.setTop (mkF m 61 #[.val (.int p1), .val (.int p2), .val (.int p3), .val (.int i8), .val (.ref b66), .val (.ref b1908), .val (.ref b2464), .val (.int (0 : Int32)), .val (.ref b2474), .unset] [(.int (0 : Int32))])) t → Steps p.tables e below (s₁.setTop (entryFrame m #[(.int p1), (.int p2), (.int p3)] maxLocals)) t := by
              intro t kt
              refine pre2482 t ?_
              refine st2481 _ ?_
              exact kt
            obtain rfl : i59 = i2639 := (u2651.trans u73.symm).symm
            obtain rfl : i1901 = i2640 := (u2652.trans u1915.symm).symm
            obtain rfl : i60 = i2645 := (u2655.trans u75.symm).symm
            obtain rfl : i61 = i2646 := (u2649.trans u70.symm).symm
            obtain rfl : i1902 = i2637 := (u2656.trans u1917.symm).symm
            obtain rfl : i1903 = i2638 := (u2650.trans u1912.symm).symm
            obtain rfl : i62 = i2641 := (u2657.trans u76.symm).symm
            obtain rfl : i63 = i2642 := (u2653.trans u74.symm).symm
            obtain rfl : i1904 = i2643 := (u2658.trans u1918.symm).symm
            obtain rfl : i1905 = i2644 := (u2654.trans u1916.symm).symm
            have f2711 : Fld Z T2475.heap b2464 C_1 "written" C_2 (.ref b66) := ((Fld.ext E2474 u2470).keep Ku2478 (ninS (Nat.ne_of_lt (Nat.lt_of_lt_of_le (Nat.lt_of_lt_of_le lt_b2464 Ku2468.1) bd_b2474)) nin0))
            have f2712 : Exa Z T2475.heap b1908 C_0 := ((Exa.ext E2474 ((Exa.ext E2464 u1927).keep Ku2468)).keep Ku2478)
            have f2713 : Exa Z T2475.heap b66 C_0 := ((Exa.ext E2474 ((Exa.ext E2464 (u85.keep Ku1926)).keep Ku2468)).keep Ku2478)
            have f2714 : Fld Z T2475.heap b1908 C_0 "coder" "B" (.int (0 : Int32)) := ((Fld.ext E2474 ((Fld.ext E2464 u1928).keep Ku2468 (ninS (Nat.ne_of_lt (Nat.lt_of_lt_of_le u1922 bd_b2464)) nin0))).keep Ku2478 (ninS (Nat.ne_of_lt (Nat.lt_of_lt_of_le (Nat.lt_of_lt_of_le (Nat.lt_of_lt_of_le u1922 E2464.1) Ku2468.1) bd_b2474)) nin0))
            have f2715 : Fld Z T2475.heap b66 C_0 "coder" "B" (.int (0 : Int32)) := ((Fld.ext E2474 ((Fld.ext E2464 (u86.keep Ku1926 nin0)).keep Ku2468 (ninS (Nat.ne_of_lt (Nat.lt_of_lt_of_le (Nat.lt_of_lt_of_le u80 Ku1926.1) bd_b2464)) nin0))).keep Ku2478 (ninS (Nat.ne_of_lt (Nat.lt_of_lt_of_le (Nat.lt_of_lt_of_le (Nat.lt_of_lt_of_le (Nat.lt_of_lt_of_le u80 Ku1926.1) E2464.1) Ku2468.1) bd_b2474)) nin0))
            have f2716 : Fld Z T2475.heap b1908 C_0 "value" "[B" (.ref b1909) := ((Fld.ext E2474 ((Fld.ext E2464 u1929).keep Ku2468 (ninS (Nat.ne_of_lt (Nat.lt_of_lt_of_le u1922 bd_b2464)) nin0))).keep Ku2478 (ninS (Nat.ne_of_lt (Nat.lt_of_lt_of_le (Nat.lt_of_lt_of_le (Nat.lt_of_lt_of_le u1922 E2464.1) Ku2468.1) bd_b2474)) nin0))
            have f2717 : Fld Z T2475.heap b66 C_0 "value" "[B" (.ref b67) := ((Fld.ext E2474 ((Fld.ext E2464 (u87.keep Ku1926 nin0)).keep Ku2468 (ninS (Nat.ne_of_lt (Nat.lt_of_lt_of_le (Nat.lt_of_lt_of_le u80 Ku1926.1) bd_b2464)) nin0))).keep Ku2478 (ninS (Nat.ne_of_lt (Nat.lt_of_lt_of_le (Nat.lt_of_lt_of_le (Nat.lt_of_lt_of_le (Nat.lt_of_lt_of_le u80 Ku1926.1) E2464.1) Ku2468.1) bd_b2474)) nin0))
            have f2718 : Arv Z T2475.heap b1909 k1910 .byte (2 : Int32) [(.int i1907), (.int i1906)] (.int (0 : Int32)) := ((((u1931.ext E2464).keep Ku2468 (ninS (Nat.ne_of_lt (Nat.lt_of_lt_of_le u1924 bd_b2464)) nin0)).ext E2474).keep Ku2478 (ninS (Nat.ne_of_lt (Nat.lt_of_lt_of_le (Nat.lt_of_lt_of_le (Nat.lt_of_lt_of_le u1924 E2464.1) Ku2468.1) bd_b2474)) nin0))
            have f2719 : Arv Z T2475.heap b67 k68 .byte (2 : Int32) [(.int i65), (.int i64)] (.int (0 : Int32)) := (((((u89.keep Ku1926 nin0).ext E2464).keep Ku2468 (ninS (Nat.ne_of_lt (Nat.lt_of_lt_of_le (Nat.lt_of_lt_of_le u82 Ku1926.1) bd_b2464)) nin0)).ext E2474).keep Ku2478 (ninS (Nat.ne_of_lt (Nat.lt_of_lt_of_le (Nat.lt_of_lt_of_le (Nat.lt_of_lt_of_le (Nat.lt_of_lt_of_le u82 Ku1926.1) E2464.1) Ku2468.1) bd_b2474)) nin0))
            have f2721 : Exa Z T2475.heap b2464 C_1 := ((Exa.ext E2474 u2469).keep Ku2478)
            obtain ⟨cq2720, kq2720, q2720a, q2720b, q2720c⟩ := isOf hZ1856 u2663 f2721
            obtain ⟨_, _, ⟨T2720, L2720, k2720, n2720⟩, -, X2720, ⟨Lc2720, hQ2720, l2720, y2720, z2720⟩, st2720⟩ := X2481.virtualBack hx (y := M_15) (z := M_15) hown1856 (mvT hZ1856 (hw _ (gw 38 rfl))) (mvT hZ1856 (hw _ (gw 39 rfl))) (notFace_of_selects (args := #[]) (mvT hZ1856 (hw _ (gw 41 rfl)))) (mvT hZ1856 (hw _ (gw 41 rfl))) (mvT hZ1856 (hw _ (gw 40 rfl))) (by decide) (backOf (W := 0) (rm7_51 l Z a0 hw [] b2464 b2474 b1908 b66 p11 b1909 b67 i1907 i1906 k1910 i65 i64 k68 T2475.heap n0  Ou2478 u2479 u2480 f2711 f2712 (Ne.symm (Nat.ne_of_lt (Nat.lt_of_lt_of_le u80 u1921))) f2713 S_12 hk13 f2714 f2715 f2716 f2717 f2718 f2719 (own_beq (u := 0) (v := 0) u1913 u71 u2659.symm) (own_bne u1914 u72 u1916 u74 (fun q => u2660 q.symm))) hZ1856 (hw _ (gw 42 rfl)) (hw _ (gw 31 rfl)) (by decide) (by decide)) q2720a q2720c (g := (mkF m 67 #[.val (.int p1), .val (.int p2), .val (.int p3), .val (.int i8), .val (.ref b66), .val (.ref b1908), .val (.ref b2464), .val (.int (0 : Int32)), .val (.ref b2474), .val (.int (0 : Int32))] [(.ref b2474), (.ref b2464)])) rfl (by rw [hml]; rfl) (Steps.refl _) (argsL := [(.ref b2474)]) (rest := []) (lenOf pd_14 rfl) rfl (by show 2 * 0 + _ ≤ _; exact Nat.le_of_eq rfl) (hb hby at_67) (fun _ _ => ⟨rfl, u2663, (by decide : 14 + 0 ≤ _), (by decide : 26 + 0 ≤ _)⟩)
            dsimp only [Pt.U, Pt.locs, Pt.cells, Pt.slots] at X2720 l2720 y2720 z2720 st2720 hQ2720
            subst l2720 y2720 z2720
            obtain ⟨rfl, u2723, u2724⟩ := hQ2720
            have N2720 := Fr.app N2481 u2723
            obtain ⟨cq2725, kq2725, q2725a, q2725b, q2725c⟩ := isOf hZ1856 u2724 u2479
            obtain ⟨_, _, ⟨T2725, L2725, k2725, n2725⟩, -, X2725, ⟨Lc2725, hQ2725, l2725, y2725, z2725⟩, st2725⟩ := X2720.virtualBack hx (y := M_15) (z := M_15) hown1856 (mvT hZ1856 (hw _ (gw 38 rfl))) (mvT hZ1856 (hw _ (gw 39 rfl))) (notFace_of_selects (args := #[]) (mvT hZ1856 (hw _ (gw 41 rfl)))) (mvT hZ1856 (hw _ (gw 41 rfl))) (mvT hZ1856 (hw _ (gw 40 rfl))) (by decide) (backOf (W := 0) (rm7_51 l Z a0 hw [] b2474 b2464 b66 b1908 p11 b67 b1909 i65 i64 k68 i1907 i1906 k1910 T2475.heap n0  Ou2478 f2721 f2711 u2480 f2713 (Nat.ne_of_lt (Nat.lt_of_lt_of_le u80 u1921)) f2712 S_12 hk13 f2715 f2714 f2717 f2716 f2719 f2718 (own_beq (u := 0) (v := 0) u71 u1913 u2659) (own_bne u72 u1914 u74 u1916 u2660)) hZ1856 (hw _ (gw 42 rfl)) (hw _ (gw 31 rfl)) (by decide) (by decide)) q2725a q2725c (g := (mkF m 79 #[.val (.int p1), .val (.int p2), .val (.int p3), .val (.int i8), .val (.ref b66), .val (.ref b1908), .val (.ref b2464), .val (.int (0 : Int32)), .val (.ref b2474), .val (.int (0 : Int32))] [(.ref b2464), (.ref b2474)])) rfl (by rw [hml]; rfl) (Steps.refl _) (argsL := [(.ref b2464)]) (rest := []) (lenOf pd_14 rfl) rfl (by show 2 * 0 + _ ≤ _; exact Nat.le_of_eq rfl) (hb hby at_79) (fun _ _ => ⟨rfl, u2724, (by decide : 14 + 0 ≤ _), (by decide : 26 + 0 ≤ _)⟩)
            dsimp only [Pt.U, Pt.locs, Pt.cells, Pt.slots] at X2725 l2725 y2725 z2725 st2725 hQ2725
            subst l2725 y2725 z2725
            obtain ⟨rfl, u2727, u2728⟩ := hQ2725
            have N2725 := Fr.app N2720 u2727
            obtain ⟨fs, hr, hrun, hended, hEnd⟩ := X2725.leaveW (s := s) (vm₁ := T1856.vm) hS1856 (by rw [u2728]; exact (Nat.le_trans (Nat.le_trans (Nat.le_trans (Nat.le_trans (Nat.le_refl _) E2464.1) Ku2468.1) E2474.1) Ku2478.1)) (v := some (.int (1 : Int32))) (fun h => by rw [Bd.returns] at h; cases h)
            refine hno ⟨_, _, pre2710 _ ?_, hrun, hended, _, _, rfl, ?_, hEnd.1, hEnd.2.1, hEnd.2.2.1, hEnd.2.2.2.mono (by decide) (by decide)⟩
            · show Steps p.tables e below (T2481.setTop (mkF m 61 #[.val (.int p1), .val (.int p2), .val (.int p3), .val (.int i8), .val (.ref b66), .val (.ref b1908), .val (.ref b2464), .val (.int (0 : Int32)), .val (.ref b2474), .unset] [(.int (0 : Int32))])) _
              refine XS.istore X2481.here hx rfl (hb hby at_61) rfl (l' := #[.val (.int p1), .val (.int p2), .val (.int p3), .val (.int i8), .val (.ref b66), .val (.ref b1908), .val (.ref b2464), .val (.int (0 : Int32)), .val (.ref b2474), .val (.int (0 : Int32))]) rfl ?_
              refine XS.aload X2481.here hx rfl (hb hby at_63) rfl rfl ?_
              refine XS.aload X2481.here hx rfl (hb hby at_65) rfl rfl ?_
              refine st2720.trans ?_
              refine XS.iload X2720.here hx rfl (hb hby at_70) rfl ?_
              refine XS.icmpNo X2720.here hx rfl (hb hby at_72) rfl (teq (by decide +kernel : (0 : Int32) = (0 : Int32))).2 ?_
              refine XS.aload X2720.here hx rfl (hb hby at_75) rfl rfl ?_
              refine XS.aload X2720.here hx rfl (hb hby at_77) rfl rfl ?_
              refine st2725.trans ?_
              show Steps p.tables e below (T2725.setTop (mkF m 82 #[.val (.int p1), .val (.int p2), .val (.int p3), .val (.int i8), .val (.ref b66), .val (.ref b1908), .val (.ref b2464), .val (.int (0 : Int32)), .val (.ref b2474), .val (.int (0 : Int32))] [(.int (0 : Int32))])) _
              refine XS.iload X2725.here hx rfl (hb hby at_82) rfl ?_
              refine XS.icmpNo X2725.here hx rfl (hb hby at_84) rfl (teq (by decide +kernel : (0 : Int32) = (0 : Int32))).2 ?_
              refine XS.iconst X2725.here hx rfl (hb hby at_87) ?_
              refine XS.goto X2725.here hx rfl (pc0 := 88) (pc' := 92) rfl (hb hby at_88) (by decide) (by decide) ?_
              show Steps p.tables e below (T2725.setTop (mkF m 92 #[.val (.int p1), .val (.int p2), .val (.int p3), .val (.int i8), .val (.ref b66), .val (.ref b1908), .val (.ref b2464), .val (.int (0 : Int32)), .val (.ref b2474), .val (.int (0 : Int32))] [(.int (1 : Int32))])) _
              exact retN X2725 hx (t := .boolean) Bd.returns (by simp) (hb hby at_92) hr
            · show Q0 Z _ _ _ _ h0 n0 _ T2725.heap _
              rw [u2728]
              exact ⟨rfl, N2725⟩
          · skip
            have N2481 := Fr.app N2475 u2680
            have pre2729 : ∀ t, Steps p.tables e below (T2481.setTop (mkF m 61 #[.val (.int p1), .val (.int p2), .val (.int p3), .val (.int i8), .val (.ref b66), .val (.ref b1908), .val (.ref b2464), .val (.int (0 : Int32)), .val (.ref b2474), .unset] [(.int (0 : Int32))])) t → Steps p.tables e below (s₁.setTop (entryFrame m #[(.int p1), (.int p2), (.int p3)] maxLocals)) t := by
              intro t kt
              refine pre2482 t ?_
              refine st2481 _ ?_
              exact kt
            obtain rfl : i59 = i2666 := (u2674.trans u73.symm).symm
            obtain rfl : i1901 = i2667 := (u2675.trans u1915.symm).symm
            obtain rfl : i60 = i2668 := (u2676.trans u75.symm).symm
            obtain rfl : i61 = i2669 := (u2672.trans u70.symm).symm
            obtain rfl : i1902 = i2664 := (u2677.trans u1917.symm).symm
            obtain rfl : i1903 = i2665 := (u2673.trans u1912.symm).symm
            have f2730 : Fld Z T2475.heap b2464 C_1 "written" C_2 (.ref b66) := ((Fld.ext E2474 u2470).keep Ku2478 (ninS (Nat.ne_of_lt (Nat.lt_of_lt_of_le (Nat.lt_of_lt_of_le lt_b2464 Ku2468.1) bd_b2474)) nin0))
            have f2731 : Exa Z T2475.heap b1908 C_0 := ((Exa.ext E2474 ((Exa.ext E2464 u1927).keep Ku2468)).keep Ku2478)
            have f2732 : Exa Z T2475.heap b66 C_0 := ((Exa.ext E2474 ((Exa.ext E2464 (u85.keep Ku1926)).keep Ku2468)).keep Ku2478)
            have f2733 : Fld Z T2475.heap b1908 C_0 "coder" "B" (.int (0 : Int32)) := ((Fld.ext E2474 ((Fld.ext E2464 u1928).keep Ku2468 (ninS (Nat.ne_of_lt (Nat.lt_of_lt_of_le u1922 bd_b2464)) nin0))).keep Ku2478 (ninS (Nat.ne_of_lt (Nat.lt_of_lt_of_le (Nat.lt_of_lt_of_le (Nat.lt_of_lt_of_le u1922 E2464.1) Ku2468.1) bd_b2474)) nin0))
            have f2734 : Fld Z T2475.heap b66 C_0 "coder" "B" (.int (0 : Int32)) := ((Fld.ext E2474 ((Fld.ext E2464 (u86.keep Ku1926 nin0)).keep Ku2468 (ninS (Nat.ne_of_lt (Nat.lt_of_lt_of_le (Nat.lt_of_lt_of_le u80 Ku1926.1) bd_b2464)) nin0))).keep Ku2478 (ninS (Nat.ne_of_lt (Nat.lt_of_lt_of_le (Nat.lt_of_lt_of_le (Nat.lt_of_lt_of_le (Nat.lt_of_lt_of_le u80 Ku1926.1) E2464.1) Ku2468.1) bd_b2474)) nin0))
            have f2735 : Fld Z T2475.heap b1908 C_0 "value" "[B" (.ref b1909) := ((Fld.ext E2474 ((Fld.ext E2464 u1929).keep Ku2468 (ninS (Nat.ne_of_lt (Nat.lt_of_lt_of_le u1922 bd_b2464)) nin0))).keep Ku2478 (ninS (Nat.ne_of_lt (Nat.lt_of_lt_of_le (Nat.lt_of_lt_of_le (Nat.lt_of_lt_of_le u1922 E2464.1) Ku2468.1) bd_b2474)) nin0))
            have f2736 : Fld Z T2475.heap b66 C_0 "value" "[B" (.ref b67) := ((Fld.ext E2474 ((Fld.ext E2464 (u87.keep Ku1926 nin0)).keep Ku2468 (ninS (Nat.ne_of_lt (Nat.lt_of_lt_of_le (Nat.lt_of_lt_of_le u80 Ku1926.1) bd_b2464)) nin0))).keep Ku2478 (ninS (Nat.ne_of_lt (Nat.lt_of_lt_of_le (Nat.lt_of_lt_of_le (Nat.lt_of_lt_of_le (Nat.lt_of_lt_of_le u80 Ku1926.1) E2464.1) Ku2468.1) bd_b2474)) nin0))
            have f2737 : Arv Z T2475.heap b1909 k1910 .byte (2 : Int32) [(.int i1907), (.int i1906)] (.int (0 : Int32)) := ((((u1931.ext E2464).keep Ku2468 (ninS (Nat.ne_of_lt (Nat.lt_of_lt_of_le u1924 bd_b2464)) nin0)).ext E2474).keep Ku2478 (ninS (Nat.ne_of_lt (Nat.lt_of_lt_of_le (Nat.lt_of_lt_of_le (Nat.lt_of_lt_of_le u1924 E2464.1) Ku2468.1) bd_b2474)) nin0))
            have f2738 : Arv Z T2475.heap b67 k68 .byte (2 : Int32) [(.int i65), (.int i64)] (.int (0 : Int32)) := (((((u89.keep Ku1926 nin0).ext E2464).keep Ku2468 (ninS (Nat.ne_of_lt (Nat.lt_of_lt_of_le (Nat.lt_of_lt_of_le u82 Ku1926.1) bd_b2464)) nin0)).ext E2474).keep Ku2478 (ninS (Nat.ne_of_lt (Nat.lt_of_lt_of_le (Nat.lt_of_lt_of_le (Nat.lt_of_lt_of_le (Nat.lt_of_lt_of_le u82 Ku1926.1) E2464.1) Ku2468.1) bd_b2474)) nin0))
            have f2740 : Exa Z T2475.heap b2464 C_1 := ((Exa.ext E2474 u2469).keep Ku2478)
            obtain ⟨cq2739, kq2739, q2739a, q2739b, q2739c⟩ := isOf hZ1856 u2681 f2740
            obtain ⟨_, _, ⟨T2739, L2739, k2739, n2739⟩, -, X2739, ⟨Lc2739, hQ2739, l2739, y2739, z2739⟩, st2739⟩ := X2481.virtualBack hx (y := M_15) (z := M_15) hown1856 (mvT hZ1856 (hw _ (gw 38 rfl))) (mvT hZ1856 (hw _ (gw 39 rfl))) (notFace_of_selects (args := #[]) (mvT hZ1856 (hw _ (gw 41 rfl)))) (mvT hZ1856 (hw _ (gw 41 rfl))) (mvT hZ1856 (hw _ (gw 40 rfl))) (by decide) (backOf (W := 0) (rm7_54 l Z a0 hw [] b2464 b2474 b1908 b66 p11 b1909 b67 i1907 i1906 k1910 i65 i64 k68 T2475.heap n0  Ou2478 u2479 u2480 f2730 f2731 (Ne.symm (Nat.ne_of_lt (Nat.lt_of_lt_of_le u80 u1921))) f2732 S_12 hk13 f2733 f2734 f2735 f2736 f2737 f2738 (own_bne u1913 u71 u1915 u73 (fun q => u2678 q.symm))) hZ1856 (hw _ (gw 42 rfl)) (hw _ (gw 31 rfl)) (by decide) (by decide)) q2739a q2739c (g := (mkF m 67 #[.val (.int p1), .val (.int p2), .val (.int p3), .val (.int i8), .val (.ref b66), .val (.ref b1908), .val (.ref b2464), .val (.int (0 : Int32)), .val (.ref b2474), .val (.int (0 : Int32))] [(.ref b2474), (.ref b2464)])) rfl (by rw [hml]; rfl) (Steps.refl _) (argsL := [(.ref b2474)]) (rest := []) (lenOf pd_14 rfl) rfl (by show 2 * 0 + _ ≤ _; exact Nat.le_of_eq rfl) (hb hby at_67) (fun _ _ => ⟨rfl, u2681, (by decide : 14 + 0 ≤ _), (by decide : 26 + 0 ≤ _)⟩)
            dsimp only [Pt.U, Pt.locs, Pt.cells, Pt.slots] at X2739 l2739 y2739 z2739 st2739 hQ2739
            subst l2739 y2739 z2739
            obtain ⟨rfl, u2742, u2743⟩ := hQ2739
            have N2739 := Fr.app N2481 u2742
            obtain ⟨cq2744, kq2744, q2744a, q2744b, q2744c⟩ := isOf hZ1856 u2743 u2479
            obtain ⟨_, _, ⟨T2744, L2744, k2744, n2744⟩, -, X2744, ⟨Lc2744, hQ2744, l2744, y2744, z2744⟩, st2744⟩ := X2739.virtualBack hx (y := M_15) (z := M_15) hown1856 (mvT hZ1856 (hw _ (gw 38 rfl))) (mvT hZ1856 (hw _ (gw 39 rfl))) (notFace_of_selects (args := #[]) (mvT hZ1856 (hw _ (gw 41 rfl)))) (mvT hZ1856 (hw _ (gw 41 rfl))) (mvT hZ1856 (hw _ (gw 40 rfl))) (by decide) (backOf (W := 0) (rm7_54 l Z a0 hw [] b2474 b2464 b66 b1908 p11 b67 b1909 i65 i64 k68 i1907 i1906 k1910 T2475.heap n0  Ou2478 f2740 f2730 u2480 f2732 (Nat.ne_of_lt (Nat.lt_of_lt_of_le u80 u1921)) f2731 S_12 hk13 f2734 f2733 f2736 f2735 f2738 f2737 (own_bne u71 u1913 u73 u1915 u2678)) hZ1856 (hw _ (gw 42 rfl)) (hw _ (gw 31 rfl)) (by decide) (by decide)) q2744a q2744c (g := (mkF m 79 #[.val (.int p1), .val (.int p2), .val (.int p3), .val (.int i8), .val (.ref b66), .val (.ref b1908), .val (.ref b2464), .val (.int (0 : Int32)), .val (.ref b2474), .val (.int (0 : Int32))] [(.ref b2464), (.ref b2474)])) rfl (by rw [hml]; rfl) (Steps.refl _) (argsL := [(.ref b2464)]) (rest := []) (lenOf pd_14 rfl) rfl (by show 2 * 0 + _ ≤ _; exact Nat.le_of_eq rfl) (hb hby at_79) (fun _ _ => ⟨rfl, u2743, (by decide : 14 + 0 ≤ _), (by decide : 26 + 0 ≤ _)⟩)
            dsimp only [Pt.U, Pt.locs, Pt.cells, Pt.slots] at X2744 l2744 y2744 z2744 st2744 hQ2744
            subst l2744 y2744 z2744
            obtain ⟨rfl, u2746, u2747⟩ := hQ2744
            have N2744 := Fr.app N2739 u2746
            obtain ⟨fs, hr, hrun, hended, hEnd⟩ := X2744.leaveW (s := s) (vm₁ := T1856.vm) hS1856 (by rw [u2747]; exact (Nat.le_trans (Nat.le_trans (Nat.le_trans (Nat.le_trans (Nat.le_refl _) E2464.1) Ku2468.1) E2474.1) Ku2478.1)) (v := some (.int (1 : Int32))) (fun h => by rw [Bd.returns] at h; cases h)
            refine hno ⟨_, _, pre2729 _ ?_, hrun, hended, _, _, rfl, ?_, hEnd.1, hEnd.2.1, hEnd.2.2.1, hEnd.2.2.2.mono (by decide) (by decide)⟩
            · show Steps p.tables e below (T2481.setTop (mkF m 61 #[.val (.int p1), .val (.int p2), .val (.int p3), .val (.int i8), .val (.ref b66), .val (.ref b1908), .val (.ref b2464), .val (.int (0 : Int32)), .val (.ref b2474), .unset] [(.int (0 : Int32))])) _
              refine XS.istore X2481.here hx rfl (hb hby at_61) rfl (l' := #[.val (.int p1), .val (.int p2), .val (.int p3), .val (.int i8), .val (.ref b66), .val (.ref b1908), .val (.ref b2464), .val (.int (0 : Int32)), .val (.ref b2474), .val (.int (0 : Int32))]) rfl ?_
              refine XS.aload X2481.here hx rfl (hb hby at_63) rfl rfl ?_
              refine XS.aload X2481.here hx rfl (hb hby at_65) rfl rfl ?_
              refine st2739.trans ?_
              refine XS.iload X2739.here hx rfl (hb hby at_70) rfl ?_
              refine XS.icmpNo X2739.here hx rfl (hb hby at_72) rfl (teq (by decide +kernel : (0 : Int32) = (0 : Int32))).2 ?_
              refine XS.aload X2739.here hx rfl (hb hby at_75) rfl rfl ?_
              refine XS.aload X2739.here hx rfl (hb hby at_77) rfl rfl ?_
              refine st2744.trans ?_
              show Steps p.tables e below (T2744.setTop (mkF m 82 #[.val (.int p1), .val (.int p2), .val (.int p3), .val (.int i8), .val (.ref b66), .val (.ref b1908), .val (.ref b2464), .val (.int (0 : Int32)), .val (.ref b2474), .val (.int (0 : Int32))] [(.int (0 : Int32))])) _
              refine XS.iload X2744.here hx rfl (hb hby at_82) rfl ?_
              refine XS.icmpNo X2744.here hx rfl (hb hby at_84) rfl (teq (by decide +kernel : (0 : Int32) = (0 : Int32))).2 ?_
              refine XS.iconst X2744.here hx rfl (hb hby at_87) ?_
              refine XS.goto X2744.here hx rfl (pc0 := 88) (pc' := 92) rfl (hb hby at_88) (by decide) (by decide) ?_
              show Steps p.tables e below (T2744.setTop (mkF m 92 #[.val (.int p1), .val (.int p2), .val (.int p3), .val (.int i8), .val (.ref b66), .val (.ref b1908), .val (.ref b2464), .val (.int (0 : Int32)), .val (.ref b2474), .val (.int (0 : Int32))] [(.int (1 : Int32))])) _
              exact retN X2744 hx (t := .boolean) Bd.returns (by simp) (hb hby at_92) hr
            · show Q0 Z _ _ _ _ h0 n0 _ T2744.heap _
              rw [u2747]
              exact ⟨rfl, N2744⟩
        · skip
          have pre2748 : ∀ t, Steps p.tables e below (T2465.setTop (mkF m 96 #[.val (.int p1), .val (.int p2), .val (.int p3), .val (.int i8), .val (.ref b66), .val (.ref b1908), .val (.ref b2464), .val (.int i2471), .unset, .unset] [(.int (1 : Int32)), (.int i2471)])) t → Steps p.tables e below (s₁.setTop (entryFrame m #[(.int p1), (.int p2), (.int p3)] maxLocals)) t := by
            intro t kt
            refine pre2472 t ?_
            show Steps p.tables e below (T2465.setTop (mkF m 42 #[.val (.int p1), .val (.int p2), .val (.int p3), .val (.int i8), .val (.ref b66), .val (.ref b1908), .val (.ref b2464), .val (.int i2471), .unset, .unset] [(.int i2471)])) _
            refine XS.ifYes X2465.here hx rfl (pc0 := 42) (pc' := 93) rfl (hb hby at_42) rfl ((if0 _ _).trans (feq hc2473).2) (by decide) (by decide) ?_
            refine XS.iload X2465.here hx rfl (hb hby at_93) rfl ?_
            refine XS.iconst X2465.here hx rfl (hb hby at_95) ?_
            exact kt
          by_cases hc2749 : i2471 = (1 : Int32)
          · skip
            subst hc2749
            have f2750 : Exa Z T2465.heap b1908 C_0 := ((Exa.ext E2464 u1927).keep Ku2468)
            obtain ⟨cq2751, kq2751, q2751a, q2751b, q2751c⟩ := isOf hZ1856 rfl u2469
            obtain ⟨_, _, ⟨T2751, L2751, k2751, n2751⟩, -, X2751, ⟨Lc2751, hQ2751, l2751, y2751, z2751⟩, st2751⟩ := X2465.virtualBack hx (y := M_15) (z := M_15) hown1856 (mvT hZ1856 (hw _ (gw 38 rfl))) (mvT hZ1856 (hw _ (gw 39 rfl))) (notFace_of_selects (args := #[]) (mvT hZ1856 (hw _ (gw 41 rfl)))) (mvT hZ1856 (hw _ (gw 41 rfl))) (mvT hZ1856 (hw _ (gw 40 rfl))) (by decide) (backOf (W := 0) (rm7_20 l Z a0 hw [] b2464 b1908 T2465.heap n0  Ou2468 f2750) hZ1856 (hw _ (gw 42 rfl)) (hw _ (gw 31 rfl)) (by decide) (by decide)) q2751a q2751c (g := (mkF m 107 #[.val (.int p1), .val (.int p2), .val (.int p3), .val (.int i8), .val (.ref b66), .val (.ref b1908), .val (.ref b2464), .val (.int (1 : Int32)), .val (.ref b1908), .unset] [(.ref b1908), (.ref b2464)])) rfl (by rw [hml]; rfl) (Steps.refl _) (argsL := [(.ref b1908)]) (rest := []) (lenOf pd_14 rfl) rfl (by show 2 * 0 + _ ≤ _; exact Nat.le_of_eq rfl) (hb hby at_107) (fun _ _ => ⟨rfl, rfl, (by decide : 13 + 0 ≤ _), (by decide : 25 + 0 ≤ _)⟩)
            dsimp only [Pt.U, Pt.locs, Pt.cells, Pt.slots] at X2751 l2751 y2751 z2751 st2751 hQ2751
            subst l2751 y2751 z2751
            obtain ⟨rfl, u2753, u2754⟩ := hQ2751
            have N2751 := Fr.app N2465 u2753
            obtain ⟨fs, hr, hrun, hended, hEnd⟩ := X2751.leaveW (s := s) (vm₁ := T1856.vm) hS1856 (by rw [u2754]; exact (Nat.le_trans (Nat.le_trans (Nat.le_refl _) E2464.1) Ku2468.1)) (v := some (.int (1 : Int32))) (fun h => by rw [Bd.returns] at h; cases h)
            refine hno ⟨_, _, pre2748 _ ?_, hrun, hended, _, _, rfl, ?_, hEnd.1, hEnd.2.1, hEnd.2.2.1, hEnd.2.2.2.mono (by decide) (by decide)⟩
            · show Steps p.tables e below (T2465.setTop (mkF m 96 #[.val (.int p1), .val (.int p2), .val (.int p3), .val (.int i8), .val (.ref b66), .val (.ref b1908), .val (.ref b2464), .val (.int (1 : Int32)), .unset, .unset] [(.int (1 : Int32)), (.int (1 : Int32))])) _
              refine XS.icmpNo X2465.here hx rfl (hb hby at_96) rfl (teq (by decide +kernel : (1 : Int32) = (1 : Int32))).2 ?_
              refine XS.aload X2465.here hx rfl (hb hby at_99) rfl rfl ?_
              refine XS.astore X2465.here hx rfl (hb hby at_101) rfl rfl (l' := #[.val (.int p1), .val (.int p2), .val (.int p3), .val (.int i8), .val (.ref b66), .val (.ref b1908), .val (.ref b2464), .val (.int (1 : Int32)), .val (.ref b1908), .unset]) rfl ?_
              refine XS.aload X2465.here hx rfl (hb hby at_103) rfl rfl ?_
              refine XS.aload X2465.here hx rfl (hb hby at_105) rfl rfl ?_
              refine st2751.trans ?_
              refine XS.ifNo X2751.here hx rfl (hb hby at_110) rfl ((if0 _ _).trans (teq (by decide +kernel : (0 : Int32) = (0 : Int32))).2) ?_
              refine XS.iconst X2751.here hx rfl (hb hby at_113) ?_
              refine XS.goto X2751.here hx rfl (pc0 := 114) (pc' := 118) rfl (hb hby at_114) (by decide) (by decide) ?_
              show Steps p.tables e below (T2751.setTop (mkF m 118 #[.val (.int p1), .val (.int p2), .val (.int p3), .val (.int i8), .val (.ref b66), .val (.ref b1908), .val (.ref b2464), .val (.int (1 : Int32)), .val (.ref b1908), .unset] [(.int (1 : Int32))])) _
              exact retN X2751 hx (t := .boolean) Bd.returns (by simp) (hb hby at_118) hr
            · show Q0 Z _ _ _ _ h0 n0 _ T2751.heap _
              rw [u2754]
              exact ⟨rfl, N2751⟩
          · skip
            have pre2755 : ∀ t, Steps p.tables e below (T2465.setTop (mkF m 122 #[.val (.int p1), .val (.int p2), .val (.int p3), .val (.int i8), .val (.ref b66), .val (.ref b1908), .val (.ref b2464), .val (.int i2471), .unset, .unset] [(.int (2 : Int32)), (.int i2471)])) t → Steps p.tables e below (s₁.setTop (entryFrame m #[(.int p1), (.int p2), (.int p3)] maxLocals)) t := by
              intro t kt
              refine pre2748 t ?_
              show Steps p.tables e below (T2465.setTop (mkF m 96 #[.val (.int p1), .val (.int p2), .val (.int p3), .val (.int i8), .val (.ref b66), .val (.ref b1908), .val (.ref b2464), .val (.int i2471), .unset, .unset] [(.int (1 : Int32)), (.int i2471)])) _
              refine XS.icmpYes X2465.here hx rfl (pc0 := 96) (pc' := 119) rfl (hb hby at_96) rfl (feq hc2749).2 (by decide) (by decide) ?_
              refine XS.iload X2465.here hx rfl (hb hby at_119) rfl ?_
              refine XS.iconst X2465.here hx rfl (hb hby at_121) ?_
              exact kt
            by_cases hc2756 : i2471 = (2 : Int32)
            · skip
              subst hc2756
              obtain ⟨cq2757, kq2757, q2757a, q2757b, q2757c⟩ := isOf hZ1856 rfl u2469
              obtain ⟨_, _, ⟨T2757, L2757, k2757, n2757⟩, -, X2757, ⟨Lc2757, hQ2757, l2757, y2757, z2757⟩, st2757⟩ := X2465.virtualBack hx (y := M_15) (z := M_15) hown1856 (mvT hZ1856 (hw _ (gw 38 rfl))) (mvT hZ1856 (hw _ (gw 39 rfl))) (notFace_of_selects (args := #[]) (mvT hZ1856 (hw _ (gw 41 rfl)))) (mvT hZ1856 (hw _ (gw 41 rfl))) (mvT hZ1856 (hw _ (gw 40 rfl))) (by decide) (backOf (W := 0) (rm7_21 l Z a0 hw [] b2464 T2465.heap n0  Ou2468) hZ1856 (hw _ (gw 42 rfl)) (hw _ (gw 31 rfl)) (by decide) (by decide)) q2757a q2757c (g := (mkF m 128 #[.val (.int p1), .val (.int p2), .val (.int p3), .val (.int i8), .val (.ref b66), .val (.ref b1908), .val (.ref b2464), .val (.int (2 : Int32)), .unset, .unset] [.null, (.ref b2464)])) rfl (by rw [hml]; rfl) (Steps.refl _) (argsL := [.null]) (rest := []) (lenOf pd_14 rfl) rfl (by show 2 * 0 + _ ≤ _; exact Nat.le_of_eq rfl) (hb hby at_128) (fun _ _ => ⟨rfl, rfl, (by decide : 13 + 0 ≤ _), (by decide : 25 + 0 ≤ _)⟩)
              dsimp only [Pt.U, Pt.locs, Pt.cells, Pt.slots] at X2757 l2757 y2757 z2757 st2757 hQ2757
              subst l2757 y2757 z2757
              obtain ⟨rfl, u2759, u2760⟩ := hQ2757
              have N2757 := Fr.app N2465 u2759
              obtain ⟨fs, hr, hrun, hended, hEnd⟩ := X2757.leaveW (s := s) (vm₁ := T1856.vm) hS1856 (by rw [u2760]; exact (Nat.le_trans (Nat.le_trans (Nat.le_refl _) E2464.1) Ku2468.1)) (v := some (.int (1 : Int32))) (fun h => by rw [Bd.returns] at h; cases h)
              refine hno ⟨_, _, pre2755 _ ?_, hrun, hended, _, _, rfl, ?_, hEnd.1, hEnd.2.1, hEnd.2.2.1, hEnd.2.2.2.mono (by decide) (by decide)⟩
              · show Steps p.tables e below (T2465.setTop (mkF m 122 #[.val (.int p1), .val (.int p2), .val (.int p3), .val (.int i8), .val (.ref b66), .val (.ref b1908), .val (.ref b2464), .val (.int (2 : Int32)), .unset, .unset] [(.int (2 : Int32)), (.int (2 : Int32))])) _
                refine XS.icmpNo X2465.here hx rfl (hb hby at_122) rfl (teq (by decide +kernel : (2 : Int32) = (2 : Int32))).2 ?_
                refine XS.aload X2465.here hx rfl (hb hby at_125) rfl rfl ?_
                refine XS.aconstNull X2465.here hx rfl (hb hby at_127) ?_
                refine st2757.trans ?_
                refine XS.ifNo X2757.here hx rfl (hb hby at_131) rfl ((if0 _ _).trans (teq (by decide +kernel : (0 : Int32) = (0 : Int32))).2) ?_
                refine XS.iconst X2757.here hx rfl (hb hby at_134) ?_
                refine XS.goto X2757.here hx rfl (pc0 := 135) (pc' := 139) rfl (hb hby at_135) (by decide) (by decide) ?_
                show Steps p.tables e below (T2757.setTop (mkF m 139 #[.val (.int p1), .val (.int p2), .val (.int p3), .val (.int i8), .val (.ref b66), .val (.ref b1908), .val (.ref b2464), .val (.int (2 : Int32)), .unset, .unset] [(.int (1 : Int32))])) _
                exact retN X2757 hx (t := .boolean) Bd.returns (by simp) (hb hby at_139) hr
              · show Q0 Z _ _ _ _ h0 n0 _ T2757.heap _
                rw [u2760]
                exact ⟨rfl, N2757⟩
            · skip
              have f2761 : Exa Z T2465.heap b66 C_0 := ((Exa.ext E2464 (u85.keep Ku1926)).keep Ku2468)
              obtain ⟨cq2762, kq2762, q2762a, q2762b, q2762c⟩ := isOf hZ1856 rfl u2469
              obtain ⟨_, _, ⟨T2762, L2762, k2762, n2762⟩, -, X2762, ⟨Lc2762, hQ2762, l2762, y2762, z2762⟩, st2762⟩ := X2465.virtualBack hx (y := M_15) (z := M_15) hown1856 (mvT hZ1856 (hw _ (gw 38 rfl))) (mvT hZ1856 (hw _ (gw 39 rfl))) (notFace_of_selects (args := #[]) (mvT hZ1856 (hw _ (gw 41 rfl)))) (mvT hZ1856 (hw _ (gw 41 rfl))) (mvT hZ1856 (hw _ (gw 40 rfl))) (by decide) (backOf (W := 0) (rm7_22 l Z a0 hw [] b2464 b66 T2465.heap n0  Ou2468 u2469 u2470 f2761) hZ1856 (hw _ (gw 42 rfl)) (hw _ (gw 31 rfl)) (by decide) (by decide)) q2762a q2762c (g := (mkF m 148 #[.val (.int p1), .val (.int p2), .val (.int p3), .val (.int i8), .val (.ref b66), .val (.ref b1908), .val (.ref b2464), .val (.int i2471), .val (.ref b2464), .unset] [(.ref b2464), (.ref b2464)])) rfl (by rw [hml]; rfl) (Steps.refl _) (argsL := [(.ref b2464)]) (rest := []) (lenOf pd_14 rfl) rfl (by show 2 * 0 + _ ≤ _; exact Nat.le_of_eq rfl) (hb hby at_148) (fun _ _ => ⟨rfl, rfl, (by decide : 13 + 0 ≤ _), (by decide : 25 + 0 ≤ _)⟩)
              dsimp only [Pt.U, Pt.locs, Pt.cells, Pt.slots] at X2762 l2762 y2762 z2762 st2762 hQ2762
              subst l2762 y2762 z2762
              obtain ⟨rfl, u2764, u2765⟩ := hQ2762
              have N2762 := Fr.app N2465 u2764
              obtain ⟨fs, hr, hrun, hended, hEnd⟩ := X2762.leaveW (s := s) (vm₁ := T1856.vm) hS1856 (by rw [u2765]; exact (Nat.le_trans (Nat.le_trans (Nat.le_refl _) E2464.1) Ku2468.1)) (v := some (.int (1 : Int32))) (fun h => by rw [Bd.returns] at h; cases h)
              refine hno ⟨_, _, pre2755 _ ?_, hrun, hended, _, _, rfl, ?_, hEnd.1, hEnd.2.1, hEnd.2.2.1, hEnd.2.2.2.mono (by decide) (by decide)⟩
              · show Steps p.tables e below (T2465.setTop (mkF m 122 #[.val (.int p1), .val (.int p2), .val (.int p3), .val (.int i8), .val (.ref b66), .val (.ref b1908), .val (.ref b2464), .val (.int i2471), .unset, .unset] [(.int (2 : Int32)), (.int i2471)])) _
                refine XS.icmpYes X2465.here hx rfl (pc0 := 122) (pc' := 140) rfl (hb hby at_122) rfl (feq hc2756).2 (by decide) (by decide) ?_
                refine XS.aload X2465.here hx rfl (hb hby at_140) rfl rfl ?_
                refine XS.astore X2465.here hx rfl (hb hby at_142) rfl rfl (l' := #[.val (.int p1), .val (.int p2), .val (.int p3), .val (.int i8), .val (.ref b66), .val (.ref b1908), .val (.ref b2464), .val (.int i2471), .val (.ref b2464), .unset]) rfl ?_
                refine XS.aload X2465.here hx rfl (hb hby at_144) rfl rfl ?_
                refine XS.aload X2465.here hx rfl (hb hby at_146) rfl rfl ?_
                refine st2762.trans ?_
                show Steps p.tables e below (T2762.setTop (mkF m 151 #[.val (.int p1), .val (.int p2), .val (.int p3), .val (.int i8), .val (.ref b66), .val (.ref b1908), .val (.ref b2464), .val (.int i2471), .val (.ref b2464), .unset] [(.int (1 : Int32))])) _
                exact retN X2762 hx (t := .boolean) Bd.returns (by simp) (hb hby at_151) hr
              · show Q0 Z _ _ _ _ h0 n0 _ T2762.heap _
                rw [u2765]
                exact ⟨rfl, N2762⟩
  by_cases hc2766 : i4 = (0 : Int32)
  · skip
    subst hc2766
    have pre2767 : ∀ t, Steps p.tables e below (s₁.setTop (mkF m 11 #[.val (.int p1), .val (.int p2), .val (.int p3), .unset, .unset, .unset, .unset, .unset, .unset, .unset] [(.int p2)])) t → Steps p.tables e below (s₁.setTop (entryFrame m #[(.int p1), (.int p2), (.int p3)] maxLocals)) t := by
      intro t kt
      refine pre5 t ?_
      show Steps p.tables e below (s₁.setTop (mkF m 3 #[.val (.int p1), .val (.int p2), .val (.int p3), .unset, .unset, .unset, .unset, .unset, .unset, .unset] [(.int (0 : Int32))])) _
      refine XS.ifYes X0.here hx rfl (pc0 := 3) (pc' := 10) rfl (hb hby at_3) rfl ((if0 _ _).trans (teq (by decide +kernel : (0 : Int32) = (0 : Int32))).1) (by decide) (by decide) ?_
      refine XS.iloadN X0.here hx rfl (hb hby at_10) rfl ?_
      exact kt
    exact join7 p2 pre2767
  · skip
    have pre2768 : ∀ t, Steps p.tables e below (s₁.setTop (mkF m 11 #[.val (.int p1), .val (.int p2), .val (.int p3), .unset, .unset, .unset, .unset, .unset, .unset, .unset] [(.int p1)])) t → Steps p.tables e below (s₁.setTop (entryFrame m #[(.int p1), (.int p2), (.int p3)] maxLocals)) t := by
      intro t kt
      refine pre5 t ?_
      show Steps p.tables e below (s₁.setTop (mkF m 3 #[.val (.int p1), .val (.int p2), .val (.int p3), .unset, .unset, .unset, .unset, .unset, .unset, .unset] [(.int i4)])) _
      refine XS.ifNo X0.here hx rfl (hb hby at_3) rfl ((if0 _ _).trans (feq hc2766).1) ?_
      refine XS.iloadN X0.here hx rfl (hb hby at_6) rfl ?_
      refine XS.goto X0.here hx rfl (pc0 := 7) (pc' := 11) rfl (hb hby at_7) (by decide) (by decide) ?_
      exact kt
    exact join7 p1 pre2768
set_option maxRecDepth 65536 in
set_option maxHeartbeats 40000000 in
theorem comes_1 {Post : Tables → Env → Array Value → State → Outcome → State → Prop} (hpost : ∀ tb e args s v u, (limb_1_1.after args s (.returned v) u = true ∧ limb_1_2.after args s (.returned v) u = true ∧ True) → ReturnedEndW s (.returned v) u (Jvm.fieldLocs frame_1_writes args s ++ Jvm.arrayLocs frame_1_arrays args s ++ Jvm.staticLocs frame_1_statics s) 32 1152 → Post tb e args s (.returned v) u) :
    ArmFor flags0 classFile x code maxLocals ret World_1 tables_1 room_1 Calls_1 rest_1 Pre_1 Post := by
  intro l hfl _ _ p e ha hc hk s m args below hf hA hF happ hP
  obtain ⟨hcalls, hrest, hpre⟩ := hP
  obtain ⟨-, -, -, hnamed, -, -, -, hat⟩ := (Spec.applies_iff hf).mp happ
  obtain ⟨hg, hn⟩ := and_e (Cond.before_iff.mp (show (Jvm.Cond.and given_1 narrow_1).before args s = true from hpre))
  obtain ⟨h1, hr0⟩ := and_e hg
  obtain ⟨ha0, hr1⟩ := and_e hr0
  obtain ⟨ha1, hr2⟩ := and_e hr1
  obtain ⟨w0, w1, w2, rfl⟩ : ∃ w0 w1 w2 : Value, args = #[w0, w1, w2] := by
    have hs : args.size = 3 := by simpa [Cond.value, given_1] using h1
    obtain ⟨L⟩ := args
    match L, hs with
    | [w0, w1, w2], _ => exact ⟨w0, w1, w2, rfl⟩
  have hwt := fun d (hd : d ∈ tables_1) => atoms_spec (ws := Jvm.Cond.code x code maxLocals ret :: tables_1) hat d (List.mem_cons_of_mem _ hd)
  obtain ⟨hsets, hown0⟩ := atoms_of _ (rest_1_c_eq ▸ (show rest_1_c.before _ s = true from hrest))
  have hw : ∀ d ∈ own_ws, d.before _ s = true := fun d hd => (List.mem_append.mp hd).elim (hwt d) (hsets d)
  have hfit : Fit s := fun {y c} hc i hi => by
    obtain ⟨ha, rfl⟩ := Array.getElem?_eq_some_iff.mp hc
    have q := List.all_eq_true.mp ((Array.all_eq_true_iff_forall_mem.mp hF) _ (Array.getElem_mem ha)) i (List.mem_range.mpr hi)
    simpa [Array.getElem?_eq_getElem hi] using q
  obtain ⟨i0, ei0⟩ := is_v ha0
  obtain rfl : w0 = (.int i0) := Option.some.inj ei0
  obtain ⟨i1, ei1⟩ := is_v ha1
  obtain rfl : w1 = (.int i1) := Option.some.inj ei1
  obtain ⟨i2, ei2⟩ := is_v hr2
  obtain rfl : w2 = (.int i2) := Option.some.inj ei2
  have hheld : ∀ p ∈ own_EL, Jvm.Lit.constHeld s p.1 p.2 := own_held hcalls
  have hs1 := Cond.before_iff.mp (hsets _ (List.mem_of_getElem? (i := 1) rfl))
  have hs2 := Cond.before_iff.mp (hsets _ (List.mem_of_getElem? (i := 2) rfl))
  have hs8 := Cond.before_iff.mp (hsets _ (List.mem_of_getElem? (i := 8) rfl))
  obtain ⟨n1, ev_n1⟩ := is_v hs1
  have S_n1 : Sta s s.heap "java/lang/String" "COMPACT_STRINGS" "Z" (.int n1) := Sta.start ev_n1 (Or.inl (hw _ (gw 83 rfl)))
  have cn1 : ¬ (n1 = (0 : Int32)) := gotF (Cond.eq_ints ev_n1 (Term.int_eval (0))) (not_v hs2)
  obtain ⟨r2, ev_r2, ir_r2⟩ := isR_v hs8
  have S_r2 : Sta s s.heap "jdk/internal/util/Preconditions" "SIOOBE_FORMATTER" "Ljava/util/function/BiFunction;" r2 := Sta.start ev_r2 (Or.inl (hw _ (gw 90 rfl)))
  obtain ⟨n, o, h1, h2, h3, _, L, rfl, ⟨rfl, N⟩, hq⟩ := rm0 l s _ hw tables_1 i0 i1 i2 n1 s.heap s.heap.size (Old.start s) S_n1 cn1 p e ha hc hk s m _ below hf ((Spec.applies_iff_loose hf).mp happ).1 ⟨rfl, State.Warmed39.refl s, rfl, CHv.start (own_EW hw) hheld (own_compact hw) (hw _ (gw 22 rfl)) (hw _ (gw 8 rfl))⟩ trivial
  refine ⟨n, _, h1, h2, h3, hpost _ _ _ _ _ _ ⟨Cond.after_iff.mpr rfl, Cond.after_iff.mpr (eq_i res_at (Term.int_eval (1)) rfl), trivial⟩ ⟨hq.1, hq.2.1, hq.2.2.1, (hq.2.2.2.sift fun y hy => Or.inr (N y hy)).mono (by decide) (by decide)⟩⟩
theorem main_1_1 : Claimed_1_1 := comes_1 fun _ _ _ _ _ _ h hF => ⟨h.1, hF⟩
theorem main_1_2 : Claimed_1_2 := comes_1 fun _ _ _ _ _ _ h hF => ⟨h.2.1, hF⟩
end Jvm.Pilot.@@N@@
namespace Jvm.Pilot.@@N@@
open Jvm Jvm.ClassFile Sem Op Lib Jvm.Free Jvm.Stand Jvm.Pilot.@@N@@.Jvm.D
/-! MADE BY PROGRAM (witnessworld.py) out of the Statement's table words and the real class files: 20 classes; the members and pool entries that the words name. The judged class is class 1, her method 4. -/
namespace start1
open Jvm.ClassFile
def u (s : String) : CpInfo := .utf8 (stringToUtf16 s)
/-- a pool by its gaps: so many unusable entries, then the entry; so many at the end -/
def gap : Nat → List CpInfo → List CpInfo
  | 0, r => r
  | n + 1, r => .unusable :: gap n r
def poolList (es : List (Nat × CpInfo)) (last : Nat) : List CpInfo := es.foldr (fun e r => gap e.1 (e.2 :: r)) (gap last [])
def pool (es : List (Nat × CpInfo)) (last : Nat) : Array CpInfo := ⟨poolList es last⟩
def fileOf (pool : Array CpInfo) (this : Nat) (attrs : Array Attribute := #[]) (ms : Array MethodInfo := #[]) (fl : Nat := 33) (sup : Nat := 0) (ifs : Array Nat := #[]) (fds : Array FieldInfo := #[]) : ClassFile where
  minorVersion := 0
  majorVersion := 65
  constantPool := pool
  accessFlags := fl
  thisClass := this
  superClass := sup
  interfaces := ifs
  fields := fds
  methods := ms
  attributes := attrs
def plain (name : String) (sup : Option ClassId) : Class where
  name := name
  kind := .ordinary
  loader := none
  accessFlags := 33
  super := sup
  interfaces := #[]
  cf := none
  fields := #[]
  methods := #[]
  instanceTypes := #[]
  staticTypes := #[]
  resolved := #[]
  callSites := []
  init := .initialized
  statics := none
  mirror := none

def pool0 : Array CpInfo := pool [(5, u "<init>"), (0, u "()V"), (1, .class_ 10), (1, u "java/lang/Object")] 113

def k0c0 : Code := { maxStack := 0, maxLocals := 1, code := object_method_1_code, exceptionTable := #[], attributes := #[] }
def k0m0 : Method := { name := "<init>", desc := "()V", sig := { parameters := [], returnType := none }, accessFlags := 1, code := some k0c0 }
/-- java/lang/Object -/
def k0 : Class := { plain "java/lang/Object" none with
  accessFlags := 33
  interfaces := #[]
  cf := some (fileOf pool0 8 #[] #[{ accessFlags := 1, nameIndex := 5, descriptorIndex := 6, attributes := #[] }] 33 0 #[] #[])
  fields := #[]
  methods := #[k0m0]
  instanceTypes := #[]
  staticTypes := #[]
  resolved := Array.replicate 124 none
  statics := none }

def pool1 : Array CpInfo := pool [(2, .class_ 4), (1, u "java/lang/Object"), (0, u "<init>"), (0, u "()V"), (0, .methodref 8 9), (0, .class_ 10), (0, .nameAndType 11 12), (0, u "com/example/vestry/vestry/NumeralEqualsPinLaw"), (0, u "len"), (0, u "(I)I"), (0, .class_ 14), (0, u "java/lang/String"), (0, .methodref 13 16), (0, .nameAndType 5 17), (0, u "([C)V"), (0, .methodref 13 19), (0, .nameAndType 20 21), (0, u "valueOf"), (0, u "(C)Ljava/lang/String;"), (0, .methodref 8 23), (0, .nameAndType 24 25), (0, u "draw"), (0, u "(I)Ljava/lang/String;"), (0, .class_ 27), (0, u "com/example/vestry/vestry/JsonText$Numeral"), (0, .methodref 26 29), (0, .nameAndType 5 30), (0, u "(Ljava/lang/String;)V"), (0, .methodref 8 32), (0, .nameAndType 33 34), (0, u "sameText"), (0, u "(II)Z"), (0, .methodref 26 36), (0, .nameAndType 37 38), (0, u "equals"), (0, u "(Ljava/lang/Object;)Z"), (3, u "law"), (0, u "(III)Z")] 6

def k1m0 : Method := { name := "<init>", desc := "()V", sig := { parameters := [], returnType := none }, accessFlags := 1, code := none }
def k1c1 : Code := { maxStack := 2, maxLocals := 1, code := method_2_code, exceptionTable := #[], attributes := #[] }
def k1m1 : Method := { name := "len", desc := "(I)I", sig := { parameters := [.int], returnType := some .int }, accessFlags := 10, code := some k1c1 }
def k1c2 : Code := { maxStack := 3, maxLocals := 5, code := method_3_code, exceptionTable := #[], attributes := #[] }
def k1m2 : Method := { name := "draw", desc := "(I)Ljava/lang/String;", sig := { parameters := [.int], returnType := some (.object "java/lang/String") }, accessFlags := 10, code := some k1c2 }
def k1c3 : Code := { maxStack := 3, maxLocals := 4, code := method_4_code, exceptionTable := #[], attributes := #[] }
def k1m3 : Method := { name := "sameText", desc := "(II)Z", sig := { parameters := [.int, .int], returnType := some .boolean }, accessFlags := 10, code := some k1c3 }
def k1c4 : Code := { maxStack := 3, maxLocals := 10, code := code, exceptionTable := #[], attributes := #[] }
def k1m4 : Method := { name := "law", desc := "(III)Z", sig := { parameters := [.int, .int, .int], returnType := some .boolean }, accessFlags := 9, code := some k1c4 }
/-- com/example/vestry/vestry/NumeralEqualsPinLaw -/
def k1 : Class := { plain "com/example/vestry/vestry/NumeralEqualsPinLaw" (some 0) with
  accessFlags := 49
  interfaces := #[]
  cf := some (fileOf pool1 8 #[] #[{ accessFlags := 1, nameIndex := 5, descriptorIndex := 6, attributes := #[] }, { accessFlags := 10, nameIndex := 11, descriptorIndex := 12, attributes := #[] }, { accessFlags := 10, nameIndex := 24, descriptorIndex := 25, attributes := #[] }, { accessFlags := 10, nameIndex := 33, descriptorIndex := 34, attributes := #[] }, { accessFlags := 9, nameIndex := 42, descriptorIndex := 43, attributes := #[] }] 49 2 #[] #[])
  fields := #[]
  methods := #[k1m0, k1m1, k1m2, k1m3, k1m4]
  instanceTypes := #[]
  staticTypes := #[]
  resolved := Array.replicate 50 none
  statics := none }

def pool2 : Array CpInfo := pool [(1, .class_ 2), (0, u "java/io/Serializable"), (0, .class_ 4), (0, u "java/lang/Object")] 2

/-- java/io/Serializable -/
def k2 : Class := { plain "java/io/Serializable" (some 0) with
  accessFlags := 1537
  interfaces := #[]
  cf := some (fileOf pool2 1 #[] #[] 1537 3 #[] #[])
  fields := #[]
  methods := #[]
  instanceTypes := #[]
  staticTypes := #[]
  resolved := Array.replicate 7 none
  statics := none }

def pool3 : Array CpInfo := pool [(1, .class_ 2), (0, u "java/lang/Comparable"), (0, .class_ 4), (0, u "java/lang/Object")] 7

/-- java/lang/Comparable -/
def k3 : Class := { plain "java/lang/Comparable" (some 0) with
  accessFlags := 1537
  interfaces := #[]
  cf := some (fileOf pool3 1 #[] #[] 1537 3 #[] #[])
  fields := #[]
  methods := #[]
  instanceTypes := #[]
  staticTypes := #[]
  resolved := Array.replicate 12 none
  statics := none }

def pool4 : Array CpInfo := pool [(2, .class_ 4), (1, u "java/lang/CharSequence"), (42, .class_ 48), (0, u "java/lang/CharSequence$1CodePointIterator"), (10, .class_ 60), (0, u "java/lang/CharSequence$1CharIterator"), (5, .class_ 67), (0, u "java/lang/Object")] 63

/-- java/lang/CharSequence -/
def k4 : Class := { plain "java/lang/CharSequence" (some 0) with
  accessFlags := 1537
  interfaces := #[]
  cf := some (fileOf pool4 2 #[.nestMembers #[47, 59]] #[] 1537 66 #[] #[])
  fields := #[]
  methods := #[]
  instanceTypes := #[]
  staticTypes := #[]
  resolved := Array.replicate 131 none
  statics := none }

def pool5 : Array CpInfo := pool [(1, .class_ 2), (0, u "java/lang/constant/Constable"), (0, .class_ 4), (0, u "java/lang/Object")] 6

/-- java/lang/constant/Constable -/
def k5 : Class := { plain "java/lang/constant/Constable" (some 0) with
  accessFlags := 1537
  interfaces := #[]
  cf := some (fileOf pool5 1 #[] #[] 1537 3 #[] #[])
  fields := #[]
  methods := #[]
  instanceTypes := #[]
  staticTypes := #[]
  resolved := Array.replicate 11 none
  statics := none }

def pool6 : Array CpInfo := pool [(1, .class_ 2), (0, u "java/lang/constant/ConstantDesc"), (0, .class_ 4), (0, u "java/lang/Object")] 32

/-- java/lang/constant/ConstantDesc -/
def k6 : Class := { plain "java/lang/constant/ConstantDesc" (some 0) with
  accessFlags := 1537
  interfaces := #[]
  cf := some (fileOf pool6 1 #[] #[] 1537 3 #[] #[])
  fields := #[]
  methods := #[]
  instanceTypes := #[]
  staticTypes := #[]
  resolved := Array.replicate 37 none
  statics := none }

def pool7 : Array CpInfo := pool [(1, .methodref 2 3), (0, .class_ 4), (0, .nameAndType 5 6), (0, u "java/lang/Object"), (0, u "<init>"), (0, u "()V"), (0, .string 8), (0, u ""), (0, .fieldref 10 11), (0, .class_ 12), (0, .nameAndType 13 14), (0, u "java/lang/String"), (0, u "value"), (0, u "[B"), (0, .fieldref 10 16), (0, .nameAndType 17 18), (0, u "coder"), (0, u "B"), (2, u "hash"), (0, u "I"), (2, u "hashIsZero"), (0, u "Z"), (0, .methodref 10 28), (0, .nameAndType 5 29), (0, u "([CIILjava/lang/Void;)V"), (8, .fieldref 10 39), (0, .nameAndType 40 26), (0, u "COMPACT_STRINGS"), (1, .class_ 44), (1, u "java/lang/StringUTF16"), (0, u "compress"), (1, .methodref 42 48), (0, .nameAndType 49 50), (0, u "coderFromArrayLen"), (0, u "([BI)B"), (2, u "toBytes"), (53, .class_ 109), (1, u "java/lang/StringLatin1"), (67, .methodref 42 178), (0, .nameAndType 45 179), (0, u "([CII)[B"), (29, .methodref 10 210), (0, .nameAndType 5 211), (0, u "([BB)V"), (157, u "(C)Z"), (171, .methodref 107 542), (0, .nameAndType 543 544), (0, u "equals"), (0, u "([B[B)Z"), (28, u "(Ljava/lang/Object;)Z"), (1, .class_ 576), (0, u "java/lang/CharSequence"), (22, u "CASE_INSENSITIVE_ORDER"), (0, u "Ljava/util/Comparator;"), (181, u "valueOf"), (0, u "(C)Ljava/lang/String;"), (226, u "([C)V"), (4, .methodref 107 1016), (0, .nameAndType 1017 369), (0, u "canEncode"), (0, .methodref 107 1019), (0, .nameAndType 53 1020), (0, u "(C)[B"), (80, u "serialPersistentFields"), (0, u "[Ljava/io/ObjectStreamField;"), (0, .class_ 1104), (0, u "java/lang/String$CaseInsensitiveComparator"), (1, .class_ 1107), (0, u "java/io/Serializable"), (0, .class_ 1109), (0, u "java/lang/Comparable"), (0, .class_ 1111), (0, u "java/lang/constant/Constable"), (0, .class_ 1113), (0, u "java/lang/constant/ConstantDesc"), (2, u "serialVersionUID"), (0, u "J"), (3, u "REPL"), (0, u "C"), (2, u "LATIN1"), (1, u "UTF16")] 323

def k7m0 : Method := { name := "<init>", desc := "()V", sig := { parameters := [], returnType := none }, accessFlags := 1, code := none }
def k7c1 : Code := { maxStack := 5, maxLocals := 2, code := jdk_42_method_3_code, exceptionTable := #[], attributes := #[] }
def k7m1 : Method := { name := "<init>", desc := "([C)V", sig := { parameters := [(.array .char)], returnType := none }, accessFlags := 1, code := some k7c1 }
def k7c2 : Code := { maxStack := 2, maxLocals := 3, code := jdk_42_method_66_code, exceptionTable := #[], attributes := #[] }
def k7m2 : Method := { name := "equals", desc := "(Ljava/lang/Object;)Z", sig := { parameters := [(.object "java/lang/Object")], returnType := some .boolean }, accessFlags := 1, code := some k7c2 }
def k7c3 : Code := { maxStack := 4, maxLocals := 1, code := jdk_42_method_139_code, exceptionTable := #[], attributes := #[] }
def k7m3 : Method := { name := "valueOf", desc := "(C)Ljava/lang/String;", sig := { parameters := [.char], returnType := some (.object "java/lang/String") }, accessFlags := 9, code := some k7c3 }
def k7c4 : Code := { maxStack := 4, maxLocals := 6, code := jdk_42_method_149_code, exceptionTable := #[], attributes := #[] }
def k7m4 : Method := { name := "<init>", desc := "([CIILjava/lang/Void;)V", sig := { parameters := [(.array .char), .int, .int, (.object "java/lang/Void")], returnType := none }, accessFlags := 2, code := some k7c4 }
def k7c5 : Code := { maxStack := 2, maxLocals := 3, code := jdk_42_method_151_code, exceptionTable := #[], attributes := #[] }
def k7m5 : Method := { name := "<init>", desc := "([BB)V", sig := { parameters := [(.array .byte), .byte], returnType := none }, accessFlags := 0, code := some k7c5 }
/-- java/lang/String -/
def k7 : Class := { plain "java/lang/String" (some 0) with
  accessFlags := 49
  interfaces := #[2, 3, 4, 5, 6]
  cf := some (fileOf pool7 10 #[.nestMembers #[1103]] #[{ accessFlags := 1, nameIndex := 5, descriptorIndex := 6, attributes := #[] }, { accessFlags := 1, nameIndex := 5, descriptorIndex := 1010, attributes := #[] }, { accessFlags := 1, nameIndex := 543, descriptorIndex := 573, attributes := #[] }, { accessFlags := 9, nameIndex := 782, descriptorIndex := 783, attributes := #[] }, { accessFlags := 2, nameIndex := 5, descriptorIndex := 29, attributes := #[] }, { accessFlags := 0, nameIndex := 5, descriptorIndex := 211, attributes := #[] }] 49 2 #[1106, 1108, 575, 1110, 1112] #[{ accessFlags := 18, nameIndex := 13, descriptorIndex := 14, attributes := #[] }, { accessFlags := 18, nameIndex := 17, descriptorIndex := 18, attributes := #[] }, { accessFlags := 2, nameIndex := 21, descriptorIndex := 22, attributes := #[] }, { accessFlags := 2, nameIndex := 25, descriptorIndex := 26, attributes := #[] }, { accessFlags := 26, nameIndex := 1116, descriptorIndex := 1117, attributes := #[] }, { accessFlags := 24, nameIndex := 40, descriptorIndex := 26, attributes := #[] }, { accessFlags := 26, nameIndex := 1101, descriptorIndex := 1102, attributes := #[] }, { accessFlags := 26, nameIndex := 1121, descriptorIndex := 1122, attributes := #[] }, { accessFlags := 25, nameIndex := 599, descriptorIndex := 600, attributes := #[] }, { accessFlags := 24, nameIndex := 1125, descriptorIndex := 18, attributes := #[] }, { accessFlags := 24, nameIndex := 1127, descriptorIndex := 18, attributes := #[] }])
  fields := #[{ name := "value", type := (.array .byte), accessFlags := 18, slot := 0, constantValue := 0 }, { name := "coder", type := .byte, accessFlags := 18, slot := 1, constantValue := 0 }, { name := "hash", type := .int, accessFlags := 2, slot := 2, constantValue := 0 }, { name := "hashIsZero", type := .boolean, accessFlags := 2, slot := 3, constantValue := 0 }, { name := "serialVersionUID", type := .long, accessFlags := 26, slot := 0, constantValue := 0 }, { name := "COMPACT_STRINGS", type := .boolean, accessFlags := 24, slot := 1, constantValue := 0 }, { name := "serialPersistentFields", type := (.array (.object "java/io/ObjectStreamField")), accessFlags := 26, slot := 2, constantValue := 0 }, { name := "REPL", type := .char, accessFlags := 26, slot := 3, constantValue := 0 }, { name := "CASE_INSENSITIVE_ORDER", type := (.object "java/util/Comparator"), accessFlags := 25, slot := 4, constantValue := 0 }, { name := "LATIN1", type := .byte, accessFlags := 24, slot := 5, constantValue := 0 }, { name := "UTF16", type := .byte, accessFlags := 24, slot := 6, constantValue := 0 }]
  methods := #[k7m0, k7m1, k7m2, k7m3, k7m4, k7m5]
  instanceTypes := #[(.array .byte), .byte, .int, .boolean]
  staticTypes := #[.long, .boolean, (.array (.object "java/io/ObjectStreamField")), .char, (.object "java/util/Comparator"), .byte, .byte]
  resolved := Array.replicate 1451 none
  statics := some 0 }

def pool8 : Array CpInfo := pool [(1, .methodref 2 3), (0, .class_ 4), (0, .nameAndType 5 6), (0, u "java/lang/Object"), (0, u "<init>"), (0, u "()V"), (0, .fieldref 8 9), (0, .class_ 10), (0, .nameAndType 11 12), (0, u "com/example/vestry/vestry/JsonText$Numeral"), (0, u "written"), (0, u "Ljava/lang/String;"), (0, .methodref 14 15), (0, .class_ 16), (0, .nameAndType 17 18), (0, u "java/lang/String"), (0, u "equals"), (0, u "(Ljava/lang/Object;)Z"), (4, u "(Ljava/lang/String;)V"), (8, .class_ 33), (0, u "com/example/vestry/vestry/JsonText")] 2

def k8c0 : Code := { maxStack := 2, maxLocals := 2, code := prog_67_method_1_code, exceptionTable := #[], attributes := #[] }
def k8m0 : Method := { name := "<init>", desc := "(Ljava/lang/String;)V", sig := { parameters := [(.object "java/lang/String")], returnType := none }, accessFlags := 0, code := some k8c0 }
def k8c1 : Code := { maxStack := 2, maxLocals := 2, code := prog_67_method_3_code, exceptionTable := #[], attributes := #[] }
def k8m1 : Method := { name := "equals", desc := "(Ljava/lang/Object;)Z", sig := { parameters := [(.object "java/lang/Object")], returnType := some .boolean }, accessFlags := 1, code := some k8c1 }
/-- com/example/vestry/vestry/JsonText$Numeral -/
def k8 : Class := { plain "com/example/vestry/vestry/JsonText$Numeral" (some 0) with
  accessFlags := 48
  interfaces := #[]
  cf := some (fileOf pool8 8 #[.nestHost 32] #[{ accessFlags := 0, nameIndex := 5, descriptorIndex := 23, attributes := #[] }, { accessFlags := 1, nameIndex := 17, descriptorIndex := 18, attributes := #[] }] 48 2 #[] #[{ accessFlags := 18, nameIndex := 11, descriptorIndex := 12, attributes := #[] }])
  fields := #[{ name := "written", type := (.object "java/lang/String"), accessFlags := 18, slot := 0, constantValue := 0 }]
  methods := #[k8m0, k8m1]
  instanceTypes := #[(.object "java/lang/String")]
  staticTypes := #[]
  resolved := Array.replicate 36 none
  statics := none }

def pool9 : Array CpInfo := pool [(4, .class_ 6), (1, u "java/lang/Object"), (0, u "<init>"), (0, u "()V"), (5, .class_ 16), (1, u "java/lang/StringLatin1"), (73, u "canEncode"), (14, u "(C)Z"), (15, u "$assertionsDisabled"), (0, u "Z"), (98, .class_ 223), (1, u "java/lang/StringLatin1$LinesSpliterator"), (57, u "equals"), (0, u "([B[B)Z"), (97, u "toBytes"), (1, u "(C)[B"), (7, .class_ 391), (0, u "java/lang/StringLatin1$CharsSpliterator")] 3

def k9m0 : Method := { name := "<init>", desc := "()V", sig := { parameters := [], returnType := none }, accessFlags := 0, code := none }
def k9c1 : Code := { maxStack := 2, maxLocals := 1, code := jdk_43_method_3_code, exceptionTable := #[], attributes := #[] }
def k9m1 : Method := { name := "canEncode", desc := "(C)Z", sig := { parameters := [.char], returnType := some .boolean }, accessFlags := 9, code := some k9c1 }
def k9c2 : Code := { maxStack := 3, maxLocals := 3, code := jdk_43_method_13_code, exceptionTable := #[], attributes := #[] }
def k9m2 : Method := { name := "equals", desc := "([B[B)Z", sig := { parameters := [(.array .byte), (.array .byte)], returnType := some .boolean }, accessFlags := 9, code := some k9c2 }
def k9c3 : Code := { maxStack := 4, maxLocals := 1, code := jdk_43_method_46_code, exceptionTable := #[], attributes := #[] }
def k9m3 : Method := { name := "toBytes", desc := "(C)[B", sig := { parameters := [.char], returnType := some (.array .byte) }, accessFlags := 9, code := some k9c3 }
/-- java/lang/StringLatin1 -/
def k9 : Class := { plain "java/lang/StringLatin1" (some 0) with
  accessFlags := 48
  interfaces := #[]
  cf := some (fileOf pool9 14 #[.nestMembers #[390, 221]] #[{ accessFlags := 0, nameIndex := 7, descriptorIndex := 8, attributes := #[] }, { accessFlags := 9, nameIndex := 90, descriptorIndex := 105, attributes := #[] }, { accessFlags := 9, nameIndex := 281, descriptorIndex := 282, attributes := #[] }, { accessFlags := 9, nameIndex := 380, descriptorIndex := 382, attributes := #[] }] 48 4 #[] #[{ accessFlags := 4120, nameIndex := 121, descriptorIndex := 122, attributes := #[] }])
  fields := #[{ name := "$assertionsDisabled", type := .boolean, accessFlags := 4120, slot := 0, constantValue := 0 }]
  methods := #[k9m0, k9m1, k9m2, k9m3]
  instanceTypes := #[]
  staticTypes := #[.boolean]
  resolved := Array.replicate 395 none
  statics := none }

def pool10 : Array CpInfo := pool [(6, .class_ 8), (1, u "java/lang/Object"), (0, u "<init>"), (0, u "()V"), (1, .class_ 14), (1, u "java/lang/StringUTF16"), (31, u "$assertionsDisabled"), (0, u "Z"), (13, u "HI_BYTE_SHIFT"), (0, u "I"), (2, u "LO_BYTE_SHIFT"), (49, .methodref 12 116), (0, .nameAndType 117 118), (0, u "compress"), (0, u "([CI[BII)I"), (3, u "([CII)[B"), (138, u "coderFromArrayLen"), (0, u "([BI)B"), (106, .class_ 371), (1, u "java/lang/StringUTF16$LinesSpliterator"), (58, u "MAX_LENGTH"), (196, .class_ 628), (0, u "java/lang/StringUTF16$CodePointsSpliterator"), (0, .class_ 630), (0, u "java/lang/StringUTF16$CharsSpliterator")] 4

def k10m0 : Method := { name := "<init>", desc := "()V", sig := { parameters := [], returnType := none }, accessFlags := 0, code := none }
def k10c1 : Code := { maxStack := 2, maxLocals := 2, code := jdk_52_method_15_code, exceptionTable := #[], attributes := #[] }
def k10m1 : Method := { name := "coderFromArrayLen", desc := "([BI)B", sig := { parameters := [(.array .byte), .int], returnType := some .byte }, accessFlags := 8, code := some k10c1 }
def k10c2 : Code := { maxStack := 5, maxLocals := 6, code := jdk_52_method_16_code, exceptionTable := #[], attributes := #[] }
def k10m2 : Method := { name := "compress", desc := "([CII)[B", sig := { parameters := [(.array .char), .int, .int], returnType := some (.array .byte) }, accessFlags := 9, code := some k10c2 }
def k10c3 : Code := { maxStack := 3, maxLocals := 7, code := jdk_52_method_21_code, exceptionTable := #[], attributes := #[] }
def k10m3 : Method := { name := "compress", desc := "([CI[BII)I", sig := { parameters := [(.array .char), .int, (.array .byte), .int, .int], returnType := some .int }, accessFlags := 9, code := some k10c3 }
/-- java/lang/StringUTF16 -/
def k10 : Class := { plain "java/lang/StringUTF16" (some 0) with
  accessFlags := 48
  interfaces := #[]
  cf := some (fileOf pool10 12 #[.nestMembers #[627, 629, 369]] #[{ accessFlags := 0, nameIndex := 9, descriptorIndex := 10, attributes := #[] }, { accessFlags := 8, nameIndex := 261, descriptorIndex := 262, attributes := #[] }, { accessFlags := 9, nameIndex := 117, descriptorIndex := 122, attributes := #[] }, { accessFlags := 9, nameIndex := 117, descriptorIndex := 118, attributes := #[] }] 48 6 #[] #[{ accessFlags := 26, nameIndex := 61, descriptorIndex := 62, attributes := #[] }, { accessFlags := 26, nameIndex := 65, descriptorIndex := 62, attributes := #[] }, { accessFlags := 24, nameIndex := 430, descriptorIndex := 62, attributes := #[] }, { accessFlags := 4120, nameIndex := 46, descriptorIndex := 47, attributes := #[] }])
  fields := #[{ name := "HI_BYTE_SHIFT", type := .int, accessFlags := 26, slot := 0, constantValue := 0 }, { name := "LO_BYTE_SHIFT", type := .int, accessFlags := 26, slot := 1, constantValue := 0 }, { name := "MAX_LENGTH", type := .int, accessFlags := 24, slot := 2, constantValue := 0 }, { name := "$assertionsDisabled", type := .boolean, accessFlags := 4120, slot := 3, constantValue := 0 }]
  methods := #[k10m0, k10m1, k10m2, k10m3]
  instanceTypes := #[]
  staticTypes := #[.int, .int, .int, .boolean]
  resolved := Array.replicate 635 none
  statics := none }

def pool11 : Array CpInfo := pool [(2, .class_ 4), (1, u "java/lang/Object"), (0, u "<init>"), (0, u "()V"), (17, .class_ 26), (1, u "jdk/internal/util/Preconditions"), (28, .class_ 56), (0, u "jdk/internal/util/Preconditions$4"), (57, .class_ 115), (0, u "jdk/internal/util/Preconditions$1"), (7, u "SIOOBE_FORMATTER"), (0, u "Ljava/util/function/BiFunction;"), (0, .class_ 126), (0, u "jdk/internal/util/Preconditions$2"), (3, u "AIOOBE_FORMATTER"), (0, .class_ 132), (0, u "jdk/internal/util/Preconditions$3"), (3, u "IOOBE_FORMATTER")] 57

def k11m0 : Method := { name := "<init>", desc := "()V", sig := { parameters := [], returnType := none }, accessFlags := 1, code := none }
/-- jdk/internal/util/Preconditions -/
def k11 : Class := { plain "jdk/internal/util/Preconditions" (some 0) with
  accessFlags := 33
  interfaces := #[]
  cf := some (fileOf pool11 24 #[.nestMembers #[55, 131, 125, 114]] #[{ accessFlags := 1, nameIndex := 5, descriptorIndex := 6, attributes := #[] }] 33 2 #[] #[{ accessFlags := 25, nameIndex := 123, descriptorIndex := 124, attributes := #[] }, { accessFlags := 25, nameIndex := 130, descriptorIndex := 124, attributes := #[] }, { accessFlags := 25, nameIndex := 136, descriptorIndex := 124, attributes := #[] }])
  fields := #[{ name := "SIOOBE_FORMATTER", type := (.object "java/util/function/BiFunction"), accessFlags := 25, slot := 0, constantValue := 0 }, { name := "AIOOBE_FORMATTER", type := (.object "java/util/function/BiFunction"), accessFlags := 25, slot := 1, constantValue := 0 }, { name := "IOOBE_FORMATTER", type := (.object "java/util/function/BiFunction"), accessFlags := 25, slot := 2, constantValue := 0 }]
  methods := #[k11m0]
  instanceTypes := #[]
  staticTypes := #[(.object "java/util/function/BiFunction"), (.object "java/util/function/BiFunction"), (.object "java/util/function/BiFunction")]
  resolved := Array.replicate 194 none
  statics := some 1 }

def pool12 : Array CpInfo := pool [(9, u "<init>"), (6, .class_ 18), (1, u "java/lang/Object"), (0, u "()V"), (1, .class_ 23), (1, u "jdk/internal/util/ArraysSupport"), (0, u "LOG2_ARRAY_LONG_INDEX_SCALE"), (0, u "I"), (2, u "U"), (0, u "Ljdk/internal/misc/Unsafe;"), (8, u "BIG_ENDIAN"), (0, u "Z"), (8, u "LOG2_BYTE_BIT_SIZE"), (4, u "LOG2_ARRAY_INT_INDEX_SCALE"), (54, u "JLA"), (0, u "Ljdk/internal/access/JavaLangAccess;"), (11, u "LOG2_ARRAY_BOOLEAN_INDEX_SCALE"), (9, u "LOG2_ARRAY_BYTE_INDEX_SCALE"), (5, u "LOG2_ARRAY_CHAR_INDEX_SCALE"), (5, u "LOG2_ARRAY_SHORT_INDEX_SCALE"), (18, u "LOG2_ARRAY_FLOAT_INDEX_SCALE"), (24, u "LOG2_ARRAY_DOUBLE_INDEX_SCALE"), (89, u "T_BOOLEAN"), (2, u "T_CHAR"), (1, u "T_FLOAT"), (1, u "T_DOUBLE"), (1, u "T_BYTE"), (1, u "T_SHORT"), (1, u "T_INT"), (1, u "T_LONG"), (1, u "SOFT_MAX_ARRAY_LENGTH")] 83

def k12m0 : Method := { name := "<init>", desc := "()V", sig := { parameters := [], returnType := none }, accessFlags := 2, code := none }
/-- jdk/internal/util/ArraysSupport -/
def k12 : Class := { plain "jdk/internal/util/ArraysSupport" (some 0) with
  accessFlags := 33
  interfaces := #[]
  cf := some (fileOf pool12 21 #[] #[{ accessFlags := 2, nameIndex := 9, descriptorIndex := 19, attributes := #[] }] 33 16 #[] #[{ accessFlags := 24, nameIndex := 28, descriptorIndex := 29, attributes := #[] }, { accessFlags := 26, nameIndex := 38, descriptorIndex := 39, attributes := #[] }, { accessFlags := 25, nameIndex := 121, descriptorIndex := 25, attributes := #[] }, { accessFlags := 25, nameIndex := 131, descriptorIndex := 25, attributes := #[] }, { accessFlags := 25, nameIndex := 137, descriptorIndex := 25, attributes := #[] }, { accessFlags := 25, nameIndex := 143, descriptorIndex := 25, attributes := #[] }, { accessFlags := 25, nameIndex := 53, descriptorIndex := 25, attributes := #[] }, { accessFlags := 25, nameIndex := 24, descriptorIndex := 25, attributes := #[] }, { accessFlags := 25, nameIndex := 162, descriptorIndex := 25, attributes := #[] }, { accessFlags := 25, nameIndex := 187, descriptorIndex := 25, attributes := #[] }, { accessFlags := 26, nameIndex := 48, descriptorIndex := 25, attributes := #[] }, { accessFlags := 25, nameIndex := 277, descriptorIndex := 25, attributes := #[] }, { accessFlags := 25, nameIndex := 280, descriptorIndex := 25, attributes := #[] }, { accessFlags := 25, nameIndex := 282, descriptorIndex := 25, attributes := #[] }, { accessFlags := 25, nameIndex := 284, descriptorIndex := 25, attributes := #[] }, { accessFlags := 25, nameIndex := 286, descriptorIndex := 25, attributes := #[] }, { accessFlags := 25, nameIndex := 288, descriptorIndex := 25, attributes := #[] }, { accessFlags := 25, nameIndex := 290, descriptorIndex := 25, attributes := #[] }, { accessFlags := 25, nameIndex := 292, descriptorIndex := 25, attributes := #[] }, { accessFlags := 26, nameIndex := 108, descriptorIndex := 109, attributes := #[] }, { accessFlags := 25, nameIndex := 294, descriptorIndex := 25, attributes := #[] }])
  fields := #[{ name := "U", type := (.object "jdk/internal/misc/Unsafe"), accessFlags := 24, slot := 0, constantValue := 0 }, { name := "BIG_ENDIAN", type := .boolean, accessFlags := 26, slot := 1, constantValue := 0 }, { name := "LOG2_ARRAY_BOOLEAN_INDEX_SCALE", type := .int, accessFlags := 25, slot := 2, constantValue := 0 }, { name := "LOG2_ARRAY_BYTE_INDEX_SCALE", type := .int, accessFlags := 25, slot := 3, constantValue := 0 }, { name := "LOG2_ARRAY_CHAR_INDEX_SCALE", type := .int, accessFlags := 25, slot := 4, constantValue := 0 }, { name := "LOG2_ARRAY_SHORT_INDEX_SCALE", type := .int, accessFlags := 25, slot := 5, constantValue := 0 }, { name := "LOG2_ARRAY_INT_INDEX_SCALE", type := .int, accessFlags := 25, slot := 6, constantValue := 0 }, { name := "LOG2_ARRAY_LONG_INDEX_SCALE", type := .int, accessFlags := 25, slot := 7, constantValue := 0 }, { name := "LOG2_ARRAY_FLOAT_INDEX_SCALE", type := .int, accessFlags := 25, slot := 8, constantValue := 0 }, { name := "LOG2_ARRAY_DOUBLE_INDEX_SCALE", type := .int, accessFlags := 25, slot := 9, constantValue := 0 }, { name := "LOG2_BYTE_BIT_SIZE", type := .int, accessFlags := 26, slot := 10, constantValue := 0 }, { name := "T_BOOLEAN", type := .int, accessFlags := 25, slot := 11, constantValue := 0 }, { name := "T_CHAR", type := .int, accessFlags := 25, slot := 12, constantValue := 0 }, { name := "T_FLOAT", type := .int, accessFlags := 25, slot := 13, constantValue := 0 }, { name := "T_DOUBLE", type := .int, accessFlags := 25, slot := 14, constantValue := 0 }, { name := "T_BYTE", type := .int, accessFlags := 25, slot := 15, constantValue := 0 }, { name := "T_SHORT", type := .int, accessFlags := 25, slot := 16, constantValue := 0 }, { name := "T_INT", type := .int, accessFlags := 25, slot := 17, constantValue := 0 }, { name := "T_LONG", type := .int, accessFlags := 25, slot := 18, constantValue := 0 }, { name := "JLA", type := (.object "jdk/internal/access/JavaLangAccess"), accessFlags := 26, slot := 19, constantValue := 0 }, { name := "SOFT_MAX_ARRAY_LENGTH", type := .int, accessFlags := 25, slot := 20, constantValue := 0 }]
  methods := #[k12m0]
  instanceTypes := #[]
  staticTypes := #[(.object "jdk/internal/misc/Unsafe"), .boolean, .int, .int, .int, .int, .int, .int, .int, .int, .int, .int, .int, .int, .int, .int, .int, .int, .int, (.object "jdk/internal/access/JavaLangAccess"), .int]
  resolved := Array.replicate 378 none
  statics := none }

def pool13 : Array CpInfo := pool [(1, u "java/lang/Cloneable"), (0, .class_ 1), (0, u "java/lang/Object"), (0, .class_ 3)] 3

/-- java/lang/Cloneable -/
def k13 : Class := { plain "java/lang/Cloneable" (some 0) with
  accessFlags := 1537
  interfaces := #[]
  cf := some (fileOf pool13 2 #[] #[] 1537 4 #[] #[])
  fields := #[]
  methods := #[]
  instanceTypes := #[]
  staticTypes := #[]
  resolved := Array.replicate 8 none
  statics := none }

/-- the primitive byte -/
def k14 : Class := { plain "byte" none with kind := .primitive 'B', accessFlags := 0x411 }
/-- [B -/
def k15 : Class := { plain "[B" (some 0) with kind := .array 14 .byte, interfaces := #[13, 2], accessFlags := 1041 }

/-- the primitive char -/
def k16 : Class := { plain "char" none with kind := .primitive 'C', accessFlags := 0x411 }
/-- [C -/
def k17 : Class := { plain "[C" (some 0) with kind := .array 16 .char, interfaces := #[13, 2], accessFlags := 1041 }

/-- the primitive int -/
def k18 : Class := { plain "int" none with kind := .primitive 'I', accessFlags := 0x411 }
/-- [I -/
def k19 : Class := { plain "[I" (some 0) with kind := .array 18 .int, interfaces := #[13, 2], accessFlags := 1041 }

def heap : Heap := #[{ cls := 7, slots := #[.long 0, .int 1, .null, .int 0, .null, .int 0, .int 0], vm := .statics 7 },
  { cls := 11, slots := #[.null, .null, .null], vm := .statics 11 }]
def classes : Array Class := #[k0, k1, k2, k3, k4, k5, k6, k7, k8, k9, k10, k11, k12, k13, k14, k15, k16, k17, k18, k19]
def interned : List (Array UInt16 × Addr) := []
def slotsUsed : Nat := 10
def theMethod : MethodId := ⟨1, 4⟩
def args0 : Array Value := #[.int 1, .int 2, .int 0]
def aboutOver (below : List Frame) : State where
  vm := { classes := classes, interned := interned.toArray }
  heap := heap
  slotsUsed := slotsUsed
  threads := #[{ frames := .invoking theMethod args0 :: below }]
def below0 : List Frame := [.native { method := ⟨0, 0⟩, args := #[] }]
def about1 : State := aboutOver below0
def p0 : Program := .bare "" "" ""
def e0 : Env := launch0.env 0 0 0
theorem w_frames : about1.frames = Frame.invoking theMethod args0 :: below0 := rfl
set_option maxRecDepth 65536 in
theorem w_args : argsFit about1.vm theMethod args0 = true := by decide +kernel
set_option maxRecDepth 65536 in
theorem w_heap : heapFits about1 = true := by decide +kernel
set_option maxRecDepth 65536 in
theorem w_runnable : about1.curStatus? = some .runnable := by decide +kernel
set_option maxRecDepth 65536 in
theorem w_alone : about1.alone = true := by decide +kernel
set_option maxRecDepth 65536 in
theorem w_named : about1.methodNamed? x = some theMethod := by decide +kernel
set_option maxRecDepth 65536 in
theorem w_hears : about1.hears theMethod below0 = true := by decide +kernel
set_option maxRecDepth 65536 in
theorem w_ripe : about1.ripe theMethod args0 below0 = true := by decide +kernel
theorem w_running : about1.status = .running := rfl
set_option maxRecDepth 65536 in
theorem w_room : about1.hasRoom e0.platform room_1 = true :=
  launch0.hasRoom_least _ room_1 (by decide +kernel) (by decide +kernel) (by decide +kernel) (by decide +kernel) (by decide +kernel) (by decide +kernel)
theorem allAtoms_all (ts : List Jvm.Cond) (a : Array Jvm.Value) (st : Jvm.State) : (allAtoms ts).before a st = ts.all (fun c => c.before a st) := by
  induction ts with
  | nil => rfl
  | cons c t ih =>
    show (Jvm.Cond.and c (allAtoms t)).before a st = _
    rw [Jvm.Cond.before_and, ih, List.all_cons]
def words1 : List Jvm.Cond := Jvm.Cond.code x code maxLocals ret :: tables_1
/-- a 'code' word, met by the world's own term for the bytes: nothing is compared byte by byte -/
theorem code_word {y : MethodName} {bytes : ByteArray} {mx : Nat} {rt : Option FieldType} {a : Array Value} {s : State} {m : MethodId} {meth : Method} {c : Code} (h1 : s.methodNamed? y = some m) (h2 : s.vm.method? m = some meth) (h3 : meth.code = some c) (h4 : c.code = bytes)
    (h5 : (c.maxLocals == mx && c.exceptionTable.isEmpty && decide (c.maxStack ≤ mostOperands) && decide (meth.sig.returnType = rt) && !meth.locks && decide (parseMethodDescriptor y.desc = some meth.sig)) = true) : (Jvm.Cond.code y bytes mx rt).before a s = true := by
  simp only [Bool.and_eq_true, beq_iff_eq, Bool.not_eq_true', decide_eq_true_eq] at h5
  obtain ⟨⟨⟨⟨⟨g1, g2⟩, g3⟩, g4⟩, g5⟩, g6⟩ := h5
  simp [Cond.before, Cond.holds, Cond.value, h1, h2, h3, h4, g1, g2, g3, g4, g5, g6]
def isCode : Jvm.Cond → Bool
  | .code _ _ _ _ => true
  | _ => false
theorem all_split {L : List Jvm.Cond} {P : Jvm.Cond → Bool} (h1 : L.all (fun c => isCode c || P c) = true) (h2 : ∀ c ∈ L.filter isCode, P c = true) : L.all P = true := by
  refine List.all_eq_true.mpr fun c hc => ?_
  have h := List.all_eq_true.mp h1 c hc
  rcases Bool.eq_false_or_eq_true (isCode c) with hi | hi
  · exact h2 c (List.mem_filter.mpr ⟨hc, hi⟩)
  · simpa [hi] using h
set_option maxRecDepth 65536 in
theorem w_c0 : (Jvm.Cond.code x code maxLocals ret).before args0 about1 = true := code_word (m := ⟨1, 4⟩) (meth := k1m4) (c := k1c4) (by decide +kernel) rfl rfl rfl (by decide +kernel)
set_option maxRecDepth 65536 in
theorem w_c1 : (Jvm.Cond.code ({ cls := "com/example/vestry/vestry/NumeralEqualsPinLaw", name := "draw", desc := "(I)Ljava/lang/String;" } : Jvm.MethodName) method_3_code (5 : Nat) (Option.some (Jvm.ClassFile.FieldType.object "java/lang/String"))).before args0 about1 = true := code_word (m := ⟨1, 2⟩) (meth := k1m2) (c := k1c2) (by decide +kernel) rfl rfl rfl (by decide +kernel)
set_option maxRecDepth 65536 in
theorem w_c2 : (Jvm.Cond.code ({ cls := "com/example/vestry/vestry/NumeralEqualsPinLaw", name := "len", desc := "(I)I" } : Jvm.MethodName) method_2_code (1 : Nat) (Option.some Jvm.ClassFile.FieldType.int)).before args0 about1 = true := code_word (m := ⟨1, 1⟩) (meth := k1m1) (c := k1c1) (by decide +kernel) rfl rfl rfl (by decide +kernel)
set_option maxRecDepth 65536 in
theorem w_c3 : (Jvm.Cond.code ({ cls := "java/lang/String", name := "<init>", desc := "([C)V" } : Jvm.MethodName) jdk_42_method_3_code (2 : Nat) (Option.none : Option Jvm.ClassFile.FieldType)).before args0 about1 = true := code_word (m := ⟨7, 1⟩) (meth := k7m1) (c := k7c1) (by decide +kernel) rfl rfl rfl (by decide +kernel)
set_option maxRecDepth 65536 in
theorem w_c4 : (Jvm.Cond.code ({ cls := "java/lang/String", name := "<init>", desc := "([CIILjava/lang/Void;)V" } : Jvm.MethodName) jdk_42_method_149_code (6 : Nat) (Option.none : Option Jvm.ClassFile.FieldType)).before args0 about1 = true := code_word (m := ⟨7, 4⟩) (meth := k7m4) (c := k7c4) (by decide +kernel) rfl rfl rfl (by decide +kernel)
set_option maxRecDepth 65536 in
theorem w_c5 : (Jvm.Cond.code ({ cls := "java/lang/Object", name := "<init>", desc := "()V" } : Jvm.MethodName) object_method_1_code (1 : Nat) (Option.none : Option Jvm.ClassFile.FieldType)).before args0 about1 = true := code_word (m := ⟨0, 0⟩) (meth := k0m0) (c := k0c0) (by decide +kernel) rfl rfl rfl (by decide +kernel)
set_option maxRecDepth 65536 in
theorem w_c6 : (Jvm.Cond.code ({ cls := "com/example/vestry/vestry/JsonText$Numeral", name := "<init>", desc := "(Ljava/lang/String;)V" } : Jvm.MethodName) prog_67_method_1_code (2 : Nat) (Option.none : Option Jvm.ClassFile.FieldType)).before args0 about1 = true := code_word (m := ⟨8, 0⟩) (meth := k8m0) (c := k8c0) (by decide +kernel) rfl rfl rfl (by decide +kernel)
set_option maxRecDepth 65536 in
theorem w_c7 : (Jvm.Cond.code ({ cls := "com/example/vestry/vestry/JsonText$Numeral", name := "equals", desc := "(Ljava/lang/Object;)Z" } : Jvm.MethodName) prog_67_method_3_code (2 : Nat) (Option.some Jvm.ClassFile.FieldType.boolean)).before args0 about1 = true := code_word (m := ⟨8, 1⟩) (meth := k8m1) (c := k8c1) (by decide +kernel) rfl rfl rfl (by decide +kernel)
set_option maxRecDepth 65536 in
theorem w_c8 : (Jvm.Cond.code ({ cls := "java/lang/String", name := "equals", desc := "(Ljava/lang/Object;)Z" } : Jvm.MethodName) jdk_42_method_66_code (3 : Nat) (Option.some Jvm.ClassFile.FieldType.boolean)).before args0 about1 = true := code_word (m := ⟨7, 2⟩) (meth := k7m2) (c := k7c2) (by decide +kernel) rfl rfl rfl (by decide +kernel)
set_option maxRecDepth 65536 in
theorem w_c9 : (Jvm.Cond.code ({ cls := "java/lang/String", name := "valueOf", desc := "(C)Ljava/lang/String;" } : Jvm.MethodName) jdk_42_method_139_code (1 : Nat) (Option.some (Jvm.ClassFile.FieldType.object "java/lang/String"))).before args0 about1 = true := code_word (m := ⟨7, 3⟩) (meth := k7m3) (c := k7c3) (by decide +kernel) rfl rfl rfl (by decide +kernel)
set_option maxRecDepth 65536 in
theorem w_c10 : (Jvm.Cond.code ({ cls := "java/lang/StringLatin1", name := "canEncode", desc := "(C)Z" } : Jvm.MethodName) jdk_43_method_3_code (1 : Nat) (Option.some Jvm.ClassFile.FieldType.boolean)).before args0 about1 = true := code_word (m := ⟨9, 1⟩) (meth := k9m1) (c := k9c1) (by decide +kernel) rfl rfl rfl (by decide +kernel)
set_option maxRecDepth 65536 in
theorem w_c11 : (Jvm.Cond.code ({ cls := "java/lang/StringLatin1", name := "toBytes", desc := "(C)[B" } : Jvm.MethodName) jdk_43_method_46_code (1 : Nat) (Option.some (Jvm.ClassFile.FieldType.array Jvm.ClassFile.FieldType.byte))).before args0 about1 = true := code_word (m := ⟨9, 3⟩) (meth := k9m3) (c := k9c3) (by decide +kernel) rfl rfl rfl (by decide +kernel)
set_option maxRecDepth 65536 in
theorem w_c12 : (Jvm.Cond.code ({ cls := "java/lang/String", name := "<init>", desc := "([BB)V" } : Jvm.MethodName) jdk_42_method_151_code (3 : Nat) (Option.none : Option Jvm.ClassFile.FieldType)).before args0 about1 = true := code_word (m := ⟨7, 5⟩) (meth := k7m5) (c := k7c5) (by decide +kernel) rfl rfl rfl (by decide +kernel)
set_option maxRecDepth 65536 in
theorem w_c13 : (Jvm.Cond.code ({ cls := "java/lang/StringUTF16", name := "compress", desc := "([CII)[B" } : Jvm.MethodName) jdk_52_method_16_code (6 : Nat) (Option.some (Jvm.ClassFile.FieldType.array Jvm.ClassFile.FieldType.byte))).before args0 about1 = true := code_word (m := ⟨10, 2⟩) (meth := k10m2) (c := k10c2) (by decide +kernel) rfl rfl rfl (by decide +kernel)
set_option maxRecDepth 65536 in
theorem w_c14 : (Jvm.Cond.code ({ cls := "java/lang/StringUTF16", name := "compress", desc := "([CI[BII)I" } : Jvm.MethodName) jdk_52_method_21_code (7 : Nat) (Option.some Jvm.ClassFile.FieldType.int)).before args0 about1 = true := code_word (m := ⟨10, 3⟩) (meth := k10m3) (c := k10c3) (by decide +kernel) rfl rfl rfl (by decide +kernel)
set_option maxRecDepth 65536 in
theorem w_c15 : (Jvm.Cond.code ({ cls := "java/lang/StringUTF16", name := "coderFromArrayLen", desc := "([BI)B" } : Jvm.MethodName) jdk_52_method_15_code (2 : Nat) (Option.some Jvm.ClassFile.FieldType.byte)).before args0 about1 = true := code_word (m := ⟨10, 1⟩) (meth := k10m1) (c := k10c1) (by decide +kernel) rfl rfl rfl (by decide +kernel)
set_option maxRecDepth 65536 in
theorem w_c16 : (Jvm.Cond.code ({ cls := "com/example/vestry/vestry/NumeralEqualsPinLaw", name := "sameText", desc := "(II)Z" } : Jvm.MethodName) method_4_code (4 : Nat) (Option.some Jvm.ClassFile.FieldType.boolean)).before args0 about1 = true := code_word (m := ⟨1, 3⟩) (meth := k1m3) (c := k1c3) (by decide +kernel) rfl rfl rfl (by decide +kernel)
set_option maxRecDepth 65536 in
theorem w_c17 : (Jvm.Cond.code ({ cls := "java/lang/StringLatin1", name := "equals", desc := "([B[B)Z" } : Jvm.MethodName) jdk_43_method_13_code (3 : Nat) (Option.some Jvm.ClassFile.FieldType.boolean)).before args0 about1 = true := code_word (m := ⟨9, 2⟩) (meth := k9m2) (c := k9c2) (by decide +kernel) rfl rfl rfl (by decide +kernel)
def codes1 : List Jvm.Cond := [Jvm.Cond.code x code maxLocals ret, Jvm.Cond.code ({ cls := "com/example/vestry/vestry/NumeralEqualsPinLaw", name := "draw", desc := "(I)Ljava/lang/String;" } : Jvm.MethodName) method_3_code (5 : Nat) (Option.some (Jvm.ClassFile.FieldType.object "java/lang/String")), Jvm.Cond.code ({ cls := "com/example/vestry/vestry/NumeralEqualsPinLaw", name := "len", desc := "(I)I" } : Jvm.MethodName) method_2_code (1 : Nat) (Option.some Jvm.ClassFile.FieldType.int), Jvm.Cond.code ({ cls := "java/lang/String", name := "<init>", desc := "([C)V" } : Jvm.MethodName) jdk_42_method_3_code (2 : Nat) (Option.none : Option Jvm.ClassFile.FieldType), Jvm.Cond.code ({ cls := "java/lang/String", name := "<init>", desc := "([CIILjava/lang/Void;)V" } : Jvm.MethodName) jdk_42_method_149_code (6 : Nat) (Option.none : Option Jvm.ClassFile.FieldType), Jvm.Cond.code ({ cls := "java/lang/Object", name := "<init>", desc := "()V" } : Jvm.MethodName) object_method_1_code (1 : Nat) (Option.none : Option Jvm.ClassFile.FieldType), Jvm.Cond.code ({ cls := "com/example/vestry/vestry/JsonText$Numeral", name := "<init>", desc := "(Ljava/lang/String;)V" } : Jvm.MethodName) prog_67_method_1_code (2 : Nat) (Option.none : Option Jvm.ClassFile.FieldType), Jvm.Cond.code ({ cls := "com/example/vestry/vestry/JsonText$Numeral", name := "equals", desc := "(Ljava/lang/Object;)Z" } : Jvm.MethodName) prog_67_method_3_code (2 : Nat) (Option.some Jvm.ClassFile.FieldType.boolean), Jvm.Cond.code ({ cls := "java/lang/String", name := "equals", desc := "(Ljava/lang/Object;)Z" } : Jvm.MethodName) jdk_42_method_66_code (3 : Nat) (Option.some Jvm.ClassFile.FieldType.boolean), Jvm.Cond.code ({ cls := "java/lang/String", name := "valueOf", desc := "(C)Ljava/lang/String;" } : Jvm.MethodName) jdk_42_method_139_code (1 : Nat) (Option.some (Jvm.ClassFile.FieldType.object "java/lang/String")), Jvm.Cond.code ({ cls := "java/lang/StringLatin1", name := "canEncode", desc := "(C)Z" } : Jvm.MethodName) jdk_43_method_3_code (1 : Nat) (Option.some Jvm.ClassFile.FieldType.boolean), Jvm.Cond.code ({ cls := "java/lang/StringLatin1", name := "toBytes", desc := "(C)[B" } : Jvm.MethodName) jdk_43_method_46_code (1 : Nat) (Option.some (Jvm.ClassFile.FieldType.array Jvm.ClassFile.FieldType.byte)), Jvm.Cond.code ({ cls := "java/lang/String", name := "<init>", desc := "([BB)V" } : Jvm.MethodName) jdk_42_method_151_code (3 : Nat) (Option.none : Option Jvm.ClassFile.FieldType), Jvm.Cond.code ({ cls := "java/lang/StringUTF16", name := "compress", desc := "([CII)[B" } : Jvm.MethodName) jdk_52_method_16_code (6 : Nat) (Option.some (Jvm.ClassFile.FieldType.array Jvm.ClassFile.FieldType.byte)), Jvm.Cond.code ({ cls := "java/lang/StringUTF16", name := "compress", desc := "([CI[BII)I" } : Jvm.MethodName) jdk_52_method_21_code (7 : Nat) (Option.some Jvm.ClassFile.FieldType.int), Jvm.Cond.code ({ cls := "java/lang/StringUTF16", name := "coderFromArrayLen", desc := "([BI)B" } : Jvm.MethodName) jdk_52_method_15_code (2 : Nat) (Option.some Jvm.ClassFile.FieldType.byte), Jvm.Cond.code ({ cls := "com/example/vestry/vestry/NumeralEqualsPinLaw", name := "sameText", desc := "(II)Z" } : Jvm.MethodName) method_4_code (4 : Nat) (Option.some Jvm.ClassFile.FieldType.boolean), Jvm.Cond.code ({ cls := "java/lang/StringLatin1", name := "equals", desc := "([B[B)Z" } : Jvm.MethodName) jdk_43_method_13_code (3 : Nat) (Option.some Jvm.ClassFile.FieldType.boolean)]
set_option maxRecDepth 65536 in
theorem codes_eq : words1.filter isCode = codes1 := rfl
theorem w_codes : ∀ c ∈ words1.filter isCode, c.before args0 about1 = true := by
  rw [codes_eq]
  intro c hc
  simp only [codes1, List.mem_cons, List.not_mem_nil, or_false] at hc
  rcases hc with rfl | rfl | rfl | rfl | rfl | rfl | rfl | rfl | rfl | rfl | rfl | rfl | rfl | rfl | rfl | rfl | rfl | rfl
  · exact w_c0
  · exact w_c1
  · exact w_c2
  · exact w_c3
  · exact w_c4
  · exact w_c5
  · exact w_c6
  · exact w_c7
  · exact w_c8
  · exact w_c9
  · exact w_c10
  · exact w_c11
  · exact w_c12
  · exact w_c13
  · exact w_c14
  · exact w_c15
  · exact w_c16
  · exact w_c17
set_option maxRecDepth 65536 in
theorem w_t1 : (words1.take 24).all (fun c => isCode c || c.before args0 about1) = true := by decide +kernel
set_option maxRecDepth 65536 in
theorem w_t2 : ((words1.drop 24).take 24).all (fun c => isCode c || c.before args0 about1) = true := by decide +kernel
set_option maxRecDepth 65536 in
theorem w_t3 : (((words1.drop 24).drop 24).take 24).all (fun c => isCode c || c.before args0 about1) = true := by decide +kernel
set_option maxRecDepth 65536 in
theorem w_t4 : (((words1.drop 24).drop 24).drop 24).all (fun c => isCode c || c.before args0 about1) = true := by decide +kernel
theorem w_tables : (allAtoms (Jvm.Cond.code x code maxLocals ret :: tables_1)).before args0 about1 = true := by
  rw [allAtoms_all]
  show words1.all (fun c => c.before args0 about1) = true
  refine all_split ?_ w_codes
  rw [← List.take_append_drop 24 words1, List.all_append, w_t1, ← List.take_append_drop 24 (words1.drop 24), List.all_append, w_t2, ← List.take_append_drop 24 ((words1.drop 24).drop 24), List.all_append, w_t3, w_t4]
  rfl
set_option maxRecDepth 65536 in
theorem w_rest : rest_1_c.before args0 about1 = true := by decide +kernel
set_option maxRecDepth 65536 in
theorem w_case : (Jvm.Cond.and given_1 narrow_1).before args0 about1 = true := by decide +kernel
set_option maxRecDepth 65536 in
theorem w_consts : constsHeld consts_1 about1 := Jvm.Lit.constsHeldB_iff.mp (by decide +kernel)
theorem w_applies : (headSpec (Jvm.Cond.code x code maxLocals ret :: tables_1) room_1).applies x e0.platform about1 = true :=
  (Spec.applies_iff w_frames).mpr ⟨w_running, w_runnable, w_alone, w_named, w_hears, w_ripe, w_room, w_tables⟩
theorem atStart : AtStart classFile x code maxLocals ret World_1 tables_1 room_1 Calls_1 rest_1 Pre_1 launch0 p0 e0 about1 theMethod args0 below0 :=
  ⟨lists_1, trivial, launch0.admits_env _ _ _, launch0.least_env, fairChoices_fair.cas, fairChoices_fair.clock, w_frames, w_args, w_heap, w_applies, ⟨w_consts, trivial⟩, w_rest, w_case⟩
end start1
theorem witness_1 : WitnessClaimed_1 := ⟨start1.p0, start1.e0, start1.about1, start1.theMethod, start1.args0, start1.below0, start1.atStart⟩
end Jvm.Pilot.@@N@@
