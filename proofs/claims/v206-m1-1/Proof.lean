import JvmDerived
import JvmDerived.Pilot.@@N@@Statement
import JvmDerived.Pilot.@@N@@Code
set_option linter.unusedVariables false
set_option linter.unusedSimpArgs false
@@BLOCK:NumsL.lean.txt@@
namespace Jvm.RoadKit
open Sem ClassFile Op Lib Jvm.Stand Jvm.Free Jvm.LawKit
section New
variable {p : Program} {l : Launch} {e : Env} {R : Room} {s : State} {m : MethodId} {args : Array Value} {below : List Frame} {meth : Method} {c : Code} {T : State} {locs : List Loc} {cells slots : Nat}
theorem retI (X : Stand p l e R s m args below meth c T locs cells slots) (hx : p.tables.exec = Jvm.exec) {pc : Nat} {Ls : Array Slot} {z : Int32} {rest : List Value} (hret : meth.sig.returnType = some .int) (hd : decode c.code pc = .ok (.ireturn, 1)) {fs : List Frame}
    (hl : ∀ (f : JFrame) (acts : List Action), f.method = m → f.locked = none → f.entered = [] → (doReturn e (T.setTop f) acts (some (.int z))).1 = T.setFrames fs) : Steps p.tables e below (T.setTop (mkF m pc Ls (.int z :: rest))) (T.setFrames fs) := by
  have hm' : T.vm.method? m = some meth := X.method'
  have hn : narrow .int (.int z) = .int z := rfl
  show Steps p.tables e below (T.setTop { method := m, pc := pc, locals := Ls, stack := _ :: rest, locked := none }) _
  jvm_step X.here [X.here.top, hx, hd, hm', hret, hn]
  first | (intro acts; rw [hl _ acts rfl rfl rfl]) | rw [hl _ _ rfl rfl rfl]
  exact Steps.refl _
end New
end Jvm.RoadKit
namespace Jvm.Pilot.@@N@@
open Jvm Jvm.ClassFile Sem Op Lib Jvm.Free Jvm.Stand Jvm.LawKit Jvm.RoadKit Bundle Jvm.Pilot.@@N@@.Jvm.D
theorem own_eqI {args : Array Value} {s : State} {a : Term} {k : Int32} (h : (Cond.eq a (.int k)).value args s none s [] = some true) : a.eval args s none [] s = some (.int k) := by
  obtain ⟨x, y, hx, hy, k1, k2⟩ := cmp_v (Or.inl h)
  obtain rfl : Value.int k = y := Option.some.inj ((Term.int_eval k).symm.trans hy)
  obtain ⟨z, rfl⟩ : ∃ z, x = .int z := k2
  have hz : z = k := gotT (Cond.eq_ints hx hy) h
  rw [hz] at hx; exact hx
theorem own_eqR {args : Array Value} {s : State} {a b : Term} {y : Addr} (hb : b.eval args s none [] s = some (.ref y)) (h : (Cond.eq a b).value args s none s [] = some true) : a.eval args s none [] s = some (.ref y) := by
  obtain ⟨x, y', hx, hy, k1, k2⟩ := cmp_v (Or.inl h)
  obtain rfl : Value.ref y = y' := Option.some.inj (hb.symm.trans hy)
  have hr : x.isRef = true := k2.2
  have hz : x = .ref y := gotT (eq_R hx hy hr rfl) h
  rw [hz] at hx; exact hx
theorem own_z {Z : State} {n0 : Nat} {h : Heap} (O : Old Z n0 h) : n0 ≤ h.size := O.1 ▸ O.2.1
theorem own_len {args : Array Value} {s : State} {t : Term} {x : Addr} {cl : Cell} {ty : FieldType} {n : Int32} (ev : t.eval args s none [] s = some (.ref x)) (A : Arr s s.heap x cl ty) (h : (Term.length t).eval args s none [] s = some (.int n)) : cl.slots.size < 2 ^ 31 ∧ cl.slots.size.toInt32 = n := by
  have ha : s.arrayAt? x = some cl := IntBox.arrayAt_of A.1 A.2.1 A.2.2
  simpa [Term.eval, ev, ha] using h
theorem own_elem {args : Array Value} {s : State} {t : Term} {x : Addr} {cl : Cell} {ty : FieldType} {j : Int32} {v : Value} {i : Nat} (ev : t.eval args s none [] s = some (.ref x)) (A : Arr s s.heap x cl ty) (h : (Term.elem t (.int j)).eval args s none [] s = some v) (hi : j.toNatClampNeg = i) : cl.slots[i]? = some v := by
  have q := (elem_in h ev (Term.int_eval j) A.1).2
  rw [hi] at q; exact q
def own_ws : List Jvm.Cond := tables_1 ++ jdkStatics_1
theorem gw (i : Nat) {d : Jvm.Cond} (h : own_ws[i]? = some d) : d ∈ own_ws := List.mem_of_getElem? h
theorem own_wS {Z : State} {a0 : Array Value} (hw : ∀ d ∈ own_ws, d.before a0 Z = true) : ∀ a ∈ Bundle.stringAtoms, a.before a0 Z = true := fun a ha => by
  simp only [Bundle.stringAtoms, List.mem_cons, List.not_mem_nil, or_false] at ha
  rcases ha with rfl | rfl | rfl | rfl | rfl | rfl | rfl
  · exact hw _ (gw 6 rfl)
  · exact hw _ (gw 5 rfl)
  · exact hw _ (gw 22 rfl)
  · exact hw _ (gw 32 rfl)
  · exact hw _ (gw 30 rfl)
  · exact hw _ (gw 43 rfl)
  · exact hw _ (gw 44 rfl)
theorem own_nar255 {y x : Int32} (h : y = x &&& 255) : nar .char y = y := by subst h; exact i2c_mask x
theorem own_i2c255 {y x : Int32} (h : y = x &&& 255) : y.toUInt32.toUInt16.toUInt32.toInt32 = y := by subst h; exact i2c_mask x
theorem own_lt255 {y x : Int32} (h : y = x &&& 255) : ¬ ((255 : Int32) < y) := by
  subst h
  have h := Jvm.Kit.i32_mask x 255 (k := 8) (by decide) (by decide +kernel)
  have e : (255 : Int32).toInt = 255 := by decide +kernel
  rw [Int32.lt_iff_toInt_lt, e]; omega
theorem own_i2b2 {y x : Int32} (h : y = x.toInt8.toInt32) : y.toInt8.toInt32 = y := by
  subst h; rw [Int8.toInt8_toInt32]
theorem own_b255 {b y x : Int32} (hb : b = y.toInt8.toInt32) (h : y = x &&& 255) : b &&& 255 = y := by
  subst hb
  have h1 := Jvm.Kit.i32_mask (y.toInt8.toInt32) 255 (k := 8) (by decide) (by decide +kernel)
  have h2 := Jvm.Kit.i32_mask x 255 (k := 8) (by decide) (by decide +kernel)
  rw [← h] at h2
  have h3 : y.toInt8.toInt32.toInt = y.toInt.bmod 256 := by rw [Int8.toInt_toInt32, Int32.toInt_toInt8]
  rw [← Int32.toInt_inj, h1, h3, Int.bmod_def]
  split <;> omega
theorem own_beq {b c y z u v : Int32} (h1 : b = y.toInt8.toInt32) (h2 : c = z.toInt8.toInt32) (h : y = z) : b = c := by rw [h1, h2, h]
theorem own_bne {b c y z u v : Int32} (h1 : b = y.toInt8.toInt32) (h2 : c = z.toInt8.toInt32) (m1 : y = u &&& 255) (m2 : z = v &&& 255) (h : ¬ y = z) : ¬ b = c := fun q => h (by rw [← own_b255 h1 m1, ← own_b255 h2 m2, q])
theorem own_ltk {y x k : Int32} (h : y = x &&& 255) (hk : 255 < k.toInt) : y < k := by
  subst h
  have h := Jvm.Kit.i32_mask x 255 (k := 8) (by decide) (by decide +kernel)
  rw [Int32.lt_iff_toInt_lt]; omega
theorem d1_0 : decode jdk_42_method_3_code 0 = .ok (.aload_n 0, 1) := by decide +kernel
theorem d1_1 : decode jdk_42_method_3_code 1 = .ok (.aload_n 1, 1) := by decide +kernel
theorem d1_2 : decode jdk_42_method_3_code 2 = .ok (.iconst 0, 1) := by decide +kernel
theorem d1_3 : decode jdk_42_method_3_code 3 = .ok (.aload_n 1, 1) := by decide +kernel
theorem d1_4 : decode jdk_42_method_3_code 4 = .ok (.arraylength, 1) := by decide +kernel
theorem d1_5 : decode jdk_42_method_3_code 5 = .ok (.aconst_null, 1) := by decide +kernel
theorem d1_6 : decode jdk_42_method_3_code 6 = .ok (.invokespecial 27, 3) := by decide +kernel
theorem d2_0 : decode jdk_42_method_149_code 0 = .ok (.aload_n 0, 1) := by decide +kernel
theorem d2_1 : decode jdk_42_method_149_code 1 = .ok (.invokespecial 1, 3) := by decide +kernel
theorem d2_4 : decode jdk_42_method_149_code 4 = .ok (.iload_n 3, 1) := by decide +kernel
theorem d2_5 : decode jdk_42_method_149_code 5 = .ok (.ifCond .ne 22, 3) := by decide +kernel
theorem d2_27 : decode jdk_42_method_149_code 27 = .ok (.getstatic 38, 3) := by decide +kernel
theorem d2_30 : decode jdk_42_method_149_code 30 = .ok (.ifCond .eq 28, 3) := by decide +kernel
theorem d2_33 : decode jdk_42_method_149_code 33 = .ok (.aload_n 1, 1) := by decide +kernel
theorem d2_34 : decode jdk_42_method_149_code 34 = .ok (.iload_n 2, 1) := by decide +kernel
theorem d2_35 : decode jdk_42_method_149_code 35 = .ok (.iload_n 3, 1) := by decide +kernel
theorem d2_36 : decode jdk_42_method_149_code 36 = .ok (.invokestatic 177, 3) := by decide +kernel
theorem d4_0 : decode jdk_52_method_16_code 0 = .ok (.iload_n 2, 1) := by decide +kernel
theorem d4_1 : decode jdk_52_method_16_code 1 = .ok (.newarray .byte, 2) := by decide +kernel
theorem d4_3 : decode jdk_52_method_16_code 3 = .ok (.astore_n 3, 1) := by decide +kernel
theorem d4_4 : decode jdk_52_method_16_code 4 = .ok (.aload_n 0, 1) := by decide +kernel
theorem d4_5 : decode jdk_52_method_16_code 5 = .ok (.iload_n 1, 1) := by decide +kernel
theorem d4_6 : decode jdk_52_method_16_code 6 = .ok (.aload_n 3, 1) := by decide +kernel
theorem d4_7 : decode jdk_52_method_16_code 7 = .ok (.iconst 0, 1) := by decide +kernel
theorem d4_8 : decode jdk_52_method_16_code 8 = .ok (.iload_n 2, 1) := by decide +kernel
theorem d4_9 : decode jdk_52_method_16_code 9 = .ok (.invokestatic 115, 3) := by decide +kernel
theorem d5_0 : decode jdk_52_method_21_code 0 = .ok (.iconst 0, 1) := by decide +kernel
theorem d5_1 : decode jdk_52_method_21_code 1 = .ok (.istore 5, 2) := by decide +kernel
theorem d5_3 : decode jdk_52_method_21_code 3 = .ok (.iload 5, 2) := by decide +kernel
theorem d5_5 : decode jdk_52_method_21_code 5 = .ok (.iload 4, 2) := by decide +kernel
theorem d5_7 : decode jdk_52_method_21_code 7 = .ok (.if_icmp .ge 37, 3) := by decide +kernel
theorem d5_10 : decode jdk_52_method_21_code 10 = .ok (.aload_n 0, 1) := by decide +kernel
theorem d5_11 : decode jdk_52_method_21_code 11 = .ok (.iload_n 1, 1) := by decide +kernel
theorem d5_12 : decode jdk_52_method_21_code 12 = .ok (.caload, 1) := by decide +kernel
theorem d5_13 : decode jdk_52_method_21_code 13 = .ok (.istore 6, 2) := by decide +kernel
theorem d5_15 : decode jdk_52_method_21_code 15 = .ok (.iload 6, 2) := by decide +kernel
theorem d5_17 : decode jdk_52_method_21_code 17 = .ok (.sipush 255, 3) := by decide +kernel
theorem d5_20 : decode jdk_52_method_21_code 20 = .ok (.if_icmp .le 6, 3) := by decide +kernel
theorem d5_26 : decode jdk_52_method_21_code 26 = .ok (.aload_n 2, 1) := by decide +kernel
theorem d5_27 : decode jdk_52_method_21_code 27 = .ok (.iload_n 3, 1) := by decide +kernel
theorem d5_28 : decode jdk_52_method_21_code 28 = .ok (.iload 6, 2) := by decide +kernel
theorem d5_30 : decode jdk_52_method_21_code 30 = .ok (.i2b, 1) := by decide +kernel
theorem d5_31 : decode jdk_52_method_21_code 31 = .ok (.bastore, 1) := by decide +kernel
theorem d5_32 : decode jdk_52_method_21_code 32 = .ok (.iinc 1 1, 3) := by decide +kernel
theorem d5_35 : decode jdk_52_method_21_code 35 = .ok (.iinc 3 1, 3) := by decide +kernel
theorem d5_38 : decode jdk_52_method_21_code 38 = .ok (.iinc 5 1, 3) := by decide +kernel
theorem d5_41 : decode jdk_52_method_21_code 41 = .ok (.goto (-38), 3) := by decide +kernel
theorem d5_44 : decode jdk_52_method_21_code 44 = .ok (.iload 4, 2) := by decide +kernel
theorem d5_46 : decode jdk_52_method_21_code 46 = .ok (.ireturn, 1) := by decide +kernel
abbrev M_0 : MethodName := ⟨"java/lang/StringUTF16", "compress", "([CI[BII)I"⟩
theorem pn_0 : plainName "java/lang/StringUTF16" = true := by first | (simp [plainName, overriddenIn]; done) | decide +kernel
theorem pd_0 : parseMethodDescriptor "([CI[BII)I" = some ⟨[(.array .char), .int, (.array .byte), .int, .int], some .int⟩ := by decide +kernel
theorem d4_12 : decode jdk_52_method_16_code 12 = .ok (.istore 4, 2) := by decide +kernel
theorem d4_14 : decode jdk_52_method_16_code 14 = .ok (.iload 4, 2) := by decide +kernel
theorem d4_16 : decode jdk_52_method_16_code 16 = .ok (.iload_n 2, 1) := by decide +kernel
theorem d4_17 : decode jdk_52_method_16_code 17 = .ok (.if_icmp .eq 40, 3) := by decide +kernel
theorem d4_57 : decode jdk_52_method_16_code 57 = .ok (.aload_n 3, 1) := by decide +kernel
theorem d4_58 : decode jdk_52_method_16_code 58 = .ok (.areturn, 1) := by decide +kernel
abbrev M_1 : MethodName := ⟨"java/lang/StringUTF16", "compress", "([CII)[B"⟩
theorem pd_1 : parseMethodDescriptor "([CII)[B" = some ⟨[(.array .char), .int, .int], some (.array .byte)⟩ := by decide +kernel
theorem d2_39 : decode jdk_42_method_149_code 39 = .ok (.astore 5, 2) := by decide +kernel
theorem d2_41 : decode jdk_42_method_149_code 41 = .ok (.aload_n 0, 1) := by decide +kernel
theorem d2_42 : decode jdk_42_method_149_code 42 = .ok (.aload 5, 2) := by decide +kernel
theorem d2_44 : decode jdk_42_method_149_code 44 = .ok (.iload_n 3, 1) := by decide +kernel
theorem d2_45 : decode jdk_42_method_149_code 45 = .ok (.invokestatic 47, 3) := by decide +kernel
theorem d6_0 : decode jdk_52_method_15_code 0 = .ok (.iload_n 1, 1) := by decide +kernel
theorem d6_1 : decode jdk_52_method_15_code 1 = .ok (.aload_n 0, 1) := by decide +kernel
theorem d6_2 : decode jdk_52_method_15_code 2 = .ok (.arraylength, 1) := by decide +kernel
theorem d6_3 : decode jdk_52_method_15_code 3 = .ok (.isub, 1) := by decide +kernel
theorem d6_4 : decode jdk_52_method_15_code 4 = .ok (.bipush 31, 2) := by decide +kernel
theorem d6_6 : decode jdk_52_method_15_code 6 = .ok (.iushr, 1) := by decide +kernel
theorem d6_7 : decode jdk_52_method_15_code 7 = .ok (.i2b, 1) := by decide +kernel
theorem d6_8 : decode jdk_52_method_15_code 8 = .ok (.ireturn, 1) := by decide +kernel
abbrev M_2 : MethodName := ⟨"java/lang/StringUTF16", "coderFromArrayLen", "([BI)B"⟩
theorem pd_2 : parseMethodDescriptor "([BI)B" = some ⟨[(.array .byte), .int], some .byte⟩ := by decide +kernel
theorem d2_48 : decode jdk_42_method_149_code 48 = .ok (.putfield 15, 3) := by decide +kernel
theorem d2_51 : decode jdk_42_method_149_code 51 = .ok (.aload_n 0, 1) := by decide +kernel
theorem d2_52 : decode jdk_42_method_149_code 52 = .ok (.aload 5, 2) := by decide +kernel
theorem d2_54 : decode jdk_42_method_149_code 54 = .ok (.putfield 9, 3) := by decide +kernel
theorem d2_57 : decode jdk_42_method_149_code 57 = .ok (.return_, 1) := by decide +kernel
abbrev M_3 : MethodName := ⟨"java/lang/String", "<init>", "([CIILjava/lang/Void;)V"⟩
theorem pn_1 : plainName "java/lang/String" = true := by first | (simp [plainName, overriddenIn]; done) | decide +kernel
theorem pd_3 : parseMethodDescriptor "([CIILjava/lang/Void;)V" = some ⟨[(.array .char), .int, .int, (.object "java/lang/Void")], none⟩ := by decide +kernel
theorem d1_9 : decode jdk_42_method_3_code 9 = .ok (.return_, 1) := by decide +kernel
abbrev M_4 : MethodName := ⟨"java/lang/String", "<init>", "([C)V"⟩
theorem pd_4 : parseMethodDescriptor "([C)V" = some ⟨[(.array .char)], none⟩ := by decide +kernel
theorem d7_0 : decode prog_56_method_1_code 0 = .ok (.aload_n 0, 1) := by decide +kernel
theorem d7_1 : decode prog_56_method_1_code 1 = .ok (.invokespecial 1, 3) := by decide +kernel
theorem d8_0 : decode jdk_30_method_1_code 0 = .ok (.aload_n 0, 1) := by decide +kernel
theorem d8_1 : decode jdk_30_method_1_code 1 = .ok (.invokespecial 1, 3) := by decide +kernel
theorem d8_4 : decode jdk_30_method_1_code 4 = .ok (.return_, 1) := by decide +kernel
abbrev M_5 : MethodName := ⟨"java/lang/Record", "<init>", "()V"⟩
theorem pn_2 : plainName "java/lang/Record" = true := by first | (simp [plainName, overriddenIn]; done) | decide +kernel
theorem pd_5 : parseMethodDescriptor "()V" = some ⟨[], none⟩ := by decide +kernel
theorem d7_4 : decode prog_56_method_1_code 4 = .ok (.aload_n 1, 1) := by decide +kernel
theorem d7_5 : decode prog_56_method_1_code 5 = .ok (.ldc 7, 2) := by decide +kernel
theorem d7_7 : decode prog_56_method_1_code 7 = .ok (.invokestatic 9, 3) := by decide +kernel
theorem d9_0 : decode jdk_31_method_11_code 0 = .ok (.aload_n 0, 1) := by decide +kernel
theorem d9_1 : decode jdk_31_method_11_code 1 = .ok (.ifnonnull 12, 3) := by decide +kernel
theorem d9_13 : decode jdk_31_method_11_code 13 = .ok (.aload_n 0, 1) := by decide +kernel
theorem d9_14 : decode jdk_31_method_11_code 14 = .ok (.areturn, 1) := by decide +kernel
abbrev M_6 : MethodName := ⟨"java/util/Objects", "requireNonNull", "(Ljava/lang/Object;Ljava/lang/String;)Ljava/lang/Object;"⟩
theorem pn_3 : plainName "java/util/Objects" = true := by first | (simp [plainName, overriddenIn]; done) | decide +kernel
theorem pd_6 : parseMethodDescriptor "(Ljava/lang/Object;Ljava/lang/String;)Ljava/lang/Object;" = some ⟨[(.object "java/lang/Object"), (.object "java/lang/String")], some (.object "java/lang/Object")⟩ := by decide +kernel
theorem d7_10 : decode prog_56_method_1_code 10 = .ok (.pop, 1) := by decide +kernel
theorem d7_11 : decode prog_56_method_1_code 11 = .ok (.aload_n 2, 1) := by decide +kernel
theorem d7_12 : decode prog_56_method_1_code 12 = .ok (.ldc 15, 2) := by decide +kernel
theorem d7_14 : decode prog_56_method_1_code 14 = .ok (.invokestatic 9, 3) := by decide +kernel
theorem d7_17 : decode prog_56_method_1_code 17 = .ok (.pop, 1) := by decide +kernel
theorem d7_18 : decode prog_56_method_1_code 18 = .ok (.aload_n 0, 1) := by decide +kernel
theorem d7_19 : decode prog_56_method_1_code 19 = .ok (.aload_n 1, 1) := by decide +kernel
theorem d7_20 : decode prog_56_method_1_code 20 = .ok (.putfield 17, 3) := by decide +kernel
theorem d7_23 : decode prog_56_method_1_code 23 = .ok (.aload_n 0, 1) := by decide +kernel
theorem d7_24 : decode prog_56_method_1_code 24 = .ok (.aload_n 2, 1) := by decide +kernel
theorem d7_25 : decode prog_56_method_1_code 25 = .ok (.putfield 22, 3) := by decide +kernel
theorem d7_28 : decode prog_56_method_1_code 28 = .ok (.return_, 1) := by decide +kernel
abbrev M_7 : MethodName := ⟨"com/example/stemline/stemline/model/TableColumn", "<init>", "(Ljava/lang/String;Ljava/lang/String;)V"⟩
theorem pn_4 : plainName "com/example/stemline/stemline/model/TableColumn" = true := by first | (simp [plainName, overriddenIn]; done) | decide +kernel
theorem pd_7 : parseMethodDescriptor "(Ljava/lang/String;Ljava/lang/String;)V" = some ⟨[(.object "java/lang/String"), (.object "java/lang/String")], none⟩ := by decide +kernel
theorem d10_0 : decode jdk_42_method_139_code 0 = .ok (.getstatic 38, 3) := by decide +kernel
theorem d10_3 : decode jdk_42_method_139_code 3 = .ok (.ifCond .eq 23, 3) := by decide +kernel
theorem d10_6 : decode jdk_42_method_139_code 6 = .ok (.iload_n 0, 1) := by decide +kernel
theorem d10_7 : decode jdk_42_method_139_code 7 = .ok (.invokestatic 1015, 3) := by decide +kernel
theorem d11_0 : decode jdk_43_method_3_code 0 = .ok (.iload_n 0, 1) := by decide +kernel
theorem d11_1 : decode jdk_43_method_3_code 1 = .ok (.sipush 255, 3) := by decide +kernel
theorem d11_4 : decode jdk_43_method_3_code 4 = .ok (.if_icmp .gt 7, 3) := by decide +kernel
theorem d11_7 : decode jdk_43_method_3_code 7 = .ok (.iconst 1, 1) := by decide +kernel
theorem d11_8 : decode jdk_43_method_3_code 8 = .ok (.goto 4, 3) := by decide +kernel
theorem d11_12 : decode jdk_43_method_3_code 12 = .ok (.ireturn, 1) := by decide +kernel
abbrev M_8 : MethodName := ⟨"java/lang/StringLatin1", "canEncode", "(C)Z"⟩
theorem pn_5 : plainName "java/lang/StringLatin1" = true := by first | (simp [plainName, overriddenIn]; done) | decide +kernel
theorem pd_8 : parseMethodDescriptor "(C)Z" = some ⟨[.char], some .boolean⟩ := by decide +kernel
theorem d10_10 : decode jdk_42_method_139_code 10 = .ok (.ifCond .eq 16, 3) := by decide +kernel
theorem d10_13 : decode jdk_42_method_139_code 13 = .ok (.new 10, 3) := by decide +kernel
theorem d10_16 : decode jdk_42_method_139_code 16 = .ok (.dup, 1) := by decide +kernel
theorem d10_17 : decode jdk_42_method_139_code 17 = .ok (.iload_n 0, 1) := by decide +kernel
theorem d10_18 : decode jdk_42_method_139_code 18 = .ok (.invokestatic 1018, 3) := by decide +kernel
theorem d12_0 : decode jdk_43_method_46_code 0 = .ok (.iconst 1, 1) := by decide +kernel
theorem d12_1 : decode jdk_43_method_46_code 1 = .ok (.newarray .byte, 2) := by decide +kernel
theorem d12_3 : decode jdk_43_method_46_code 3 = .ok (.dup, 1) := by decide +kernel
theorem d12_4 : decode jdk_43_method_46_code 4 = .ok (.iconst 0, 1) := by decide +kernel
theorem d12_5 : decode jdk_43_method_46_code 5 = .ok (.iload_n 0, 1) := by decide +kernel
theorem d12_6 : decode jdk_43_method_46_code 6 = .ok (.i2b, 1) := by decide +kernel
theorem d12_7 : decode jdk_43_method_46_code 7 = .ok (.bastore, 1) := by decide +kernel
theorem d12_8 : decode jdk_43_method_46_code 8 = .ok (.areturn, 1) := by decide +kernel
abbrev M_9 : MethodName := ⟨"java/lang/StringLatin1", "toBytes", "(C)[B"⟩
theorem pd_9 : parseMethodDescriptor "(C)[B" = some ⟨[.char], some (.array .byte)⟩ := by decide +kernel
theorem d10_21 : decode jdk_42_method_139_code 21 = .ok (.iconst 0, 1) := by decide +kernel
theorem d10_22 : decode jdk_42_method_139_code 22 = .ok (.invokespecial 209, 3) := by decide +kernel
theorem d13_0 : decode jdk_42_method_151_code 0 = .ok (.aload_n 0, 1) := by decide +kernel
theorem d13_1 : decode jdk_42_method_151_code 1 = .ok (.invokespecial 1, 3) := by decide +kernel
theorem d13_4 : decode jdk_42_method_151_code 4 = .ok (.aload_n 0, 1) := by decide +kernel
theorem d13_5 : decode jdk_42_method_151_code 5 = .ok (.aload_n 1, 1) := by decide +kernel
theorem d13_6 : decode jdk_42_method_151_code 6 = .ok (.putfield 9, 3) := by decide +kernel
theorem d13_9 : decode jdk_42_method_151_code 9 = .ok (.aload_n 0, 1) := by decide +kernel
theorem d13_10 : decode jdk_42_method_151_code 10 = .ok (.iload_n 2, 1) := by decide +kernel
theorem d13_11 : decode jdk_42_method_151_code 11 = .ok (.putfield 15, 3) := by decide +kernel
theorem d13_14 : decode jdk_42_method_151_code 14 = .ok (.return_, 1) := by decide +kernel
abbrev M_10 : MethodName := ⟨"java/lang/String", "<init>", "([BB)V"⟩
theorem pd_10 : parseMethodDescriptor "([BB)V" = some ⟨[(.array .byte), .byte], none⟩ := by decide +kernel
theorem d10_25 : decode jdk_42_method_139_code 25 = .ok (.areturn, 1) := by decide +kernel
abbrev M_11 : MethodName := ⟨"java/lang/String", "valueOf", "(C)Ljava/lang/String;"⟩
theorem pd_11 : parseMethodDescriptor "(C)Ljava/lang/String;" = some ⟨[.char], some (.object "java/lang/String")⟩ := by decide +kernel
theorem d15_0 : decode prog_23_method_1_code 0 = .ok (.aload_n 0, 1) := by decide +kernel
theorem d15_1 : decode prog_23_method_1_code 1 = .ok (.invokespecial 1, 3) := by decide +kernel
theorem d15_4 : decode prog_23_method_1_code 4 = .ok (.aload_n 2, 1) := by decide +kernel
theorem d15_5 : decode prog_23_method_1_code 5 = .ok (.ldc 7, 2) := by decide +kernel
theorem d15_7 : decode prog_23_method_1_code 7 = .ok (.invokestatic 9, 3) := by decide +kernel
theorem d15_10 : decode prog_23_method_1_code 10 = .ok (.pop, 1) := by decide +kernel
theorem d15_11 : decode prog_23_method_1_code 11 = .ok (.aload_n 3, 1) := by decide +kernel
theorem d15_12 : decode prog_23_method_1_code 12 = .ok (.ldc 15, 2) := by decide +kernel
theorem d15_14 : decode prog_23_method_1_code 14 = .ok (.invokestatic 9, 3) := by decide +kernel
theorem d15_17 : decode prog_23_method_1_code 17 = .ok (.pop, 1) := by decide +kernel
theorem d15_18 : decode prog_23_method_1_code 18 = .ok (.aload_n 0, 1) := by decide +kernel
theorem d15_19 : decode prog_23_method_1_code 19 = .ok (.aload_n 1, 1) := by decide +kernel
theorem d15_20 : decode prog_23_method_1_code 20 = .ok (.putfield 17, 3) := by decide +kernel
theorem d15_23 : decode prog_23_method_1_code 23 = .ok (.aload_n 0, 1) := by decide +kernel
theorem d15_24 : decode prog_23_method_1_code 24 = .ok (.aload_n 2, 1) := by decide +kernel
theorem d15_25 : decode prog_23_method_1_code 25 = .ok (.putfield 23, 3) := by decide +kernel
theorem d15_28 : decode prog_23_method_1_code 28 = .ok (.aload_n 0, 1) := by decide +kernel
theorem d15_29 : decode prog_23_method_1_code 29 = .ok (.aload_n 3, 1) := by decide +kernel
theorem d15_30 : decode prog_23_method_1_code 30 = .ok (.putfield 26, 3) := by decide +kernel
theorem d15_33 : decode prog_23_method_1_code 33 = .ok (.aload_n 0, 1) := by decide +kernel
theorem d15_34 : decode prog_23_method_1_code 34 = .ok (.iload 4, 2) := by decide +kernel
theorem d15_36 : decode prog_23_method_1_code 36 = .ok (.putfield 29, 3) := by decide +kernel
theorem d15_39 : decode prog_23_method_1_code 39 = .ok (.return_, 1) := by decide +kernel
abbrev M_12 : MethodName := ⟨"com/example/stemline/stemline/graph/Edge", "<init>", "(Lcom/example/stemline/stemline/model/ColumnSource;Lcom/example/stemline/stemline/model/TableColumn;Ljava/lang/String;I)V"⟩
theorem pn_6 : plainName "com/example/stemline/stemline/graph/Edge" = true := by first | (simp [plainName, overriddenIn]; done) | decide +kernel
theorem pd_12 : parseMethodDescriptor "(Lcom/example/stemline/stemline/model/ColumnSource;Lcom/example/stemline/stemline/model/TableColumn;Ljava/lang/String;I)V" = some ⟨[(.object "com/example/stemline/stemline/model/ColumnSource"), (.object "com/example/stemline/stemline/model/TableColumn"), (.object "java/lang/String"), .int], none⟩ := by decide +kernel
theorem d16_0 : decode prog_23_method_2_code 0 = .ok (.aload_n 0, 1) := by decide +kernel
theorem d16_1 : decode prog_23_method_2_code 1 = .ok (.getfield 17, 3) := by decide +kernel
theorem d16_4 : decode prog_23_method_2_code 4 = .ok (.ifnonnull 7, 3) := by decide +kernel
theorem d16_7 : decode prog_23_method_2_code 7 = .ok (.aconst_null, 1) := by decide +kernel
theorem d16_8 : decode prog_23_method_2_code 8 = .ok (.goto 10, 3) := by decide +kernel
theorem d16_18 : decode prog_23_method_2_code 18 = .ok (.areturn, 1) := by decide +kernel
abbrev M_13 : MethodName := ⟨"com/example/stemline/stemline/graph/Edge", "sourceColumn", "()Lcom/example/stemline/stemline/model/TableColumn;"⟩
theorem pd_13 : parseMethodDescriptor "()Lcom/example/stemline/stemline/model/TableColumn;" = some ⟨[], some (.object "com/example/stemline/stemline/model/TableColumn")⟩ := by decide +kernel
theorem d14_0 : decode prog_40_method_1_code 0 = .ok (.aload_n 0, 1) := by decide +kernel
theorem d14_1 : decode prog_40_method_1_code 1 = .ok (.invokespecial 1, 3) := by decide +kernel
theorem d14_4 : decode prog_40_method_1_code 4 = .ok (.aload_n 1, 1) := by decide +kernel
theorem d14_5 : decode prog_40_method_1_code 5 = .ok (.ldc 7, 2) := by decide +kernel
theorem d14_7 : decode prog_40_method_1_code 7 = .ok (.invokestatic 9, 3) := by decide +kernel
theorem d14_10 : decode prog_40_method_1_code 10 = .ok (.pop, 1) := by decide +kernel
theorem d14_11 : decode prog_40_method_1_code 11 = .ok (.aload_n 2, 1) := by decide +kernel
theorem d14_12 : decode prog_40_method_1_code 12 = .ok (.ldc 15, 2) := by decide +kernel
theorem d14_14 : decode prog_40_method_1_code 14 = .ok (.invokestatic 9, 3) := by decide +kernel
theorem d14_17 : decode prog_40_method_1_code 17 = .ok (.pop, 1) := by decide +kernel
theorem d14_18 : decode prog_40_method_1_code 18 = .ok (.aload_n 0, 1) := by decide +kernel
theorem d14_19 : decode prog_40_method_1_code 19 = .ok (.aload_n 1, 1) := by decide +kernel
theorem d14_20 : decode prog_40_method_1_code 20 = .ok (.putfield 17, 3) := by decide +kernel
theorem d14_23 : decode prog_40_method_1_code 23 = .ok (.aload_n 0, 1) := by decide +kernel
theorem d14_24 : decode prog_40_method_1_code 24 = .ok (.aload_n 2, 1) := by decide +kernel
theorem d14_25 : decode prog_40_method_1_code 25 = .ok (.putfield 22, 3) := by decide +kernel
theorem d14_28 : decode prog_40_method_1_code 28 = .ok (.aload_n 0, 1) := by decide +kernel
theorem d14_29 : decode prog_40_method_1_code 29 = .ok (.aload_n 3, 1) := by decide +kernel
theorem d14_30 : decode prog_40_method_1_code 30 = .ok (.putfield 25, 3) := by decide +kernel
theorem d14_33 : decode prog_40_method_1_code 33 = .ok (.return_, 1) := by decide +kernel
abbrev M_14 : MethodName := ⟨"com/example/stemline/stemline/model/ColumnSource", "<init>", "(Lcom/example/stemline/stemline/model/TableColumn;Lcom/example/stemline/stemline/model/SourceKind;Ljava/lang/String;)V"⟩
theorem pn_7 : plainName "com/example/stemline/stemline/model/ColumnSource" = true := by first | (simp [plainName, overriddenIn]; done) | decide +kernel
theorem pd_14 : parseMethodDescriptor "(Lcom/example/stemline/stemline/model/TableColumn;Lcom/example/stemline/stemline/model/SourceKind;Ljava/lang/String;)V" = some ⟨[(.object "com/example/stemline/stemline/model/TableColumn"), (.object "com/example/stemline/stemline/model/SourceKind"), (.object "java/lang/String")], none⟩ := by decide +kernel
theorem d16_11 : decode prog_23_method_2_code 11 = .ok (.aload_n 0, 1) := by decide +kernel
theorem d16_12 : decode prog_23_method_2_code 12 = .ok (.getfield 17, 3) := by decide +kernel
theorem d16_15 : decode prog_23_method_2_code 15 = .ok (.invokevirtual 33, 3) := by decide +kernel
theorem d17_0 : decode prog_40_method_5_code 0 = .ok (.aload_n 0, 1) := by decide +kernel
theorem d17_1 : decode prog_40_method_5_code 1 = .ok (.getfield 17, 3) := by decide +kernel
theorem d17_4 : decode prog_40_method_5_code 4 = .ok (.areturn, 1) := by decide +kernel
abbrev M_15 : MethodName := ⟨"com/example/stemline/stemline/model/ColumnSource", "column", "()Lcom/example/stemline/stemline/model/TableColumn;"⟩
theorem pn_8 : plainName "com/example/stemline/stemline/graph/EdgeSourceColumnPinLaw" = true := by first | (simp [plainName, overriddenIn]; done) | decide +kernel
theorem ef_rm5_5 (m : MethodId) (x0 : Addr) (x2 : Addr) : entryFrame m #[(.ref x0), (.int (0 : Int32)), (.ref x2), (.int (0 : Int32)), (.int (2 : Int32))] 7 = mkF m 0 #[.val (.ref x0), .val (.int (0 : Int32)), .val (.ref x2), .val (.int (0 : Int32)), .val (.int (2 : Int32)), .unset, .unset] [] := by first | (simp [entryFrame, mkF, argsToLocals, Value.category]; done) | rfl
def Q5_5 (Z : State) (a1 : Addr) (a2 : Addr) (p3 : Int32) (p4 : Int32) (k5 : ClassId) (k10 : ClassId) (h0 : Heap) (n0 : Nat) (v : Option Value) (h : Heap) (L : List Loc) : Prop := (∃ (i20 : Int32) (i9 : Int32), i9 = (p3.toInt8.toInt32) ∧ i20 = (p4.toInt8.toInt32) ∧ v = some (.int (2 : Int32)) ∧ Fr n0 L ∧ Keep h0 h [a2] ∧ Exa Z h a2 "[B" ∧ Arv Z h a2 k10 .byte (2 : Int32) [(.int i9), (.int i20)] (.int (0 : Int32)))
set_option maxRecDepth 65536 in
set_option maxHeartbeats 40000000 in
theorem rm5_5 (l : Launch) (Z : State) (a0 : Array Value) (hw : ∀ d ∈ own_ws, d.before a0 Z = true) (ws : List Jvm.Cond) (a1 : Addr) (a2 : Addr) (p3 : Int32) (p4 : Int32) (k5 : ClassId) (k10 : ClassId) (h0 : Heap) (n0 : Nat) (O0 : Old Z n0 h0) (V6 : Arv Z h0 a1 k5 .char (2 : Int32) [(.int p3), (.int p4)] (.int (0 : Int32))) (hk8 : ¬ ((255 : Int32) < p3)) (V11 : Arv Z h0 a2 k10 .byte (2 : Int32) [] (.int (0 : Int32))) (g_a2 : n0 ≤ a2) (E_15 : Exa Z h0 a2 "[B") (hne16 : a1 ≠ a2) (hk19 : ¬ ((255 : Int32) < p4)) :
    MetFree l M_0 (head1 (Jvm.Cond.code M_0 jdk_52_method_21_code 7 (some .int) :: ws) ({ frames := 0, cells := 0, slots := 0, locals := 0 } : Room)) (fun a U => a = #[(.ref a1), (.int (0 : Int32)), (.ref a2), (.int (0 : Int32)), (.int (2 : Int32))] ∧ Z.Warmed39 U.vm ∧ U.heap = h0) (fun _ _ _ _ _ => True) (fun _ U o U' => ∃ v L, o = .returned v ∧ Q5_5 Z a1 a2 p3 p4 k5 k10 h0 n0 v U'.heap L ∧ FrameEnd U o U' L ({ frames := 0, cells := 0, slots := 0, locals := 0 } : Room).cells ({ frames := 0, cells := 0, slots := 0, locals := 0 } : Room).slots) := by
  refine MetFree.of_bodySF (plainFor_of_name pn_0) hisR ?_
  intro p e s m args below meth c s₁ Bd hml0 hP hK
  obtain ⟨rfl, hZ, hh⟩ := hP
  have hx := Bd.exec
  have hby := Bd.bytes
  have hml : c.maxLocals = 7 := hml0
  have hown : s.vm.findClass "java/lang/StringUTF16" = some m.cls := findClass_of_methodNamed Bd.named
  have hnm := (name_of_methodNamed Bd.named Bd.method).1
  have X0 : Stand p l e ({ frames := 0, cells := 0, slots := 0, locals := 0 } : Room) s m #[(.ref a1), (.int (0 : Int32)), (.ref a2), (.int (0 : Int32)), (.int (2 : Int32))] below meth c s₁ [] 0 0 := Stand.of_body Bd
  have e0 : s₁.heap = h0 := by rw [← hh, Bd.state]; rfl
  have N0 := Fr.nil n0
  have pre0 : ∀ t, Steps p.tables e below (s₁.setTop (mkF m 0 #[.val (.ref a1), .val (.int (0 : Int32)), .val (.ref a2), .val (.int (0 : Int32)), .val (.int (2 : Int32)), .unset, .unset] [])) t → Steps p.tables e below (s₁.setTop (entryFrame m #[(.ref a1), (.int (0 : Int32)), (.ref a2), (.int (0 : Int32)), (.int (2 : Int32))] 7)) t := fun t k => castTop (ef_rm5_5 m a1 a2) k
  obtain ⟨cl7, Ar7, -, Sz7, -, Hh7, -⟩ := id V6
  have hin7 : ¬ ((0 : Int32) < 0 ∨ cl7.slots.size ≤ ((0 : Int32)).toNatClampNeg) := inb_of Sz7 ⟨by decide +kernel, by decide +kernel⟩
  have hat7 : cl7.slots[((0 : Int32)).toNatClampNeg]? = some (.int p3) := Has.at Hh7 hin7 rfl
  obtain ⟨i9, hi9⟩ : ∃ z, z = (p3.toInt8.toInt32) := ⟨_, rfl⟩
  have Vp12 : Arv Z h0 a2 k10 .byte (2 : Int32) [(.int (0 : Int32))] (.int (0 : Int32)) := V11.pad (pad_rep [] (.int (0 : Int32)) 1)
  obtain ⟨cl13, Ar13, qk13, Sz13, Nn13, Hh13, Gg13⟩ := id Vp12
  have hin13 : ¬ ((0 : Int32) < 0 ∨ cl13.slots.size ≤ ((0 : Int32)).toNatClampNeg) := inb_of Sz13 ⟨by decide +kernel, by decide +kernel⟩
  obtain ⟨T14, h14, X14, e14, W14, st14⟩ := stB X0 hx hZ e0 Ar13 (j := (0 : Int32)) hin13 (g := (mkF m 31 #[.val (.ref a1), .val (.int (0 : Int32)), .val (.ref a2), .val (.int (0 : Int32)), .val (.int (2 : Int32)), .val (.int (0 : Int32)), .val (.int p3)] [(.int i9), (.int (0 : Int32)), (.ref a2)])) rfl rfl (hb hby d5_31)
  rw [show nar .byte i9 = i9 from (own_i2b2 hi9 : (i9.toInt8.toInt32) = i9)] at W14
  have O14 : Old Z n0 h14 := O0.wr W14 g_a2
  have V14 : Arv Z h14 a2 k10 .byte (2 : Int32) [(.int i9)] (.int (0 : Int32)) := Arv.set Ar13 qk13 Sz13 Nn13 Hh13 Gg13 ((own_i2b2 hi9 : (i9.toInt8.toInt32) = i9) ▸ fits_nar_byte _) W14 0 rfl (Nat.le_of_ble_eq_true rfl)
  have N14 := Fr.snoc X14 N0 g_a2
  have f17 : Arv Z h14 a1 k5 .char (2 : Int32) [(.int p3), (.int p4)] (.int (0 : Int32)) := (V6.other W14 hne16)
  obtain ⟨cl18, Ar18, -, Sz18, -, Hh18, -⟩ := id f17
  have hin18 : ¬ ((1 : Int32) < 0 ∨ cl18.slots.size ≤ ((1 : Int32)).toNatClampNeg) := inb_of Sz18 ⟨by decide +kernel, by decide +kernel⟩
  have hat18 : cl18.slots[((1 : Int32)).toNatClampNeg]? = some (.int p4) := Has.at Hh18 hin18 rfl
  obtain ⟨i20, hi20⟩ : ∃ z, z = (p4.toInt8.toInt32) := ⟨_, rfl⟩
  have Vp21 : Arv Z h14 a2 k10 .byte (2 : Int32) [(.int i9), (.int (0 : Int32))] (.int (0 : Int32)) := V14.pad (pad_rep [(.int i9)] (.int (0 : Int32)) 1)
  obtain ⟨cl22, Ar22, qk22, Sz22, Nn22, Hh22, Gg22⟩ := id Vp21
  have hin22 : ¬ ((1 : Int32) < 0 ∨ cl22.slots.size ≤ ((1 : Int32)).toNatClampNeg) := inb_of Sz22 ⟨by decide +kernel, by decide +kernel⟩
  obtain ⟨T23, h23, X23, e23, W23, st23⟩ := stB X14 hx hZ e14 Ar22 (j := (1 : Int32)) hin22 (g := (mkF m 31 #[.val (.ref a1), .val (.int (1 : Int32)), .val (.ref a2), .val (.int (1 : Int32)), .val (.int (2 : Int32)), .val (.int (1 : Int32)), .val (.int p4)] [(.int i20), (.int (1 : Int32)), (.ref a2)])) rfl rfl (hb hby d5_31)
  rw [show nar .byte i20 = i20 from (own_i2b2 hi20 : (i20.toInt8.toInt32) = i20)] at W23
  have O23 : Old Z n0 h23 := O14.wr W23 g_a2
  have V23 : Arv Z h23 a2 k10 .byte (2 : Int32) [(.int i9), (.int i20)] (.int (0 : Int32)) := Arv.set Ar22 qk22 Sz22 Nn22 Hh22 Gg22 ((own_i2b2 hi20 : (i20.toInt8.toInt32) = i20) ▸ fits_nar_byte _) W23 1 rfl (Nat.le_of_ble_eq_true rfl)
  have N23 := Fr.snoc X23 N14 g_a2
  obtain ⟨fs, hr, hrun, hended, hW, hsame⟩ := X23.leave (v := some (.int (2 : Int32))) (fun h => by rw [Bd.returns] at h; cases h)
  have f24 : Exa Z h23 a2 "[B" := (Exa.wr W23 (Exa.wr W14 E_15))
  refine ⟨_, _, pre0 _ ?_, hrun, hended, _, _, rfl, ?_, ⟨_, rfl⟩, hW, hsame.mono (by decide) (by decide)⟩
  · show Steps p.tables e below (s₁.setTop (mkF m 0 #[.val (.ref a1), .val (.int (0 : Int32)), .val (.ref a2), .val (.int (0 : Int32)), .val (.int (2 : Int32)), .unset, .unset] [])) _
    refine XS.iconst X0.here hx rfl (hb hby d5_0) ?_
    show Steps p.tables e below (s₁.setTop (mkF m 1 #[.val (.ref a1), .val (.int (0 : Int32)), .val (.ref a2), .val (.int (0 : Int32)), .val (.int (2 : Int32)), .unset, .unset] [(.int (0 : Int32))])) _
    refine XS.istore X0.here hx rfl (hb hby d5_1) rfl (l' := #[.val (.ref a1), .val (.int (0 : Int32)), .val (.ref a2), .val (.int (0 : Int32)), .val (.int (2 : Int32)), .val (.int (0 : Int32)), .unset]) rfl ?_
    show Steps p.tables e below (s₁.setTop (mkF m 3 #[.val (.ref a1), .val (.int (0 : Int32)), .val (.ref a2), .val (.int (0 : Int32)), .val (.int (2 : Int32)), .val (.int (0 : Int32)), .unset] [])) _
    refine XS.iload X0.here hx rfl (hb hby d5_3) rfl ?_
    show Steps p.tables e below (s₁.setTop (mkF m 5 #[.val (.ref a1), .val (.int (0 : Int32)), .val (.ref a2), .val (.int (0 : Int32)), .val (.int (2 : Int32)), .val (.int (0 : Int32)), .unset] [(.int (0 : Int32))])) _
    refine XS.iload X0.here hx rfl (hb hby d5_5) rfl ?_
    show Steps p.tables e below (s₁.setTop (mkF m 7 #[.val (.ref a1), .val (.int (0 : Int32)), .val (.ref a2), .val (.int (0 : Int32)), .val (.int (2 : Int32)), .val (.int (0 : Int32)), .unset] [(.int (2 : Int32)), (.int (0 : Int32))])) _
    refine XS.icmpNo X0.here hx rfl (hb hby d5_7) rfl (tlt (by decide +kernel : (0 : Int32) < (2 : Int32))).2.1 ?_
    show Steps p.tables e below (s₁.setTop (mkF m 10 #[.val (.ref a1), .val (.int (0 : Int32)), .val (.ref a2), .val (.int (0 : Int32)), .val (.int (2 : Int32)), .val (.int (0 : Int32)), .unset] [])) _
    refine XS.aloadN X0.here hx rfl (hb hby d5_10) rfl rfl ?_
    show Steps p.tables e below (s₁.setTop (mkF m 11 #[.val (.ref a1), .val (.int (0 : Int32)), .val (.ref a2), .val (.int (0 : Int32)), .val (.int (2 : Int32)), .val (.int (0 : Int32)), .unset] [(.ref a1)])) _
    refine XS.iloadN X0.here hx rfl (hb hby d5_11) rfl ?_
    show Steps p.tables e below (s₁.setTop (mkF m 12 #[.val (.ref a1), .val (.int (0 : Int32)), .val (.ref a2), .val (.int (0 : Int32)), .val (.int (2 : Int32)), .val (.int (0 : Int32)), .unset] [(.int (0 : Int32)), (.ref a1)])) _
    refine X0.caload hx (j := (0 : Int32)) (v := (.int p3)) (by rw [e0]; exact Ar7.1) (State.isArrayOf_alike hZ.alike Ar7.2.1) Ar7.2.2 hin7 hat7 (g := (mkF m 12 #[.val (.ref a1), .val (.int (0 : Int32)), .val (.ref a2), .val (.int (0 : Int32)), .val (.int (2 : Int32)), .val (.int (0 : Int32)), .unset] [(.int (0 : Int32)), (.ref a1)])) rfl rfl (hb hby d5_12) _ ?_
    show Steps p.tables e below (s₁.setTop (mkF m 13 #[.val (.ref a1), .val (.int (0 : Int32)), .val (.ref a2), .val (.int (0 : Int32)), .val (.int (2 : Int32)), .val (.int (0 : Int32)), .unset] [(.int p3)])) _
    refine XS.istore X0.here hx rfl (hb hby d5_13) rfl (l' := #[.val (.ref a1), .val (.int (0 : Int32)), .val (.ref a2), .val (.int (0 : Int32)), .val (.int (2 : Int32)), .val (.int (0 : Int32)), .val (.int p3)]) rfl ?_
    show Steps p.tables e below (s₁.setTop (mkF m 15 #[.val (.ref a1), .val (.int (0 : Int32)), .val (.ref a2), .val (.int (0 : Int32)), .val (.int (2 : Int32)), .val (.int (0 : Int32)), .val (.int p3)] [])) _
    refine XS.iload X0.here hx rfl (hb hby d5_15) rfl ?_
    show Steps p.tables e below (s₁.setTop (mkF m 17 #[.val (.ref a1), .val (.int (0 : Int32)), .val (.ref a2), .val (.int (0 : Int32)), .val (.int (2 : Int32)), .val (.int (0 : Int32)), .val (.int p3)] [(.int p3)])) _
    refine XS.sipush X0.here hx rfl (hb hby d5_17) ?_
    show Steps p.tables e below (s₁.setTop (mkF m 20 #[.val (.ref a1), .val (.int (0 : Int32)), .val (.ref a2), .val (.int (0 : Int32)), .val (.int (2 : Int32)), .val (.int (0 : Int32)), .val (.int p3)] [(.int (255 : Int32)), (.int p3)])) _
    refine XS.icmpYes X0.here hx rfl (pc0 := 20) (pc' := 26) rfl (hb hby d5_20) rfl (flt hk8).2.2.2 (by decide) (by decide) ?_
    show Steps p.tables e below (s₁.setTop (mkF m 26 #[.val (.ref a1), .val (.int (0 : Int32)), .val (.ref a2), .val (.int (0 : Int32)), .val (.int (2 : Int32)), .val (.int (0 : Int32)), .val (.int p3)] [])) _
    refine XS.aloadN X0.here hx rfl (hb hby d5_26) rfl rfl ?_
    show Steps p.tables e below (s₁.setTop (mkF m 27 #[.val (.ref a1), .val (.int (0 : Int32)), .val (.ref a2), .val (.int (0 : Int32)), .val (.int (2 : Int32)), .val (.int (0 : Int32)), .val (.int p3)] [(.ref a2)])) _
    refine XS.iloadN X0.here hx rfl (hb hby d5_27) rfl ?_
    show Steps p.tables e below (s₁.setTop (mkF m 28 #[.val (.ref a1), .val (.int (0 : Int32)), .val (.ref a2), .val (.int (0 : Int32)), .val (.int (2 : Int32)), .val (.int (0 : Int32)), .val (.int p3)] [(.int (0 : Int32)), (.ref a2)])) _
    refine XS.iload X0.here hx rfl (hb hby d5_28) rfl ?_
    show Steps p.tables e below (s₁.setTop (mkF m 30 #[.val (.ref a1), .val (.int (0 : Int32)), .val (.ref a2), .val (.int (0 : Int32)), .val (.int (2 : Int32)), .val (.int (0 : Int32)), .val (.int p3)] [(.int p3), (.int (0 : Int32)), (.ref a2)])) _
    refine XS.i2b X0.here hx rfl (hb hby d5_30) rfl ?_
    show Steps p.tables e below (s₁.setTop (mkF m 31 #[.val (.ref a1), .val (.int (0 : Int32)), .val (.ref a2), .val (.int (0 : Int32)), .val (.int (2 : Int32)), .val (.int (0 : Int32)), .val (.int p3)] [(.int (p3.toInt8.toInt32)), (.int (0 : Int32)), (.ref a2)])) _
    rw [← hi9]
    show Steps p.tables e below (s₁.setTop (mkF m 31 #[.val (.ref a1), .val (.int (0 : Int32)), .val (.ref a2), .val (.int (0 : Int32)), .val (.int (2 : Int32)), .val (.int (0 : Int32)), .val (.int p3)] [(.int i9), (.int (0 : Int32)), (.ref a2)])) _
    refine st14 _ ?_
    show Steps p.tables e below (T14.setTop (mkF m 32 #[.val (.ref a1), .val (.int (0 : Int32)), .val (.ref a2), .val (.int (0 : Int32)), .val (.int (2 : Int32)), .val (.int (0 : Int32)), .val (.int p3)] [])) _
    refine XS.iinc X14.here hx rfl (hb hby d5_32) rfl (l' := #[.val (.ref a1), .val (.int ((0 : Int32) + (1 : Int32))), .val (.ref a2), .val (.int (0 : Int32)), .val (.int (2 : Int32)), .val (.int (0 : Int32)), .val (.int p3)]) rfl ?_
    show Steps p.tables e below (T14.setTop (mkF m 35 #[.val (.ref a1), .val (.int ((0 : Int32) + (1 : Int32))), .val (.ref a2), .val (.int (0 : Int32)), .val (.int (2 : Int32)), .val (.int (0 : Int32)), .val (.int p3)] [])) _
    rw [(by decide +kernel : ((0 : Int32) + (1 : Int32)) = (1 : Int32))]
    show Steps p.tables e below (T14.setTop (mkF m 35 #[.val (.ref a1), .val (.int (1 : Int32)), .val (.ref a2), .val (.int (0 : Int32)), .val (.int (2 : Int32)), .val (.int (0 : Int32)), .val (.int p3)] [])) _
    refine XS.iinc X14.here hx rfl (hb hby d5_35) rfl (l' := #[.val (.ref a1), .val (.int (1 : Int32)), .val (.ref a2), .val (.int ((0 : Int32) + (1 : Int32))), .val (.int (2 : Int32)), .val (.int (0 : Int32)), .val (.int p3)]) rfl ?_
    show Steps p.tables e below (T14.setTop (mkF m 38 #[.val (.ref a1), .val (.int (1 : Int32)), .val (.ref a2), .val (.int ((0 : Int32) + (1 : Int32))), .val (.int (2 : Int32)), .val (.int (0 : Int32)), .val (.int p3)] [])) _
    rw [(by decide +kernel : ((0 : Int32) + (1 : Int32)) = (1 : Int32))]
    show Steps p.tables e below (T14.setTop (mkF m 38 #[.val (.ref a1), .val (.int (1 : Int32)), .val (.ref a2), .val (.int (1 : Int32)), .val (.int (2 : Int32)), .val (.int (0 : Int32)), .val (.int p3)] [])) _
    refine XS.iinc X14.here hx rfl (hb hby d5_38) rfl (l' := #[.val (.ref a1), .val (.int (1 : Int32)), .val (.ref a2), .val (.int (1 : Int32)), .val (.int (2 : Int32)), .val (.int ((0 : Int32) + (1 : Int32))), .val (.int p3)]) rfl ?_
    show Steps p.tables e below (T14.setTop (mkF m 41 #[.val (.ref a1), .val (.int (1 : Int32)), .val (.ref a2), .val (.int (1 : Int32)), .val (.int (2 : Int32)), .val (.int ((0 : Int32) + (1 : Int32))), .val (.int p3)] [])) _
    rw [(by decide +kernel : ((0 : Int32) + (1 : Int32)) = (1 : Int32))]
    show Steps p.tables e below (T14.setTop (mkF m 41 #[.val (.ref a1), .val (.int (1 : Int32)), .val (.ref a2), .val (.int (1 : Int32)), .val (.int (2 : Int32)), .val (.int (1 : Int32)), .val (.int p3)] [])) _
    refine XS.goto X14.here hx rfl (pc0 := 41) (pc' := 3) rfl (hb hby d5_41) (by decide) (by decide) ?_
    show Steps p.tables e below (T14.setTop (mkF m 3 #[.val (.ref a1), .val (.int (1 : Int32)), .val (.ref a2), .val (.int (1 : Int32)), .val (.int (2 : Int32)), .val (.int (1 : Int32)), .val (.int p3)] [])) _
    refine XS.iload X14.here hx rfl (hb hby d5_3) rfl ?_
    show Steps p.tables e below (T14.setTop (mkF m 5 #[.val (.ref a1), .val (.int (1 : Int32)), .val (.ref a2), .val (.int (1 : Int32)), .val (.int (2 : Int32)), .val (.int (1 : Int32)), .val (.int p3)] [(.int (1 : Int32))])) _
    refine XS.iload X14.here hx rfl (hb hby d5_5) rfl ?_
    show Steps p.tables e below (T14.setTop (mkF m 7 #[.val (.ref a1), .val (.int (1 : Int32)), .val (.ref a2), .val (.int (1 : Int32)), .val (.int (2 : Int32)), .val (.int (1 : Int32)), .val (.int p3)] [(.int (2 : Int32)), (.int (1 : Int32))])) _
    refine XS.icmpNo X14.here hx rfl (hb hby d5_7) rfl (tlt (by decide +kernel : (1 : Int32) < (2 : Int32))).2.1 ?_
    show Steps p.tables e below (T14.setTop (mkF m 10 #[.val (.ref a1), .val (.int (1 : Int32)), .val (.ref a2), .val (.int (1 : Int32)), .val (.int (2 : Int32)), .val (.int (1 : Int32)), .val (.int p3)] [])) _
    refine XS.aloadN X14.here hx rfl (hb hby d5_10) rfl rfl ?_
    show Steps p.tables e below (T14.setTop (mkF m 11 #[.val (.ref a1), .val (.int (1 : Int32)), .val (.ref a2), .val (.int (1 : Int32)), .val (.int (2 : Int32)), .val (.int (1 : Int32)), .val (.int p3)] [(.ref a1)])) _
    refine XS.iloadN X14.here hx rfl (hb hby d5_11) rfl ?_
    show Steps p.tables e below (T14.setTop (mkF m 12 #[.val (.ref a1), .val (.int (1 : Int32)), .val (.ref a2), .val (.int (1 : Int32)), .val (.int (2 : Int32)), .val (.int (1 : Int32)), .val (.int p3)] [(.int (1 : Int32)), (.ref a1)])) _
    refine X14.caload hx (j := (1 : Int32)) (v := (.int p4)) (by rw [e14]; exact Ar18.1) (State.isArrayOf_alike hZ.alike Ar18.2.1) Ar18.2.2 hin18 hat18 (g := (mkF m 12 #[.val (.ref a1), .val (.int (1 : Int32)), .val (.ref a2), .val (.int (1 : Int32)), .val (.int (2 : Int32)), .val (.int (1 : Int32)), .val (.int p3)] [(.int (1 : Int32)), (.ref a1)])) rfl rfl (hb hby d5_12) _ ?_
    show Steps p.tables e below (T14.setTop (mkF m 13 #[.val (.ref a1), .val (.int (1 : Int32)), .val (.ref a2), .val (.int (1 : Int32)), .val (.int (2 : Int32)), .val (.int (1 : Int32)), .val (.int p3)] [(.int p4)])) _
    refine XS.istore X14.here hx rfl (hb hby d5_13) rfl (l' := #[.val (.ref a1), .val (.int (1 : Int32)), .val (.ref a2), .val (.int (1 : Int32)), .val (.int (2 : Int32)), .val (.int (1 : Int32)), .val (.int p4)]) rfl ?_
    show Steps p.tables e below (T14.setTop (mkF m 15 #[.val (.ref a1), .val (.int (1 : Int32)), .val (.ref a2), .val (.int (1 : Int32)), .val (.int (2 : Int32)), .val (.int (1 : Int32)), .val (.int p4)] [])) _
    refine XS.iload X14.here hx rfl (hb hby d5_15) rfl ?_
    show Steps p.tables e below (T14.setTop (mkF m 17 #[.val (.ref a1), .val (.int (1 : Int32)), .val (.ref a2), .val (.int (1 : Int32)), .val (.int (2 : Int32)), .val (.int (1 : Int32)), .val (.int p4)] [(.int p4)])) _
    refine XS.sipush X14.here hx rfl (hb hby d5_17) ?_
    show Steps p.tables e below (T14.setTop (mkF m 20 #[.val (.ref a1), .val (.int (1 : Int32)), .val (.ref a2), .val (.int (1 : Int32)), .val (.int (2 : Int32)), .val (.int (1 : Int32)), .val (.int p4)] [(.int (255 : Int32)), (.int p4)])) _
    refine XS.icmpYes X14.here hx rfl (pc0 := 20) (pc' := 26) rfl (hb hby d5_20) rfl (flt hk19).2.2.2 (by decide) (by decide) ?_
    show Steps p.tables e below (T14.setTop (mkF m 26 #[.val (.ref a1), .val (.int (1 : Int32)), .val (.ref a2), .val (.int (1 : Int32)), .val (.int (2 : Int32)), .val (.int (1 : Int32)), .val (.int p4)] [])) _
    refine XS.aloadN X14.here hx rfl (hb hby d5_26) rfl rfl ?_
    show Steps p.tables e below (T14.setTop (mkF m 27 #[.val (.ref a1), .val (.int (1 : Int32)), .val (.ref a2), .val (.int (1 : Int32)), .val (.int (2 : Int32)), .val (.int (1 : Int32)), .val (.int p4)] [(.ref a2)])) _
    refine XS.iloadN X14.here hx rfl (hb hby d5_27) rfl ?_
    show Steps p.tables e below (T14.setTop (mkF m 28 #[.val (.ref a1), .val (.int (1 : Int32)), .val (.ref a2), .val (.int (1 : Int32)), .val (.int (2 : Int32)), .val (.int (1 : Int32)), .val (.int p4)] [(.int (1 : Int32)), (.ref a2)])) _
    refine XS.iload X14.here hx rfl (hb hby d5_28) rfl ?_
    show Steps p.tables e below (T14.setTop (mkF m 30 #[.val (.ref a1), .val (.int (1 : Int32)), .val (.ref a2), .val (.int (1 : Int32)), .val (.int (2 : Int32)), .val (.int (1 : Int32)), .val (.int p4)] [(.int p4), (.int (1 : Int32)), (.ref a2)])) _
    refine XS.i2b X14.here hx rfl (hb hby d5_30) rfl ?_
    show Steps p.tables e below (T14.setTop (mkF m 31 #[.val (.ref a1), .val (.int (1 : Int32)), .val (.ref a2), .val (.int (1 : Int32)), .val (.int (2 : Int32)), .val (.int (1 : Int32)), .val (.int p4)] [(.int (p4.toInt8.toInt32)), (.int (1 : Int32)), (.ref a2)])) _
    rw [← hi20]
    show Steps p.tables e below (T14.setTop (mkF m 31 #[.val (.ref a1), .val (.int (1 : Int32)), .val (.ref a2), .val (.int (1 : Int32)), .val (.int (2 : Int32)), .val (.int (1 : Int32)), .val (.int p4)] [(.int i20), (.int (1 : Int32)), (.ref a2)])) _
    refine st23 _ ?_
    show Steps p.tables e below (T23.setTop (mkF m 32 #[.val (.ref a1), .val (.int (1 : Int32)), .val (.ref a2), .val (.int (1 : Int32)), .val (.int (2 : Int32)), .val (.int (1 : Int32)), .val (.int p4)] [])) _
    refine XS.iinc X23.here hx rfl (hb hby d5_32) rfl (l' := #[.val (.ref a1), .val (.int ((1 : Int32) + (1 : Int32))), .val (.ref a2), .val (.int (1 : Int32)), .val (.int (2 : Int32)), .val (.int (1 : Int32)), .val (.int p4)]) rfl ?_
    show Steps p.tables e below (T23.setTop (mkF m 35 #[.val (.ref a1), .val (.int ((1 : Int32) + (1 : Int32))), .val (.ref a2), .val (.int (1 : Int32)), .val (.int (2 : Int32)), .val (.int (1 : Int32)), .val (.int p4)] [])) _
    rw [(by decide +kernel : ((1 : Int32) + (1 : Int32)) = (2 : Int32))]
    show Steps p.tables e below (T23.setTop (mkF m 35 #[.val (.ref a1), .val (.int (2 : Int32)), .val (.ref a2), .val (.int (1 : Int32)), .val (.int (2 : Int32)), .val (.int (1 : Int32)), .val (.int p4)] [])) _
    refine XS.iinc X23.here hx rfl (hb hby d5_35) rfl (l' := #[.val (.ref a1), .val (.int (2 : Int32)), .val (.ref a2), .val (.int ((1 : Int32) + (1 : Int32))), .val (.int (2 : Int32)), .val (.int (1 : Int32)), .val (.int p4)]) rfl ?_
    show Steps p.tables e below (T23.setTop (mkF m 38 #[.val (.ref a1), .val (.int (2 : Int32)), .val (.ref a2), .val (.int ((1 : Int32) + (1 : Int32))), .val (.int (2 : Int32)), .val (.int (1 : Int32)), .val (.int p4)] [])) _
    rw [(by decide +kernel : ((1 : Int32) + (1 : Int32)) = (2 : Int32))]
    show Steps p.tables e below (T23.setTop (mkF m 38 #[.val (.ref a1), .val (.int (2 : Int32)), .val (.ref a2), .val (.int (2 : Int32)), .val (.int (2 : Int32)), .val (.int (1 : Int32)), .val (.int p4)] [])) _
    refine XS.iinc X23.here hx rfl (hb hby d5_38) rfl (l' := #[.val (.ref a1), .val (.int (2 : Int32)), .val (.ref a2), .val (.int (2 : Int32)), .val (.int (2 : Int32)), .val (.int ((1 : Int32) + (1 : Int32))), .val (.int p4)]) rfl ?_
    show Steps p.tables e below (T23.setTop (mkF m 41 #[.val (.ref a1), .val (.int (2 : Int32)), .val (.ref a2), .val (.int (2 : Int32)), .val (.int (2 : Int32)), .val (.int ((1 : Int32) + (1 : Int32))), .val (.int p4)] [])) _
    rw [(by decide +kernel : ((1 : Int32) + (1 : Int32)) = (2 : Int32))]
    show Steps p.tables e below (T23.setTop (mkF m 41 #[.val (.ref a1), .val (.int (2 : Int32)), .val (.ref a2), .val (.int (2 : Int32)), .val (.int (2 : Int32)), .val (.int (2 : Int32)), .val (.int p4)] [])) _
    refine XS.goto X23.here hx rfl (pc0 := 41) (pc' := 3) rfl (hb hby d5_41) (by decide) (by decide) ?_
    show Steps p.tables e below (T23.setTop (mkF m 3 #[.val (.ref a1), .val (.int (2 : Int32)), .val (.ref a2), .val (.int (2 : Int32)), .val (.int (2 : Int32)), .val (.int (2 : Int32)), .val (.int p4)] [])) _
    refine XS.iload X23.here hx rfl (hb hby d5_3) rfl ?_
    show Steps p.tables e below (T23.setTop (mkF m 5 #[.val (.ref a1), .val (.int (2 : Int32)), .val (.ref a2), .val (.int (2 : Int32)), .val (.int (2 : Int32)), .val (.int (2 : Int32)), .val (.int p4)] [(.int (2 : Int32))])) _
    refine XS.iload X23.here hx rfl (hb hby d5_5) rfl ?_
    show Steps p.tables e below (T23.setTop (mkF m 7 #[.val (.ref a1), .val (.int (2 : Int32)), .val (.ref a2), .val (.int (2 : Int32)), .val (.int (2 : Int32)), .val (.int (2 : Int32)), .val (.int p4)] [(.int (2 : Int32)), (.int (2 : Int32))])) _
    refine XS.icmpYes X23.here hx rfl (pc0 := 7) (pc' := 44) rfl (hb hby d5_7) rfl (flt (by decide +kernel : ¬ ((2 : Int32) < (2 : Int32)))).2.1 (by decide) (by decide) ?_
    show Steps p.tables e below (T23.setTop (mkF m 44 #[.val (.ref a1), .val (.int (2 : Int32)), .val (.ref a2), .val (.int (2 : Int32)), .val (.int (2 : Int32)), .val (.int (2 : Int32)), .val (.int p4)] [])) _
    refine XS.iload X23.here hx rfl (hb hby d5_44) rfl ?_
    show Steps p.tables e below (T23.setTop (mkF m 46 #[.val (.ref a1), .val (.int (2 : Int32)), .val (.ref a2), .val (.int (2 : Int32)), .val (.int (2 : Int32)), .val (.int (2 : Int32)), .val (.int p4)] [(.int (2 : Int32))])) _
    exact retI X23 hx Bd.returns (hb hby d5_46) hr
  · show Q5_5 Z _ _ _ _ _ _ h0 n0 _ T23.heap _
    rw [e23]
    exact ⟨i20, i9, hi9, hi20, rfl, N23, (((Keep.refl h0 [a2]).wr W14 (Or.inl (List.mem_of_getElem? (i := 0) rfl))).wr W23 (Or.inl (List.mem_of_getElem? (i := 0) rfl))), f24, V23⟩
theorem ef_rm4_4 (m : MethodId) (x0 : Addr) : entryFrame m #[(.ref x0), (.int (0 : Int32)), (.int (2 : Int32))] 6 = mkF m 0 #[.val (.ref x0), .val (.int (0 : Int32)), .val (.int (2 : Int32)), .unset, .unset, .unset] [] := by first | (simp [entryFrame, mkF, argsToLocals, Value.category]; done) | rfl
def Q4_4 (Z : State) (a1 : Addr) (p3 : Int32) (p4 : Int32) (k5 : ClassId) (h0 : Heap) (n0 : Nat) (v : Option Value) (h : Heap) (L : List Loc) : Prop := (∃ (i11 : Int32) (i12 : Int32) (b2 : Addr) (k2 : ClassId), i12 = (p3.toInt8.toInt32) ∧ i11 = (p4.toInt8.toInt32) ∧ v = some (.ref b2) ∧ Fr n0 L ∧ h0.size ≤ b2 ∧ b2 < h.size ∧ Keep h0 h [] ∧ Exa Z h b2 "[B" ∧ Arv Z h b2 k2 .byte (2 : Int32) [(.int i12), (.int i11)] (.int (0 : Int32)))
set_option maxRecDepth 65536 in
set_option maxHeartbeats 40000000 in
theorem rm4_4 (l : Launch) (Z : State) (a0 : Array Value) (hw : ∀ d ∈ own_ws, d.before a0 Z = true) (ws : List Jvm.Cond) (a1 : Addr) (p3 : Int32) (p4 : Int32) (k5 : ClassId) (h0 : Heap) (n0 : Nat) (O0 : Old Z n0 h0) (V6 : Arv Z h0 a1 k5 .char (2 : Int32) [(.int p3), (.int p4)] (.int (0 : Int32))) (hk7 : ¬ ((255 : Int32) < p3)) (lt_a1 : a1 < h0.size) (hk8 : ¬ ((255 : Int32) < p4)) :
    MetFree l M_1 (head1 (Jvm.Cond.code M_1 jdk_52_method_16_code 6 (some (.array .byte)) :: ws) ({ frames := 1, cells := 1, slots := 2, locals := 18 } : Room)) (fun a U => a = #[(.ref a1), (.int (0 : Int32)), (.int (2 : Int32))] ∧ Z.Warmed39 U.vm ∧ U.heap = h0) (fun _ _ _ _ _ => True) (fun _ U o U' => ∃ v L, o = .returned v ∧ Q4_4 Z a1 p3 p4 k5 h0 n0 v U'.heap L ∧ FrameEnd U o U' L ({ frames := 1, cells := 1, slots := 2, locals := 18 } : Room).cells ({ frames := 1, cells := 1, slots := 2, locals := 18 } : Room).slots) := by
  refine MetFree.of_bodySF (plainFor_of_name pn_0) hisR ?_
  intro p e s m args below meth c s₁ Bd hml0 hP hK
  obtain ⟨rfl, hZ, hh⟩ := hP
  have hx := Bd.exec
  have hby := Bd.bytes
  have hml : c.maxLocals = 6 := hml0
  have hown : s.vm.findClass "java/lang/StringUTF16" = some m.cls := findClass_of_methodNamed Bd.named
  have hnm := (name_of_methodNamed Bd.named Bd.method).1
  have X0 : Stand p l e ({ frames := 1, cells := 1, slots := 2, locals := 18 } : Room) s m #[(.ref a1), (.int (0 : Int32)), (.int (2 : Int32))] below meth c s₁ [] 0 0 := Stand.of_body Bd
  have e0 : s₁.heap = h0 := by rw [← hh, Bd.state]; rfl
  have N0 := Fr.nil n0
  have pre0 : ∀ t, Steps p.tables e below (s₁.setTop (mkF m 0 #[.val (.ref a1), .val (.int (0 : Int32)), .val (.int (2 : Int32)), .unset, .unset, .unset] [])) t → Steps p.tables e below (s₁.setTop (entryFrame m #[(.ref a1), (.int (0 : Int32)), (.int (2 : Int32))] 6)) t := fun t k => castTop (ef_rm4_4 m a1) k
  obtain ⟨T2, h2, k2, X2, e2, E2, A2, Ex2, st2⟩ := newPE X0 hx hZ (hw _ (gw 22 rfl)) e0 (g := (mkF m 1 #[.val (.ref a1), .val (.int (0 : Int32)), .val (.int (2 : Int32)), .unset, .unset, .unset] [(.int (2 : Int32))])) rfl (hb hby d4_1) rfl (by decide +kernel) (cap := 2) (by decide +kernel) (by decide) (by decide) (by decide) (ad := "[B") (by decide +kernel)
  obtain ⟨b2, g2⟩ : ∃ z, z = h0.size := ⟨_, rfl⟩
  rw [← g2] at A2 Ex2 st2
  have O2 : Old Z n0 h2 := O0.ext E2
  have bd_b2 : h0.size ≤ b2 := Nat.le_of_eq g2.symm
  have g_b2 : n0 ≤ b2 := Nat.le_trans (own_z O0) bd_b2
  have sz_b2 : h0.size ≤ b2 := Nat.le_trans (Nat.le_refl _) bd_b2
  have lt_b2 : b2 < h2.size := A2.lt
  have V2 : Arv Z h2 b2 k2 .byte (2 : Int32) [] (.int (0 : Int32)) := Arv.new A2 (by decide +kernel)
  have f9 : Arv Z h2 a1 k5 .char (2 : Int32) [(.int p3), (.int p4)] (.int (0 : Int32)) := (V6.ext E2)
  obtain ⟨_, _, ⟨T10, L10, k10, n10⟩, -, X10, ⟨Lc10, hQ10, l10, y10, z10⟩, st10⟩ := Jvm.LawKit.callS X2 hx (y := M_0) hown (mvT hZ (hw _ (gw 23 rfl))) (mvT hZ (hw _ (gw 24 rfl))) (mvT hZ (hw _ (gw 20 rfl))) (mvT hZ (hw _ (gw 25 rfl))) (by decide) (backOf (W := 0) (rm5_5 l Z a0 hw [] a1 b2 p3 p4 k5 k2 h2 n0  O2 f9 hk7 V2 g_b2 Ex2 (Nat.ne_of_lt (Nat.lt_of_lt_of_le lt_a1 bd_b2)) hk8) hZ (hw _ (gw 25 rfl)) (hw _ (gw 20 rfl)) (by decide) (by decide)) (g := (mkF m 9 #[.val (.ref a1), .val (.int (0 : Int32)), .val (.int (2 : Int32)), .val (.ref b2), .unset, .unset] [(.int (2 : Int32)), (.int (0 : Int32)), (.ref b2), (.int (0 : Int32)), (.ref a1)])) rfl (by rw [hml]; rfl) (argsL := [(.ref a1), (.int (0 : Int32)), (.ref b2), (.int (0 : Int32)), (.int (2 : Int32))]) (rest := []) (lenOf pd_0 rfl) rfl (by show 2 * 0 + _ ≤ _; exact Nat.le_of_eq rfl) (hb hby d4_9) (fun _ _ => ⟨rfl, e2, (by decide : 1 + 0 ≤ _), (by decide : 2 + 0 ≤ _)⟩)
  dsimp only [Pt.U, Pt.locs, Pt.cells, Pt.slots] at X10 l10 y10 z10 st10 hQ10
  subst l10 y10 z10
  obtain ⟨i11, i12, u13, u14, rfl, u16, Ku17, u18, u19⟩ := hQ10
  have Ou17 : Old Z n0 T10.heap := O2.keep Ku17 (allS g_b2 all0)
  have N10 := Fr.app N0 u16
  obtain ⟨fs, hr, hrun, hended, hW, hsame⟩ := X10.leave (v := some (.ref b2)) (fun h => by rw [Bd.returns] at h; cases h)
  refine ⟨_, _, pre0 _ ?_, hrun, hended, _, _, rfl, ?_, ⟨_, rfl⟩, hW, hsame.mono (by decide) (by decide)⟩
  · show Steps p.tables e below (s₁.setTop (mkF m 0 #[.val (.ref a1), .val (.int (0 : Int32)), .val (.int (2 : Int32)), .unset, .unset, .unset] [])) _
    refine XS.iloadN X0.here hx rfl (hb hby d4_0) rfl ?_
    show Steps p.tables e below (s₁.setTop (mkF m 1 #[.val (.ref a1), .val (.int (0 : Int32)), .val (.int (2 : Int32)), .unset, .unset, .unset] [(.int (2 : Int32))])) _
    refine st2 _ ?_
    show Steps p.tables e below (T2.setTop (mkF m 3 #[.val (.ref a1), .val (.int (0 : Int32)), .val (.int (2 : Int32)), .unset, .unset, .unset] [(.ref b2)])) _
    refine XS.astoreN X2.here hx rfl (hb hby d4_3) rfl rfl (l' := #[.val (.ref a1), .val (.int (0 : Int32)), .val (.int (2 : Int32)), .val (.ref b2), .unset, .unset]) rfl ?_
    show Steps p.tables e below (T2.setTop (mkF m 4 #[.val (.ref a1), .val (.int (0 : Int32)), .val (.int (2 : Int32)), .val (.ref b2), .unset, .unset] [])) _
    refine XS.aloadN X2.here hx rfl (hb hby d4_4) rfl rfl ?_
    show Steps p.tables e below (T2.setTop (mkF m 5 #[.val (.ref a1), .val (.int (0 : Int32)), .val (.int (2 : Int32)), .val (.ref b2), .unset, .unset] [(.ref a1)])) _
    refine XS.iloadN X2.here hx rfl (hb hby d4_5) rfl ?_
    show Steps p.tables e below (T2.setTop (mkF m 6 #[.val (.ref a1), .val (.int (0 : Int32)), .val (.int (2 : Int32)), .val (.ref b2), .unset, .unset] [(.int (0 : Int32)), (.ref a1)])) _
    refine XS.aloadN X2.here hx rfl (hb hby d4_6) rfl rfl ?_
    show Steps p.tables e below (T2.setTop (mkF m 7 #[.val (.ref a1), .val (.int (0 : Int32)), .val (.int (2 : Int32)), .val (.ref b2), .unset, .unset] [(.ref b2), (.int (0 : Int32)), (.ref a1)])) _
    refine XS.iconst X2.here hx rfl (hb hby d4_7) ?_
    show Steps p.tables e below (T2.setTop (mkF m 8 #[.val (.ref a1), .val (.int (0 : Int32)), .val (.int (2 : Int32)), .val (.ref b2), .unset, .unset] [(.int (0 : Int32)), (.ref b2), (.int (0 : Int32)), (.ref a1)])) _
    refine XS.iloadN X2.here hx rfl (hb hby d4_8) rfl ?_
    show Steps p.tables e below (T2.setTop (mkF m 9 #[.val (.ref a1), .val (.int (0 : Int32)), .val (.int (2 : Int32)), .val (.ref b2), .unset, .unset] [(.int (2 : Int32)), (.int (0 : Int32)), (.ref b2), (.int (0 : Int32)), (.ref a1)])) _
    refine st10 _ ?_
    show Steps p.tables e below (T10.setTop (mkF m 12 #[.val (.ref a1), .val (.int (0 : Int32)), .val (.int (2 : Int32)), .val (.ref b2), .unset, .unset] [(.int (2 : Int32))])) _
    refine XS.istore X10.here hx rfl (hb hby d4_12) rfl (l' := #[.val (.ref a1), .val (.int (0 : Int32)), .val (.int (2 : Int32)), .val (.ref b2), .val (.int (2 : Int32)), .unset]) rfl ?_
    show Steps p.tables e below (T10.setTop (mkF m 14 #[.val (.ref a1), .val (.int (0 : Int32)), .val (.int (2 : Int32)), .val (.ref b2), .val (.int (2 : Int32)), .unset] [])) _
    refine XS.iload X10.here hx rfl (hb hby d4_14) rfl ?_
    show Steps p.tables e below (T10.setTop (mkF m 16 #[.val (.ref a1), .val (.int (0 : Int32)), .val (.int (2 : Int32)), .val (.ref b2), .val (.int (2 : Int32)), .unset] [(.int (2 : Int32))])) _
    refine XS.iloadN X10.here hx rfl (hb hby d4_16) rfl ?_
    show Steps p.tables e below (T10.setTop (mkF m 17 #[.val (.ref a1), .val (.int (0 : Int32)), .val (.int (2 : Int32)), .val (.ref b2), .val (.int (2 : Int32)), .unset] [(.int (2 : Int32)), (.int (2 : Int32))])) _
    refine XS.icmpYes X10.here hx rfl (pc0 := 17) (pc' := 57) rfl (hb hby d4_17) rfl (teq (by decide +kernel : (2 : Int32) = (2 : Int32))).1 (by decide) (by decide) ?_
    show Steps p.tables e below (T10.setTop (mkF m 57 #[.val (.ref a1), .val (.int (0 : Int32)), .val (.int (2 : Int32)), .val (.ref b2), .val (.int (2 : Int32)), .unset] [])) _
    refine XS.aloadN X10.here hx rfl (hb hby d4_57) rfl rfl ?_
    show Steps p.tables e below (T10.setTop (mkF m 58 #[.val (.ref a1), .val (.int (0 : Int32)), .val (.int (2 : Int32)), .val (.ref b2), .val (.int (2 : Int32)), .unset] [(.ref b2)])) _
    jvm_step X10.here [X10.here.top, hx, (hb hby d4_58), X10.method', Bd.returns, Value.isRef, FieldType.isReference]
    first | (intro acts; rw [hr _ acts rfl rfl rfl]) | rw [hr _ _ rfl rfl rfl]
    exact Steps.refl _
  · show Q4_4 Z _ _ _ _ h0 n0 _ T10.heap _
    exact ⟨i11, i12, b2, k2, u13, u14, rfl, N10, sz_b2, (Nat.lt_of_lt_of_le lt_b2 Ku17.1), (((Keep.refl h0 []).ext E2).trans Ku17 (allS (Or.inr sz_b2) all0)), u18, u19⟩
theorem ef_rm6_6 (m : MethodId) (x0 : Addr) : entryFrame m #[(.ref x0), (.int (2 : Int32))] 2 = mkF m 0 #[.val (.ref x0), .val (.int (2 : Int32))] [] := by first | (simp [entryFrame, mkF, argsToLocals, Value.category]; done) | rfl
def Q6_6 (Z : State) (a1 : Addr) (p2 : Int32) (p3 : Int32) (k4 : ClassId) (h0 : Heap) (n0 : Nat) (v : Option Value) (h : Heap) (L : List Loc) : Prop := (v = some (.int (0 : Int32)) ∧ Fr n0 L ∧ h = h0)
set_option maxRecDepth 65536 in
set_option maxHeartbeats 40000000 in
theorem rm6_6 (l : Launch) (Z : State) (a0 : Array Value) (hw : ∀ d ∈ own_ws, d.before a0 Z = true) (ws : List Jvm.Cond) (a1 : Addr) (p2 : Int32) (p3 : Int32) (k4 : ClassId) (h0 : Heap) (n0 : Nat) (O0 : Old Z n0 h0) (V5 : Arv Z h0 a1 k4 .byte (2 : Int32) [(.int p2), (.int p3)] (.int (0 : Int32))) :
    MetFree l M_2 (head1 (Jvm.Cond.code M_2 jdk_52_method_15_code 2 (some .byte) :: ws) ({ frames := 0, cells := 0, slots := 0, locals := 0 } : Room)) (fun a U => a = #[(.ref a1), (.int (2 : Int32))] ∧ Z.Warmed39 U.vm ∧ U.heap = h0) (fun _ _ _ _ _ => True) (fun _ U o U' => ∃ v L, o = .returned v ∧ Q6_6 Z a1 p2 p3 k4 h0 n0 v U'.heap L ∧ FrameEnd U o U' L ({ frames := 0, cells := 0, slots := 0, locals := 0 } : Room).cells ({ frames := 0, cells := 0, slots := 0, locals := 0 } : Room).slots) := by
  refine MetFree.of_bodySF (plainFor_of_name pn_0) hisR ?_
  intro p e s m args below meth c s₁ Bd hml0 hP hK
  obtain ⟨rfl, hZ, hh⟩ := hP
  have hx := Bd.exec
  have hby := Bd.bytes
  have hml : c.maxLocals = 2 := hml0
  have hown : s.vm.findClass "java/lang/StringUTF16" = some m.cls := findClass_of_methodNamed Bd.named
  have hnm := (name_of_methodNamed Bd.named Bd.method).1
  have X0 : Stand p l e ({ frames := 0, cells := 0, slots := 0, locals := 0 } : Room) s m #[(.ref a1), (.int (2 : Int32))] below meth c s₁ [] 0 0 := Stand.of_body Bd
  have e0 : s₁.heap = h0 := by rw [← hh, Bd.state]; rfl
  have N0 := Fr.nil n0
  have pre0 : ∀ t, Steps p.tables e below (s₁.setTop (mkF m 0 #[.val (.ref a1), .val (.int (2 : Int32))] [])) t → Steps p.tables e below (s₁.setTop (entryFrame m #[(.ref a1), (.int (2 : Int32))] 2)) t := fun t k => castTop (ef_rm6_6 m a1) k
  obtain ⟨cl6, Ar6, -, Sz6, Nn6, -, -⟩ := id V5
  obtain ⟨fs, hr, hrun, hended, hW, hsame⟩ := X0.leave (v := some (.int (0 : Int32))) (fun h => by rw [Bd.returns] at h; cases h)
  refine ⟨_, _, pre0 _ ?_, hrun, hended, _, _, rfl, ?_, ⟨_, rfl⟩, hW, hsame.mono (by decide) (by decide)⟩
  · show Steps p.tables e below (s₁.setTop (mkF m 0 #[.val (.ref a1), .val (.int (2 : Int32))] [])) _
    refine XS.iloadN X0.here hx rfl (hb hby d6_0) rfl ?_
    show Steps p.tables e below (s₁.setTop (mkF m 1 #[.val (.ref a1), .val (.int (2 : Int32))] [(.int (2 : Int32))])) _
    refine XS.aloadN X0.here hx rfl (hb hby d6_1) rfl rfl ?_
    show Steps p.tables e below (s₁.setTop (mkF m 2 #[.val (.ref a1), .val (.int (2 : Int32))] [(.ref a1), (.int (2 : Int32))])) _
    refine X0.arraylength hx (by rw [e0]; exact Ar6.1) (State.isArrayOf_alike hZ.alike Ar6.2.1) (g := (mkF m 2 #[.val (.ref a1), .val (.int (2 : Int32))] [(.ref a1), (.int (2 : Int32))])) rfl rfl (hb hby d6_2) _ ?_
    rw [len_of Sz6 Nn6]
    show Steps p.tables e below (s₁.setTop (mkF m 3 #[.val (.ref a1), .val (.int (2 : Int32))] [(.int (2 : Int32)), (.int (2 : Int32))])) _
    refine XS.isub X0.here hx rfl (hb hby d6_3) rfl ?_
    show Steps p.tables e below (s₁.setTop (mkF m 4 #[.val (.ref a1), .val (.int (2 : Int32))] [(.int ((2 : Int32) - (2 : Int32)))])) _
    rw [(by decide +kernel : ((2 : Int32) - (2 : Int32)) = (0 : Int32))]
    show Steps p.tables e below (s₁.setTop (mkF m 4 #[.val (.ref a1), .val (.int (2 : Int32))] [(.int (0 : Int32))])) _
    refine XS.bipush X0.here hx rfl (hb hby d6_4) ?_
    show Steps p.tables e below (s₁.setTop (mkF m 6 #[.val (.ref a1), .val (.int (2 : Int32))] [(.int (31 : Int32)), (.int (0 : Int32))])) _
    refine XS.iushr X0.here hx rfl (hb hby d6_6) rfl ?_
    show Steps p.tables e below (s₁.setTop (mkF m 7 #[.val (.ref a1), .val (.int (2 : Int32))] [(.int (((0 : Int32).toUInt32 >>> ((31 : Int32) &&& 31).toUInt32).toInt32))])) _
    rw [(by decide +kernel : (((0 : Int32).toUInt32 >>> ((31 : Int32) &&& 31).toUInt32).toInt32) = (0 : Int32))]
    show Steps p.tables e below (s₁.setTop (mkF m 7 #[.val (.ref a1), .val (.int (2 : Int32))] [(.int (0 : Int32))])) _
    refine XS.i2b X0.here hx rfl (hb hby d6_7) rfl ?_
    show Steps p.tables e below (s₁.setTop (mkF m 8 #[.val (.ref a1), .val (.int (2 : Int32))] [(.int ((0 : Int32).toInt8.toInt32))])) _
    rw [(by decide +kernel : ((0 : Int32).toInt8.toInt32) = (0 : Int32))]
    show Steps p.tables e below (s₁.setTop (mkF m 8 #[.val (.ref a1), .val (.int (2 : Int32))] [(.int (0 : Int32))])) _
    exact retN X0 hx (t := .byte) Bd.returns (by simp) (hb hby d6_8) hr
  · show Q6_6 Z _ _ _ _ h0 n0 _ s₁.heap _
    rw [e0]
    exact ⟨rfl, N0, rfl⟩
theorem ef_rm2_3 (m : MethodId) (x0 : Addr) (x1 : Addr) : entryFrame m #[(.ref x0), (.ref x1), (.int (0 : Int32)), (.int (2 : Int32)), .null] 6 = mkF m 0 #[.val (.ref x0), .val (.ref x1), .val (.int (0 : Int32)), .val (.int (2 : Int32)), .val .null, .unset] [] := by first | (simp [entryFrame, mkF, argsToLocals, Value.category]; done) | rfl
def Q2_3 (Z : State) (a1 : Addr) (a2 : Addr) (p4 : Int32) (p8 : Int32) (p9 : Int32) (k10 : ClassId) (h0 : Heap) (n0 : Nat) (v : Option Value) (h : Heap) (L : List Loc) : Prop := (∃ (i15 : Int32) (i16 : Int32) (b17 : Addr) (k18 : ClassId), i16 = (p8.toInt8.toInt32) ∧ i15 = (p9.toInt8.toInt32) ∧ v = none ∧ Fr n0 L ∧ h0.size ≤ b17 ∧ b17 < h.size ∧ Keep h0 h [a1] ∧ Exa Z h a1 "java/lang/String" ∧ Fld Z h a1 "java/lang/String" "coder" "B" (.int (0 : Int32)) ∧ Fld Z h a1 "java/lang/String" "value" "[B" (.ref b17) ∧ Exa Z h b17 "[B" ∧ Arv Z h b17 k18 .byte (2 : Int32) [(.int i16), (.int i15)] (.int (0 : Int32)))
set_option maxRecDepth 65536 in
set_option maxHeartbeats 40000000 in
theorem rm2_3 (l : Launch) (Z : State) (a0 : Array Value) (hw : ∀ d ∈ own_ws, d.before a0 Z = true) (ws : List Jvm.Cond) (a1 : Addr) (a2 : Addr) (p4 : Int32) (p8 : Int32) (p9 : Int32) (k10 : ClassId) (h0 : Heap) (n0 : Nat) (O0 : Old Z n0 h0) (S_5 : Sta Z Z.heap "java/lang/String" "COMPACT_STRINGS" "Z" (.int p4)) (hk7 : ¬ (p4 = (0 : Int32))) (V11 : Arv Z h0 a2 k10 .char (2 : Int32) [(.int p8), (.int p9)] (.int (0 : Int32))) (hk12 : ¬ ((255 : Int32) < p8)) (hk13 : ¬ ((255 : Int32) < p9)) (lt_a2 : a2 < h0.size) (E_32 : Exa Z h0 a1 "java/lang/String") (F33 : Fld Z h0 a1 "java/lang/String" "coder" "B" (.int (0 : Int32))) (F34 : Fld Z h0 a1 "java/lang/String" "value" "[B" .null) (g_a1 : n0 ≤ a1) (lt_a1 : a1 < h0.size) :
    MetFree l M_3 (head1 (Jvm.Cond.code M_3 jdk_42_method_149_code 6 none :: ws) ({ frames := 2, cells := 1, slots := 2, locals := 35 } : Room)) (fun a U => a = #[(.ref a1), (.ref a2), (.int (0 : Int32)), (.int (2 : Int32)), .null] ∧ Z.Warmed39 U.vm ∧ U.heap = h0) (fun _ _ _ _ _ => True) (fun _ U o U' => ∃ v L, o = .returned v ∧ Q2_3 Z a1 a2 p4 p8 p9 k10 h0 n0 v U'.heap L ∧ FrameEnd U o U' L ({ frames := 2, cells := 1, slots := 2, locals := 35 } : Room).cells ({ frames := 2, cells := 1, slots := 2, locals := 35 } : Room).slots) := by
  refine MetFree.of_bodySF (plainFor_of_name pn_1) hisR ?_
  intro p e s m args below meth c s₁ Bd hml0 hP hK
  obtain ⟨rfl, hZ, hh⟩ := hP
  have hx := Bd.exec
  have hby := Bd.bytes
  have hml : c.maxLocals = 6 := hml0
  have hown : s.vm.findClass "java/lang/String" = some m.cls := findClass_of_methodNamed Bd.named
  have hnm := (name_of_methodNamed Bd.named Bd.method).1
  have X0 : Stand p l e ({ frames := 2, cells := 1, slots := 2, locals := 35 } : Room) s m #[(.ref a1), (.ref a2), (.int (0 : Int32)), (.int (2 : Int32)), .null] below meth c s₁ [] 0 0 := Stand.of_body Bd
  have e0 : s₁.heap = h0 := by rw [← hh, Bd.state]; rfl
  have N0 := Fr.nil n0
  have pre0 : ∀ t, Steps p.tables e below (s₁.setTop (mkF m 0 #[.val (.ref a1), .val (.ref a2), .val (.int (0 : Int32)), .val (.int (2 : Int32)), .val .null, .unset] [])) t → Steps p.tables e below (s₁.setTop (entryFrame m #[(.ref a1), (.ref a2), (.int (0 : Int32)), (.int (2 : Int32)), .null] 6)) t := fun t k => castTop (ef_rm2_3 m a1 a2) k
  obtain ⟨T3, X3, e3, st3⟩ := initO X0 hx hZ hown (hw _ (gw 14 rfl)) (hw _ (gw 15 rfl)) (hw _ (gw 16 rfl)) e0 (g := (mkF m 1 #[.val (.ref a1), .val (.ref a2), .val (.int (0 : Int32)), .val (.int (2 : Int32)), .val .null, .unset] [(.ref a1)])) rfl (by rw [hml]; rfl) rfl (hb hby d2_1) (by decide) (W := 0) (by show 2 * 0 + _ ≤ _; exact Nat.le_of_eq rfl) (by decide)
  obtain ⟨T6, X6, e6, st6⟩ := getS2 X3 hx hZ hown (host := "") (Or.inl (hw _ (gw 17 rfl))) Via.refl e3 (Sta.ext O0.2 S_5) (g := (mkF m 27 #[.val (.ref a1), .val (.ref a2), .val (.int (0 : Int32)), .val (.int (2 : Int32)), .val .null, .unset] [])) rfl (hb hby d2_27)
  obtain ⟨_, _, ⟨T14, L14, k14, n14⟩, -, X14, ⟨Lc14, hQ14, l14, y14, z14⟩, st14⟩ := Jvm.LawKit.callS X6 hx (y := M_1) hown (mvT hZ (hw _ (gw 18 rfl))) (mvT hZ (hw _ (gw 19 rfl))) (mvT hZ (hw _ (gw 20 rfl))) (mvT hZ (hw _ (gw 21 rfl))) (by decide) (backOf (W := 0) (rm4_4 l Z a0 hw [] a2 p8 p9 k10 h0 n0  O0 V11 hk12 lt_a2 hk13) hZ (hw _ (gw 21 rfl)) (hw _ (gw 20 rfl)) (by decide) (by decide)) (g := (mkF m 36 #[.val (.ref a1), .val (.ref a2), .val (.int (0 : Int32)), .val (.int (2 : Int32)), .val .null, .unset] [(.int (2 : Int32)), (.int (0 : Int32)), (.ref a2)])) rfl (by rw [hml]; rfl) (argsL := [(.ref a2), (.int (0 : Int32)), (.int (2 : Int32))]) (rest := []) (lenOf pd_1 rfl) rfl (by show 2 * 0 + _ ≤ _; exact Nat.le_of_eq rfl) (hb hby d2_36) (fun _ _ => ⟨rfl, e6, (by decide : 0 + 1 ≤ _), (by decide : 0 + 2 ≤ _)⟩)
  dsimp only [Pt.U, Pt.locs, Pt.cells, Pt.slots] at X14 l14 y14 z14 st14 hQ14
  subst l14 y14 z14
  obtain ⟨i15, i16, b17, k18, u19, u20, rfl, u22, u23, u24, Ku25, u26, u27⟩ := hQ14
  have Ou25 : Old Z n0 T14.heap := O0.keep Ku25 all0
  have g_b17 : n0 ≤ b17 := Nat.le_trans (own_z O0) u23
  have sz_b17 : h0.size ≤ b17 := Nat.le_trans (Nat.le_refl _) u23
  have N14 := Fr.app N0 u22
  obtain ⟨_, _, ⟨T28, L28, k28, n28⟩, -, X28, ⟨Lc28, hQ28, l28, y28, z28⟩, st28⟩ := Jvm.LawKit.callS X14 hx (y := M_2) hown (mvT hZ (hw _ (gw 26 rfl))) (mvT hZ (hw _ (gw 27 rfl))) (mvT hZ (hw _ (gw 20 rfl))) (mvT hZ (hw _ (gw 28 rfl))) (by decide) (backOf (W := 1) (rm6_6 l Z a0 hw [] b17 i16 i15 k18 T14.heap n0  Ou25 u27) hZ (hw _ (gw 28 rfl)) (hw _ (gw 20 rfl)) (by decide) (by decide)) (g := (mkF m 45 #[.val (.ref a1), .val (.ref a2), .val (.int (0 : Int32)), .val (.int (2 : Int32)), .val .null, .val (.ref b17)] [(.int (2 : Int32)), (.ref b17), (.ref a1)])) rfl (by rw [hml]; rfl) (argsL := [(.ref b17), (.int (2 : Int32))]) (rest := [(.ref a1)]) (lenOf pd_2 rfl) rfl (by show 2 * 0 + _ ≤ _; exact Nat.le_of_eq rfl) (hb hby d2_45) (fun _ _ => ⟨rfl, rfl, (by decide : 1 + 0 ≤ _), (by decide : 2 + 0 ≤ _)⟩)
  dsimp only [Pt.U, Pt.locs, Pt.cells, Pt.slots] at X28 l28 y28 z28 st28 hQ28
  subst l28 y28 z28
  obtain ⟨rfl, u30, u31⟩ := hQ28
  have N28 := Fr.app N14 u30
  have f35 : Fld Z T14.heap a1 "java/lang/String" "coder" "B" (.int (0 : Int32)) := (F33.keep Ku25 nin0)
  have f36 : Exa Z T14.heap a1 "java/lang/String" := (E_32.keep Ku25)
  obtain ⟨T37, h37, X37, e37, W37, st37⟩ := putFN X28 hx hZ hown (hw _ (gw 29 rfl)) Via.refl u31 f35 f36 (Or.inr ⟨(hw _ (gw 30 rfl)), rfl, hnm⟩) (hw _ (gw 5 rfl)) (ty := .byte) (v' := (.int (0 : Int32))) (by decide) (by exact congrArg Value.int (by decide +kernel : (nar .byte (0 : Int32)) = (0 : Int32))) ((by decide +kernel : (nar .byte (0 : Int32)) = (0 : Int32)) ▸ fits_nar_byte _) (g := (mkF m 48 #[.val (.ref a1), .val (.ref a2), .val (.int (0 : Int32)), .val (.int (2 : Int32)), .val .null, .val (.ref b17)] [(.int (0 : Int32)), (.ref a1)])) rfl rfl (hb hby d2_48)
  have O37 : Old Z n0 h37 := Ou25.wr W37 g_a1
  have Fw37 : Fld Z h37 a1 "java/lang/String" "coder" "B" (.int (0 : Int32)) := Fld.same W37 f35
  have N37 := Fr.snoc X37 N28 g_a1
  have f38 : Fld Z h37 a1 "java/lang/String" "value" "[B" .null := (Fld.other W37 (F34.keep Ku25 nin0) (Or.inr (slot_ne (Or.inr (hw _ (gw 32 rfl))) (Or.inr (hw _ (gw 30 rfl))) (by decide) (t := (.array .byte)) (t' := .byte) (by decide) (by decide))))
  have f39 : Exa Z h37 a1 "java/lang/String" := (Exa.wr W37 f36)
  obtain ⟨T40, h40, X40, e40, W40, st40⟩ := putF X37 hx hZ hown (host := "") (Or.inl (hw _ (gw 31 rfl))) Via.refl e37 f38 f39 (Or.inr ⟨(hw _ (gw 32 rfl)), rfl, hnm⟩) (hw _ (gw 5 rfl)) (ty := (.array .byte)) (by decide) rfl rfl (g := (mkF m 54 #[.val (.ref a1), .val (.ref a2), .val (.int (0 : Int32)), .val (.int (2 : Int32)), .val .null, .val (.ref b17)] [(.ref b17), (.ref a1)])) rfl rfl (hb hby d2_54)
  have O40 : Old Z n0 h40 := O37.wr W40 g_a1
  have Fw40 : Fld Z h40 a1 "java/lang/String" "value" "[B" (.ref b17) := Fld.same W40 f38
  have N40 := Fr.snoc X40 N37 g_a1
  obtain ⟨fs, hr, hrun, hended, hW, hsame⟩ := X40.leave (v := none) (fun _ => rfl)
  have f41 : Exa Z h40 a1 "java/lang/String" := (Exa.wr W40 f39)
  have f42 : Fld Z h40 a1 "java/lang/String" "coder" "B" (.int (0 : Int32)) := (Fld.other W40 Fw37 (Or.inr (slot_ne (Or.inr (hw _ (gw 30 rfl))) (Or.inr (hw _ (gw 32 rfl))) (by decide) (t := .byte) (t' := (.array .byte)) (by decide) (by decide))))
  have f43 : Exa Z h40 b17 "[B" := (Exa.wr W40 (Exa.wr W37 u26))
  have f44 : Arv Z h40 b17 k18 .byte (2 : Int32) [(.int i16), (.int i15)] (.int (0 : Int32)) := ((u27.other W37 (Ne.symm (Nat.ne_of_lt (Nat.lt_of_lt_of_le lt_a1 u23)))).other W40 (Ne.symm (Nat.ne_of_lt (Nat.lt_of_lt_of_le lt_a1 u23))))
  refine ⟨_, _, pre0 _ ?_, hrun, hended, _, _, rfl, ?_, ⟨_, rfl⟩, hW, hsame.mono (by decide) (by decide)⟩
  · show Steps p.tables e below (s₁.setTop (mkF m 0 #[.val (.ref a1), .val (.ref a2), .val (.int (0 : Int32)), .val (.int (2 : Int32)), .val .null, .unset] [])) _
    refine XS.aloadN X0.here hx rfl (hb hby d2_0) rfl rfl ?_
    show Steps p.tables e below (s₁.setTop (mkF m 1 #[.val (.ref a1), .val (.ref a2), .val (.int (0 : Int32)), .val (.int (2 : Int32)), .val .null, .unset] [(.ref a1)])) _
    refine st3 _ ?_
    show Steps p.tables e below (T3.setTop (mkF m 4 #[.val (.ref a1), .val (.ref a2), .val (.int (0 : Int32)), .val (.int (2 : Int32)), .val .null, .unset] [])) _
    refine XS.iloadN X3.here hx rfl (hb hby d2_4) rfl ?_
    show Steps p.tables e below (T3.setTop (mkF m 5 #[.val (.ref a1), .val (.ref a2), .val (.int (0 : Int32)), .val (.int (2 : Int32)), .val .null, .unset] [(.int (2 : Int32))])) _
    refine XS.ifYes X3.here hx rfl (pc0 := 5) (pc' := 27) rfl (hb hby d2_5) rfl ((if0 _ _).trans (feq (by decide +kernel : ¬ ((2 : Int32) = (0 : Int32)))).2) (by decide) (by decide) ?_
    show Steps p.tables e below (T3.setTop (mkF m 27 #[.val (.ref a1), .val (.ref a2), .val (.int (0 : Int32)), .val (.int (2 : Int32)), .val .null, .unset] [])) _
    refine st6 _ ?_
    show Steps p.tables e below (T6.setTop (mkF m 30 #[.val (.ref a1), .val (.ref a2), .val (.int (0 : Int32)), .val (.int (2 : Int32)), .val .null, .unset] [(.int p4)])) _
    refine XS.ifNo X6.here hx rfl (hb hby d2_30) rfl ((if0 _ _).trans (feq hk7).1) ?_
    show Steps p.tables e below (T6.setTop (mkF m 33 #[.val (.ref a1), .val (.ref a2), .val (.int (0 : Int32)), .val (.int (2 : Int32)), .val .null, .unset] [])) _
    refine XS.aloadN X6.here hx rfl (hb hby d2_33) rfl rfl ?_
    show Steps p.tables e below (T6.setTop (mkF m 34 #[.val (.ref a1), .val (.ref a2), .val (.int (0 : Int32)), .val (.int (2 : Int32)), .val .null, .unset] [(.ref a2)])) _
    refine XS.iloadN X6.here hx rfl (hb hby d2_34) rfl ?_
    show Steps p.tables e below (T6.setTop (mkF m 35 #[.val (.ref a1), .val (.ref a2), .val (.int (0 : Int32)), .val (.int (2 : Int32)), .val .null, .unset] [(.int (0 : Int32)), (.ref a2)])) _
    refine XS.iloadN X6.here hx rfl (hb hby d2_35) rfl ?_
    show Steps p.tables e below (T6.setTop (mkF m 36 #[.val (.ref a1), .val (.ref a2), .val (.int (0 : Int32)), .val (.int (2 : Int32)), .val .null, .unset] [(.int (2 : Int32)), (.int (0 : Int32)), (.ref a2)])) _
    refine st14 _ ?_
    show Steps p.tables e below (T14.setTop (mkF m 39 #[.val (.ref a1), .val (.ref a2), .val (.int (0 : Int32)), .val (.int (2 : Int32)), .val .null, .unset] [(.ref b17)])) _
    refine XS.astore X14.here hx rfl (hb hby d2_39) rfl rfl (l' := #[.val (.ref a1), .val (.ref a2), .val (.int (0 : Int32)), .val (.int (2 : Int32)), .val .null, .val (.ref b17)]) rfl ?_
    show Steps p.tables e below (T14.setTop (mkF m 41 #[.val (.ref a1), .val (.ref a2), .val (.int (0 : Int32)), .val (.int (2 : Int32)), .val .null, .val (.ref b17)] [])) _
    refine XS.aloadN X14.here hx rfl (hb hby d2_41) rfl rfl ?_
    show Steps p.tables e below (T14.setTop (mkF m 42 #[.val (.ref a1), .val (.ref a2), .val (.int (0 : Int32)), .val (.int (2 : Int32)), .val .null, .val (.ref b17)] [(.ref a1)])) _
    refine XS.aload X14.here hx rfl (hb hby d2_42) rfl rfl ?_
    show Steps p.tables e below (T14.setTop (mkF m 44 #[.val (.ref a1), .val (.ref a2), .val (.int (0 : Int32)), .val (.int (2 : Int32)), .val .null, .val (.ref b17)] [(.ref b17), (.ref a1)])) _
    refine XS.iloadN X14.here hx rfl (hb hby d2_44) rfl ?_
    show Steps p.tables e below (T14.setTop (mkF m 45 #[.val (.ref a1), .val (.ref a2), .val (.int (0 : Int32)), .val (.int (2 : Int32)), .val .null, .val (.ref b17)] [(.int (2 : Int32)), (.ref b17), (.ref a1)])) _
    refine st28 _ ?_
    show Steps p.tables e below (T28.setTop (mkF m 48 #[.val (.ref a1), .val (.ref a2), .val (.int (0 : Int32)), .val (.int (2 : Int32)), .val .null, .val (.ref b17)] [(.int (0 : Int32)), (.ref a1)])) _
    refine st37 _ ?_
    show Steps p.tables e below (T37.setTop (mkF m 51 #[.val (.ref a1), .val (.ref a2), .val (.int (0 : Int32)), .val (.int (2 : Int32)), .val .null, .val (.ref b17)] [])) _
    refine XS.aloadN X37.here hx rfl (hb hby d2_51) rfl rfl ?_
    show Steps p.tables e below (T37.setTop (mkF m 52 #[.val (.ref a1), .val (.ref a2), .val (.int (0 : Int32)), .val (.int (2 : Int32)), .val .null, .val (.ref b17)] [(.ref a1)])) _
    refine XS.aload X37.here hx rfl (hb hby d2_52) rfl rfl ?_
    show Steps p.tables e below (T37.setTop (mkF m 54 #[.val (.ref a1), .val (.ref a2), .val (.int (0 : Int32)), .val (.int (2 : Int32)), .val .null, .val (.ref b17)] [(.ref b17), (.ref a1)])) _
    refine st40 _ ?_
    show Steps p.tables e below (T40.setTop (mkF m 57 #[.val (.ref a1), .val (.ref a2), .val (.int (0 : Int32)), .val (.int (2 : Int32)), .val .null, .val (.ref b17)] [])) _
    exact X40.returnOut hx Bd.returns (hb hby d2_57) hr
  · show Q2_3 Z _ _ _ _ _ _ h0 n0 _ T40.heap _
    rw [e40]
    exact ⟨i15, i16, b17, k18, u19, u20, rfl, N40, sz_b17, (Nat.lt_of_lt_of_le (Nat.lt_of_lt_of_le u24 (Keep.of_wr W37).1) (Keep.of_wr W40).1), ((((Keep.refl h0 [a1]).trans Ku25 all0).wr W37 (Or.inl (List.mem_of_getElem? (i := 0) rfl))).wr W40 (Or.inl (List.mem_of_getElem? (i := 0) rfl))), f41, f42, Fw40, f43, f44⟩
theorem ef_rm1_2 (m : MethodId) (x0 : Addr) (x1 : Addr) : entryFrame m #[(.ref x0), (.ref x1)] 2 = mkF m 0 #[.val (.ref x0), .val (.ref x1)] [] := by first | (simp [entryFrame, mkF, argsToLocals, Value.category]; done) | rfl
def Q1_2 (Z : State) (a1 : Addr) (a2 : Addr) (p3 : Int32) (p4 : Int32) (k5 : ClassId) (p8 : Int32) (h0 : Heap) (n0 : Nat) (v : Option Value) (h : Heap) (L : List Loc) : Prop := (∃ (i17 : Int32) (i18 : Int32) (b19 : Addr) (k20 : ClassId), i18 = (p3.toInt8.toInt32) ∧ i17 = (p4.toInt8.toInt32) ∧ v = none ∧ Fr n0 L ∧ h0.size ≤ b19 ∧ b19 < h.size ∧ Keep h0 h [a1] ∧ Exa Z h a1 "java/lang/String" ∧ Fld Z h a1 "java/lang/String" "coder" "B" (.int (0 : Int32)) ∧ Fld Z h a1 "java/lang/String" "value" "[B" (.ref b19) ∧ Exa Z h b19 "[B" ∧ Arv Z h b19 k20 .byte (2 : Int32) [(.int i18), (.int i17)] (.int (0 : Int32)))
set_option maxRecDepth 65536 in
set_option maxHeartbeats 40000000 in
theorem rm1_2 (l : Launch) (Z : State) (a0 : Array Value) (hw : ∀ d ∈ own_ws, d.before a0 Z = true) (ws : List Jvm.Cond) (a1 : Addr) (a2 : Addr) (p3 : Int32) (p4 : Int32) (k5 : ClassId) (p8 : Int32) (h0 : Heap) (n0 : Nat) (O0 : Old Z n0 h0) (V6 : Arv Z h0 a2 k5 .char (2 : Int32) [(.int p3), (.int p4)] (.int (0 : Int32))) (S_9 : Sta Z Z.heap "java/lang/String" "COMPACT_STRINGS" "Z" (.int p8)) (hk10 : ¬ (p8 = (0 : Int32))) (hk11 : ¬ ((255 : Int32) < p3)) (hk12 : ¬ ((255 : Int32) < p4)) (E_13 : Exa Z h0 a1 "java/lang/String") (F14 : Fld Z h0 a1 "java/lang/String" "coder" "B" (.int (0 : Int32))) (F15 : Fld Z h0 a1 "java/lang/String" "value" "[B" .null) (lt_a2 : a2 < h0.size) (g_a1 : n0 ≤ a1) (lt_a1 : a1 < h0.size) :
    MetFree l M_4 (head1 (Jvm.Cond.code M_4 jdk_42_method_3_code 2 none :: ws) ({ frames := 3, cells := 1, slots := 2, locals := 52 } : Room)) (fun a U => a = #[(.ref a1), (.ref a2)] ∧ Z.Warmed39 U.vm ∧ U.heap = h0) (fun _ _ _ _ _ => True) (fun _ U o U' => ∃ v L, o = .returned v ∧ Q1_2 Z a1 a2 p3 p4 k5 p8 h0 n0 v U'.heap L ∧ FrameEnd U o U' L ({ frames := 3, cells := 1, slots := 2, locals := 52 } : Room).cells ({ frames := 3, cells := 1, slots := 2, locals := 52 } : Room).slots) := by
  refine MetFree.of_bodySF (plainFor_of_name pn_1) hisR ?_
  intro p e s m args below meth c s₁ Bd hml0 hP hK
  obtain ⟨rfl, hZ, hh⟩ := hP
  have hx := Bd.exec
  have hby := Bd.bytes
  have hml : c.maxLocals = 2 := hml0
  have hown : s.vm.findClass "java/lang/String" = some m.cls := findClass_of_methodNamed Bd.named
  have hnm := (name_of_methodNamed Bd.named Bd.method).1
  have X0 : Stand p l e ({ frames := 3, cells := 1, slots := 2, locals := 52 } : Room) s m #[(.ref a1), (.ref a2)] below meth c s₁ [] 0 0 := Stand.of_body Bd
  have e0 : s₁.heap = h0 := by rw [← hh, Bd.state]; rfl
  have N0 := Fr.nil n0
  have pre0 : ∀ t, Steps p.tables e below (s₁.setTop (mkF m 0 #[.val (.ref a1), .val (.ref a2)] [])) t → Steps p.tables e below (s₁.setTop (entryFrame m #[(.ref a1), (.ref a2)] 2)) t := fun t k => castTop (ef_rm1_2 m a1 a2) k
  obtain ⟨cl7, Ar7, -, Sz7, Nn7, -, -⟩ := id V6
  obtain ⟨_, _, ⟨T16, L16, k16, n16⟩, -, X16, ⟨Lc16, hQ16, l16, y16, z16⟩, st16⟩ := X0.specialBack hx (y := M_3) rfl hown (mvT hZ (hw _ (gw 10 rfl))) (mvT hZ (hw _ (gw 11 rfl))) (mvT hZ (hw _ (gw 13 rfl))) (by decide) (backOf (W := 0) (rm2_3 l Z a0 hw [] a1 a2 p8 p3 p4 k5 h0 n0  O0 S_9 hk10 V6 hk11 hk12 lt_a2 E_13 F14 F15 g_a1 lt_a1) hZ (hw _ (gw 13 rfl)) (hw _ (gw 6 rfl)) (by decide) (by decide)) (g := (mkF m 6 #[.val (.ref a1), .val (.ref a2)] [.null, (.int (2 : Int32)), (.int (0 : Int32)), (.ref a2), (.ref a1)])) rfl (by rw [hml]; rfl) (Steps.refl _) (a := a1) (argsL := [(.ref a2), (.int (0 : Int32)), (.int (2 : Int32)), .null]) (rest := []) (lenOf pd_3 rfl) rfl (by show 2 * 0 + _ ≤ _; exact Nat.le_of_eq rfl) (hb hby d1_6) (fun _ _ => ⟨rfl, e0, (by decide : 0 + 1 ≤ _), (by decide : 0 + 2 ≤ _)⟩)
  dsimp only [Pt.U, Pt.locs, Pt.cells, Pt.slots] at X16 l16 y16 z16 st16 hQ16
  subst l16 y16 z16
  obtain ⟨i17, i18, b19, k20, u21, u22, rfl, u24, u25, u26, Ku27, u28, u29, u30, u31, u32⟩ := hQ16
  have Ou27 : Old Z n0 T16.heap := O0.keep Ku27 (allS g_a1 all0)
  have g_b19 : n0 ≤ b19 := Nat.le_trans (own_z O0) u25
  have sz_b19 : h0.size ≤ b19 := Nat.le_trans (Nat.le_refl _) u25
  have N16 := Fr.app N0 u24
  obtain ⟨fs, hr, hrun, hended, hW, hsame⟩ := X16.leave (v := none) (fun _ => rfl)
  refine ⟨_, _, pre0 _ ?_, hrun, hended, _, _, rfl, ?_, ⟨_, rfl⟩, hW, hsame.mono (by decide) (by decide)⟩
  · show Steps p.tables e below (s₁.setTop (mkF m 0 #[.val (.ref a1), .val (.ref a2)] [])) _
    refine XS.aloadN X0.here hx rfl (hb hby d1_0) rfl rfl ?_
    show Steps p.tables e below (s₁.setTop (mkF m 1 #[.val (.ref a1), .val (.ref a2)] [(.ref a1)])) _
    refine XS.aloadN X0.here hx rfl (hb hby d1_1) rfl rfl ?_
    show Steps p.tables e below (s₁.setTop (mkF m 2 #[.val (.ref a1), .val (.ref a2)] [(.ref a2), (.ref a1)])) _
    refine XS.iconst X0.here hx rfl (hb hby d1_2) ?_
    show Steps p.tables e below (s₁.setTop (mkF m 3 #[.val (.ref a1), .val (.ref a2)] [(.int (0 : Int32)), (.ref a2), (.ref a1)])) _
    refine XS.aloadN X0.here hx rfl (hb hby d1_3) rfl rfl ?_
    show Steps p.tables e below (s₁.setTop (mkF m 4 #[.val (.ref a1), .val (.ref a2)] [(.ref a2), (.int (0 : Int32)), (.ref a2), (.ref a1)])) _
    refine X0.arraylength hx (by rw [e0]; exact Ar7.1) (State.isArrayOf_alike hZ.alike Ar7.2.1) (g := (mkF m 4 #[.val (.ref a1), .val (.ref a2)] [(.ref a2), (.int (0 : Int32)), (.ref a2), (.ref a1)])) rfl rfl (hb hby d1_4) _ ?_
    rw [len_of Sz7 Nn7]
    show Steps p.tables e below (s₁.setTop (mkF m 5 #[.val (.ref a1), .val (.ref a2)] [(.int (2 : Int32)), (.int (0 : Int32)), (.ref a2), (.ref a1)])) _
    refine XS.aconstNull X0.here hx rfl (hb hby d1_5) ?_
    show Steps p.tables e below (s₁.setTop (mkF m 6 #[.val (.ref a1), .val (.ref a2)] [.null, (.int (2 : Int32)), (.int (0 : Int32)), (.ref a2), (.ref a1)])) _
    refine st16.trans ?_
    show Steps p.tables e below (T16.setTop (mkF m 9 #[.val (.ref a1), .val (.ref a2)] [])) _
    exact X16.returnOut hx Bd.returns (hb hby d1_9) hr
  · show Q1_2 Z _ _ _ _ _ _ h0 n0 _ T16.heap _
    exact ⟨i17, i18, b19, k20, u21, u22, rfl, N16, sz_b19, u26, ((Keep.refl h0 [a1]).trans Ku27 (allS (Or.inl (List.mem_of_getElem? (i := 0) rfl)) all0)), u28, u29, u30, u31, u32⟩
theorem ef_rm5_10 (m : MethodId) (x0 : Addr) (x2 : Addr) : entryFrame m #[(.ref x0), (.int (0 : Int32)), (.ref x2), (.int (0 : Int32)), (.int (1 : Int32))] 7 = mkF m 0 #[.val (.ref x0), .val (.int (0 : Int32)), .val (.ref x2), .val (.int (0 : Int32)), .val (.int (1 : Int32)), .unset, .unset] [] := by first | (simp [entryFrame, mkF, argsToLocals, Value.category]; done) | rfl
def Q5_10 (Z : State) (a1 : Addr) (a2 : Addr) (p3 : Int32) (k4 : ClassId) (k9 : ClassId) (h0 : Heap) (n0 : Nat) (v : Option Value) (h : Heap) (L : List Loc) : Prop := (∃ (i8 : Int32), i8 = (p3.toInt8.toInt32) ∧ v = some (.int (1 : Int32)) ∧ Fr n0 L ∧ Keep h0 h [a2] ∧ Exa Z h a2 "[B" ∧ Arv Z h a2 k9 .byte (1 : Int32) [(.int i8)] (.int (0 : Int32)))
set_option maxRecDepth 65536 in
set_option maxHeartbeats 40000000 in
theorem rm5_10 (l : Launch) (Z : State) (a0 : Array Value) (hw : ∀ d ∈ own_ws, d.before a0 Z = true) (ws : List Jvm.Cond) (a1 : Addr) (a2 : Addr) (p3 : Int32) (k4 : ClassId) (k9 : ClassId) (h0 : Heap) (n0 : Nat) (O0 : Old Z n0 h0) (V5 : Arv Z h0 a1 k4 .char (1 : Int32) [(.int p3)] (.int (0 : Int32))) (hk7 : ¬ ((255 : Int32) < p3)) (V10 : Arv Z h0 a2 k9 .byte (1 : Int32) [] (.int (0 : Int32))) (g_a2 : n0 ≤ a2) (E_14 : Exa Z h0 a2 "[B") :
    MetFree l M_0 (head1 (Jvm.Cond.code M_0 jdk_52_method_21_code 7 (some .int) :: ws) ({ frames := 0, cells := 0, slots := 0, locals := 0 } : Room)) (fun a U => a = #[(.ref a1), (.int (0 : Int32)), (.ref a2), (.int (0 : Int32)), (.int (1 : Int32))] ∧ Z.Warmed39 U.vm ∧ U.heap = h0) (fun _ _ _ _ _ => True) (fun _ U o U' => ∃ v L, o = .returned v ∧ Q5_10 Z a1 a2 p3 k4 k9 h0 n0 v U'.heap L ∧ FrameEnd U o U' L ({ frames := 0, cells := 0, slots := 0, locals := 0 } : Room).cells ({ frames := 0, cells := 0, slots := 0, locals := 0 } : Room).slots) := by
  refine MetFree.of_bodySF (plainFor_of_name pn_0) hisR ?_
  intro p e s m args below meth c s₁ Bd hml0 hP hK
  obtain ⟨rfl, hZ, hh⟩ := hP
  have hx := Bd.exec
  have hby := Bd.bytes
  have hml : c.maxLocals = 7 := hml0
  have hown : s.vm.findClass "java/lang/StringUTF16" = some m.cls := findClass_of_methodNamed Bd.named
  have hnm := (name_of_methodNamed Bd.named Bd.method).1
  have X0 : Stand p l e ({ frames := 0, cells := 0, slots := 0, locals := 0 } : Room) s m #[(.ref a1), (.int (0 : Int32)), (.ref a2), (.int (0 : Int32)), (.int (1 : Int32))] below meth c s₁ [] 0 0 := Stand.of_body Bd
  have e0 : s₁.heap = h0 := by rw [← hh, Bd.state]; rfl
  have N0 := Fr.nil n0
  have pre0 : ∀ t, Steps p.tables e below (s₁.setTop (mkF m 0 #[.val (.ref a1), .val (.int (0 : Int32)), .val (.ref a2), .val (.int (0 : Int32)), .val (.int (1 : Int32)), .unset, .unset] [])) t → Steps p.tables e below (s₁.setTop (entryFrame m #[(.ref a1), (.int (0 : Int32)), (.ref a2), (.int (0 : Int32)), (.int (1 : Int32))] 7)) t := fun t k => castTop (ef_rm5_10 m a1 a2) k
  obtain ⟨cl6, Ar6, -, Sz6, -, Hh6, -⟩ := id V5
  have hin6 : ¬ ((0 : Int32) < 0 ∨ cl6.slots.size ≤ ((0 : Int32)).toNatClampNeg) := inb_of Sz6 ⟨by decide +kernel, by decide +kernel⟩
  have hat6 : cl6.slots[((0 : Int32)).toNatClampNeg]? = some (.int p3) := Has.at Hh6 hin6 rfl
  obtain ⟨i8, hi8⟩ : ∃ z, z = (p3.toInt8.toInt32) := ⟨_, rfl⟩
  have Vp11 : Arv Z h0 a2 k9 .byte (1 : Int32) [(.int (0 : Int32))] (.int (0 : Int32)) := V10.pad (pad_rep [] (.int (0 : Int32)) 1)
  obtain ⟨cl12, Ar12, qk12, Sz12, Nn12, Hh12, Gg12⟩ := id Vp11
  have hin12 : ¬ ((0 : Int32) < 0 ∨ cl12.slots.size ≤ ((0 : Int32)).toNatClampNeg) := inb_of Sz12 ⟨by decide +kernel, by decide +kernel⟩
  obtain ⟨T13, h13, X13, e13, W13, st13⟩ := stB X0 hx hZ e0 Ar12 (j := (0 : Int32)) hin12 (g := (mkF m 31 #[.val (.ref a1), .val (.int (0 : Int32)), .val (.ref a2), .val (.int (0 : Int32)), .val (.int (1 : Int32)), .val (.int (0 : Int32)), .val (.int p3)] [(.int i8), (.int (0 : Int32)), (.ref a2)])) rfl rfl (hb hby d5_31)
  rw [show nar .byte i8 = i8 from (own_i2b2 hi8 : (i8.toInt8.toInt32) = i8)] at W13
  have O13 : Old Z n0 h13 := O0.wr W13 g_a2
  have V13 : Arv Z h13 a2 k9 .byte (1 : Int32) [(.int i8)] (.int (0 : Int32)) := Arv.set Ar12 qk12 Sz12 Nn12 Hh12 Gg12 ((own_i2b2 hi8 : (i8.toInt8.toInt32) = i8) ▸ fits_nar_byte _) W13 0 rfl (Nat.le_of_ble_eq_true rfl)
  have N13 := Fr.snoc X13 N0 g_a2
  obtain ⟨fs, hr, hrun, hended, hW, hsame⟩ := X13.leave (v := some (.int (1 : Int32))) (fun h => by rw [Bd.returns] at h; cases h)
  have f15 : Exa Z h13 a2 "[B" := (Exa.wr W13 E_14)
  refine ⟨_, _, pre0 _ ?_, hrun, hended, _, _, rfl, ?_, ⟨_, rfl⟩, hW, hsame.mono (by decide) (by decide)⟩
  · show Steps p.tables e below (s₁.setTop (mkF m 0 #[.val (.ref a1), .val (.int (0 : Int32)), .val (.ref a2), .val (.int (0 : Int32)), .val (.int (1 : Int32)), .unset, .unset] [])) _
    refine XS.iconst X0.here hx rfl (hb hby d5_0) ?_
    show Steps p.tables e below (s₁.setTop (mkF m 1 #[.val (.ref a1), .val (.int (0 : Int32)), .val (.ref a2), .val (.int (0 : Int32)), .val (.int (1 : Int32)), .unset, .unset] [(.int (0 : Int32))])) _
    refine XS.istore X0.here hx rfl (hb hby d5_1) rfl (l' := #[.val (.ref a1), .val (.int (0 : Int32)), .val (.ref a2), .val (.int (0 : Int32)), .val (.int (1 : Int32)), .val (.int (0 : Int32)), .unset]) rfl ?_
    show Steps p.tables e below (s₁.setTop (mkF m 3 #[.val (.ref a1), .val (.int (0 : Int32)), .val (.ref a2), .val (.int (0 : Int32)), .val (.int (1 : Int32)), .val (.int (0 : Int32)), .unset] [])) _
    refine XS.iload X0.here hx rfl (hb hby d5_3) rfl ?_
    show Steps p.tables e below (s₁.setTop (mkF m 5 #[.val (.ref a1), .val (.int (0 : Int32)), .val (.ref a2), .val (.int (0 : Int32)), .val (.int (1 : Int32)), .val (.int (0 : Int32)), .unset] [(.int (0 : Int32))])) _
    refine XS.iload X0.here hx rfl (hb hby d5_5) rfl ?_
    show Steps p.tables e below (s₁.setTop (mkF m 7 #[.val (.ref a1), .val (.int (0 : Int32)), .val (.ref a2), .val (.int (0 : Int32)), .val (.int (1 : Int32)), .val (.int (0 : Int32)), .unset] [(.int (1 : Int32)), (.int (0 : Int32))])) _
    refine XS.icmpNo X0.here hx rfl (hb hby d5_7) rfl (tlt (by decide +kernel : (0 : Int32) < (1 : Int32))).2.1 ?_
    show Steps p.tables e below (s₁.setTop (mkF m 10 #[.val (.ref a1), .val (.int (0 : Int32)), .val (.ref a2), .val (.int (0 : Int32)), .val (.int (1 : Int32)), .val (.int (0 : Int32)), .unset] [])) _
    refine XS.aloadN X0.here hx rfl (hb hby d5_10) rfl rfl ?_
    show Steps p.tables e below (s₁.setTop (mkF m 11 #[.val (.ref a1), .val (.int (0 : Int32)), .val (.ref a2), .val (.int (0 : Int32)), .val (.int (1 : Int32)), .val (.int (0 : Int32)), .unset] [(.ref a1)])) _
    refine XS.iloadN X0.here hx rfl (hb hby d5_11) rfl ?_
    show Steps p.tables e below (s₁.setTop (mkF m 12 #[.val (.ref a1), .val (.int (0 : Int32)), .val (.ref a2), .val (.int (0 : Int32)), .val (.int (1 : Int32)), .val (.int (0 : Int32)), .unset] [(.int (0 : Int32)), (.ref a1)])) _
    refine X0.caload hx (j := (0 : Int32)) (v := (.int p3)) (by rw [e0]; exact Ar6.1) (State.isArrayOf_alike hZ.alike Ar6.2.1) Ar6.2.2 hin6 hat6 (g := (mkF m 12 #[.val (.ref a1), .val (.int (0 : Int32)), .val (.ref a2), .val (.int (0 : Int32)), .val (.int (1 : Int32)), .val (.int (0 : Int32)), .unset] [(.int (0 : Int32)), (.ref a1)])) rfl rfl (hb hby d5_12) _ ?_
    show Steps p.tables e below (s₁.setTop (mkF m 13 #[.val (.ref a1), .val (.int (0 : Int32)), .val (.ref a2), .val (.int (0 : Int32)), .val (.int (1 : Int32)), .val (.int (0 : Int32)), .unset] [(.int p3)])) _
    refine XS.istore X0.here hx rfl (hb hby d5_13) rfl (l' := #[.val (.ref a1), .val (.int (0 : Int32)), .val (.ref a2), .val (.int (0 : Int32)), .val (.int (1 : Int32)), .val (.int (0 : Int32)), .val (.int p3)]) rfl ?_
    show Steps p.tables e below (s₁.setTop (mkF m 15 #[.val (.ref a1), .val (.int (0 : Int32)), .val (.ref a2), .val (.int (0 : Int32)), .val (.int (1 : Int32)), .val (.int (0 : Int32)), .val (.int p3)] [])) _
    refine XS.iload X0.here hx rfl (hb hby d5_15) rfl ?_
    show Steps p.tables e below (s₁.setTop (mkF m 17 #[.val (.ref a1), .val (.int (0 : Int32)), .val (.ref a2), .val (.int (0 : Int32)), .val (.int (1 : Int32)), .val (.int (0 : Int32)), .val (.int p3)] [(.int p3)])) _
    refine XS.sipush X0.here hx rfl (hb hby d5_17) ?_
    show Steps p.tables e below (s₁.setTop (mkF m 20 #[.val (.ref a1), .val (.int (0 : Int32)), .val (.ref a2), .val (.int (0 : Int32)), .val (.int (1 : Int32)), .val (.int (0 : Int32)), .val (.int p3)] [(.int (255 : Int32)), (.int p3)])) _
    refine XS.icmpYes X0.here hx rfl (pc0 := 20) (pc' := 26) rfl (hb hby d5_20) rfl (flt hk7).2.2.2 (by decide) (by decide) ?_
    show Steps p.tables e below (s₁.setTop (mkF m 26 #[.val (.ref a1), .val (.int (0 : Int32)), .val (.ref a2), .val (.int (0 : Int32)), .val (.int (1 : Int32)), .val (.int (0 : Int32)), .val (.int p3)] [])) _
    refine XS.aloadN X0.here hx rfl (hb hby d5_26) rfl rfl ?_
    show Steps p.tables e below (s₁.setTop (mkF m 27 #[.val (.ref a1), .val (.int (0 : Int32)), .val (.ref a2), .val (.int (0 : Int32)), .val (.int (1 : Int32)), .val (.int (0 : Int32)), .val (.int p3)] [(.ref a2)])) _
    refine XS.iloadN X0.here hx rfl (hb hby d5_27) rfl ?_
    show Steps p.tables e below (s₁.setTop (mkF m 28 #[.val (.ref a1), .val (.int (0 : Int32)), .val (.ref a2), .val (.int (0 : Int32)), .val (.int (1 : Int32)), .val (.int (0 : Int32)), .val (.int p3)] [(.int (0 : Int32)), (.ref a2)])) _
    refine XS.iload X0.here hx rfl (hb hby d5_28) rfl ?_
    show Steps p.tables e below (s₁.setTop (mkF m 30 #[.val (.ref a1), .val (.int (0 : Int32)), .val (.ref a2), .val (.int (0 : Int32)), .val (.int (1 : Int32)), .val (.int (0 : Int32)), .val (.int p3)] [(.int p3), (.int (0 : Int32)), (.ref a2)])) _
    refine XS.i2b X0.here hx rfl (hb hby d5_30) rfl ?_
    show Steps p.tables e below (s₁.setTop (mkF m 31 #[.val (.ref a1), .val (.int (0 : Int32)), .val (.ref a2), .val (.int (0 : Int32)), .val (.int (1 : Int32)), .val (.int (0 : Int32)), .val (.int p3)] [(.int (p3.toInt8.toInt32)), (.int (0 : Int32)), (.ref a2)])) _
    rw [← hi8]
    show Steps p.tables e below (s₁.setTop (mkF m 31 #[.val (.ref a1), .val (.int (0 : Int32)), .val (.ref a2), .val (.int (0 : Int32)), .val (.int (1 : Int32)), .val (.int (0 : Int32)), .val (.int p3)] [(.int i8), (.int (0 : Int32)), (.ref a2)])) _
    refine st13 _ ?_
    show Steps p.tables e below (T13.setTop (mkF m 32 #[.val (.ref a1), .val (.int (0 : Int32)), .val (.ref a2), .val (.int (0 : Int32)), .val (.int (1 : Int32)), .val (.int (0 : Int32)), .val (.int p3)] [])) _
    refine XS.iinc X13.here hx rfl (hb hby d5_32) rfl (l' := #[.val (.ref a1), .val (.int ((0 : Int32) + (1 : Int32))), .val (.ref a2), .val (.int (0 : Int32)), .val (.int (1 : Int32)), .val (.int (0 : Int32)), .val (.int p3)]) rfl ?_
    show Steps p.tables e below (T13.setTop (mkF m 35 #[.val (.ref a1), .val (.int ((0 : Int32) + (1 : Int32))), .val (.ref a2), .val (.int (0 : Int32)), .val (.int (1 : Int32)), .val (.int (0 : Int32)), .val (.int p3)] [])) _
    rw [(by decide +kernel : ((0 : Int32) + (1 : Int32)) = (1 : Int32))]
    show Steps p.tables e below (T13.setTop (mkF m 35 #[.val (.ref a1), .val (.int (1 : Int32)), .val (.ref a2), .val (.int (0 : Int32)), .val (.int (1 : Int32)), .val (.int (0 : Int32)), .val (.int p3)] [])) _
    refine XS.iinc X13.here hx rfl (hb hby d5_35) rfl (l' := #[.val (.ref a1), .val (.int (1 : Int32)), .val (.ref a2), .val (.int ((0 : Int32) + (1 : Int32))), .val (.int (1 : Int32)), .val (.int (0 : Int32)), .val (.int p3)]) rfl ?_
    show Steps p.tables e below (T13.setTop (mkF m 38 #[.val (.ref a1), .val (.int (1 : Int32)), .val (.ref a2), .val (.int ((0 : Int32) + (1 : Int32))), .val (.int (1 : Int32)), .val (.int (0 : Int32)), .val (.int p3)] [])) _
    rw [(by decide +kernel : ((0 : Int32) + (1 : Int32)) = (1 : Int32))]
    show Steps p.tables e below (T13.setTop (mkF m 38 #[.val (.ref a1), .val (.int (1 : Int32)), .val (.ref a2), .val (.int (1 : Int32)), .val (.int (1 : Int32)), .val (.int (0 : Int32)), .val (.int p3)] [])) _
    refine XS.iinc X13.here hx rfl (hb hby d5_38) rfl (l' := #[.val (.ref a1), .val (.int (1 : Int32)), .val (.ref a2), .val (.int (1 : Int32)), .val (.int (1 : Int32)), .val (.int ((0 : Int32) + (1 : Int32))), .val (.int p3)]) rfl ?_
    show Steps p.tables e below (T13.setTop (mkF m 41 #[.val (.ref a1), .val (.int (1 : Int32)), .val (.ref a2), .val (.int (1 : Int32)), .val (.int (1 : Int32)), .val (.int ((0 : Int32) + (1 : Int32))), .val (.int p3)] [])) _
    rw [(by decide +kernel : ((0 : Int32) + (1 : Int32)) = (1 : Int32))]
    show Steps p.tables e below (T13.setTop (mkF m 41 #[.val (.ref a1), .val (.int (1 : Int32)), .val (.ref a2), .val (.int (1 : Int32)), .val (.int (1 : Int32)), .val (.int (1 : Int32)), .val (.int p3)] [])) _
    refine XS.goto X13.here hx rfl (pc0 := 41) (pc' := 3) rfl (hb hby d5_41) (by decide) (by decide) ?_
    show Steps p.tables e below (T13.setTop (mkF m 3 #[.val (.ref a1), .val (.int (1 : Int32)), .val (.ref a2), .val (.int (1 : Int32)), .val (.int (1 : Int32)), .val (.int (1 : Int32)), .val (.int p3)] [])) _
    refine XS.iload X13.here hx rfl (hb hby d5_3) rfl ?_
    show Steps p.tables e below (T13.setTop (mkF m 5 #[.val (.ref a1), .val (.int (1 : Int32)), .val (.ref a2), .val (.int (1 : Int32)), .val (.int (1 : Int32)), .val (.int (1 : Int32)), .val (.int p3)] [(.int (1 : Int32))])) _
    refine XS.iload X13.here hx rfl (hb hby d5_5) rfl ?_
    show Steps p.tables e below (T13.setTop (mkF m 7 #[.val (.ref a1), .val (.int (1 : Int32)), .val (.ref a2), .val (.int (1 : Int32)), .val (.int (1 : Int32)), .val (.int (1 : Int32)), .val (.int p3)] [(.int (1 : Int32)), (.int (1 : Int32))])) _
    refine XS.icmpYes X13.here hx rfl (pc0 := 7) (pc' := 44) rfl (hb hby d5_7) rfl (flt (by decide +kernel : ¬ ((1 : Int32) < (1 : Int32)))).2.1 (by decide) (by decide) ?_
    show Steps p.tables e below (T13.setTop (mkF m 44 #[.val (.ref a1), .val (.int (1 : Int32)), .val (.ref a2), .val (.int (1 : Int32)), .val (.int (1 : Int32)), .val (.int (1 : Int32)), .val (.int p3)] [])) _
    refine XS.iload X13.here hx rfl (hb hby d5_44) rfl ?_
    show Steps p.tables e below (T13.setTop (mkF m 46 #[.val (.ref a1), .val (.int (1 : Int32)), .val (.ref a2), .val (.int (1 : Int32)), .val (.int (1 : Int32)), .val (.int (1 : Int32)), .val (.int p3)] [(.int (1 : Int32))])) _
    exact retI X13 hx Bd.returns (hb hby d5_46) hr
  · show Q5_10 Z _ _ _ _ _ h0 n0 _ T13.heap _
    rw [e13]
    exact ⟨i8, hi8, rfl, N13, ((Keep.refl h0 [a2]).wr W13 (Or.inl (List.mem_of_getElem? (i := 0) rfl))), f15, V13⟩
theorem ef_rm4_9 (m : MethodId) (x0 : Addr) : entryFrame m #[(.ref x0), (.int (0 : Int32)), (.int (1 : Int32))] 6 = mkF m 0 #[.val (.ref x0), .val (.int (0 : Int32)), .val (.int (1 : Int32)), .unset, .unset, .unset] [] := by first | (simp [entryFrame, mkF, argsToLocals, Value.category]; done) | rfl
def Q4_9 (Z : State) (a1 : Addr) (p3 : Int32) (k4 : ClassId) (h0 : Heap) (n0 : Nat) (v : Option Value) (h : Heap) (L : List Loc) : Prop := (∃ (i9 : Int32) (b2 : Addr) (k2 : ClassId), i9 = (p3.toInt8.toInt32) ∧ v = some (.ref b2) ∧ Fr n0 L ∧ h0.size ≤ b2 ∧ b2 < h.size ∧ Keep h0 h [] ∧ Exa Z h b2 "[B" ∧ Arv Z h b2 k2 .byte (1 : Int32) [(.int i9)] (.int (0 : Int32)))
set_option maxRecDepth 65536 in
set_option maxHeartbeats 40000000 in
theorem rm4_9 (l : Launch) (Z : State) (a0 : Array Value) (hw : ∀ d ∈ own_ws, d.before a0 Z = true) (ws : List Jvm.Cond) (a1 : Addr) (p3 : Int32) (k4 : ClassId) (h0 : Heap) (n0 : Nat) (O0 : Old Z n0 h0) (V5 : Arv Z h0 a1 k4 .char (1 : Int32) [(.int p3)] (.int (0 : Int32))) (hk6 : ¬ ((255 : Int32) < p3)) :
    MetFree l M_1 (head1 (Jvm.Cond.code M_1 jdk_52_method_16_code 6 (some (.array .byte)) :: ws) ({ frames := 1, cells := 1, slots := 1, locals := 18 } : Room)) (fun a U => a = #[(.ref a1), (.int (0 : Int32)), (.int (1 : Int32))] ∧ Z.Warmed39 U.vm ∧ U.heap = h0) (fun _ _ _ _ _ => True) (fun _ U o U' => ∃ v L, o = .returned v ∧ Q4_9 Z a1 p3 k4 h0 n0 v U'.heap L ∧ FrameEnd U o U' L ({ frames := 1, cells := 1, slots := 1, locals := 18 } : Room).cells ({ frames := 1, cells := 1, slots := 1, locals := 18 } : Room).slots) := by
  refine MetFree.of_bodySF (plainFor_of_name pn_0) hisR ?_
  intro p e s m args below meth c s₁ Bd hml0 hP hK
  obtain ⟨rfl, hZ, hh⟩ := hP
  have hx := Bd.exec
  have hby := Bd.bytes
  have hml : c.maxLocals = 6 := hml0
  have hown : s.vm.findClass "java/lang/StringUTF16" = some m.cls := findClass_of_methodNamed Bd.named
  have hnm := (name_of_methodNamed Bd.named Bd.method).1
  have X0 : Stand p l e ({ frames := 1, cells := 1, slots := 1, locals := 18 } : Room) s m #[(.ref a1), (.int (0 : Int32)), (.int (1 : Int32))] below meth c s₁ [] 0 0 := Stand.of_body Bd
  have e0 : s₁.heap = h0 := by rw [← hh, Bd.state]; rfl
  have N0 := Fr.nil n0
  have pre0 : ∀ t, Steps p.tables e below (s₁.setTop (mkF m 0 #[.val (.ref a1), .val (.int (0 : Int32)), .val (.int (1 : Int32)), .unset, .unset, .unset] [])) t → Steps p.tables e below (s₁.setTop (entryFrame m #[(.ref a1), (.int (0 : Int32)), (.int (1 : Int32))] 6)) t := fun t k => castTop (ef_rm4_9 m a1) k
  obtain ⟨T2, h2, k2, X2, e2, E2, A2, Ex2, st2⟩ := newPE X0 hx hZ (hw _ (gw 22 rfl)) e0 (g := (mkF m 1 #[.val (.ref a1), .val (.int (0 : Int32)), .val (.int (1 : Int32)), .unset, .unset, .unset] [(.int (1 : Int32))])) rfl (hb hby d4_1) rfl (by decide +kernel) (cap := 1) (by decide +kernel) (by decide) (by decide) (by decide) (ad := "[B") (by decide +kernel)
  obtain ⟨b2, g2⟩ : ∃ z, z = h0.size := ⟨_, rfl⟩
  rw [← g2] at A2 Ex2 st2
  have O2 : Old Z n0 h2 := O0.ext E2
  have bd_b2 : h0.size ≤ b2 := Nat.le_of_eq g2.symm
  have g_b2 : n0 ≤ b2 := Nat.le_trans (own_z O0) bd_b2
  have sz_b2 : h0.size ≤ b2 := Nat.le_trans (Nat.le_refl _) bd_b2
  have lt_b2 : b2 < h2.size := A2.lt
  have V2 : Arv Z h2 b2 k2 .byte (1 : Int32) [] (.int (0 : Int32)) := Arv.new A2 (by decide +kernel)
  have f7 : Arv Z h2 a1 k4 .char (1 : Int32) [(.int p3)] (.int (0 : Int32)) := (V5.ext E2)
  obtain ⟨_, _, ⟨T8, L8, k8, n8⟩, -, X8, ⟨Lc8, hQ8, l8, y8, z8⟩, st8⟩ := Jvm.LawKit.callS X2 hx (y := M_0) hown (mvT hZ (hw _ (gw 23 rfl))) (mvT hZ (hw _ (gw 24 rfl))) (mvT hZ (hw _ (gw 20 rfl))) (mvT hZ (hw _ (gw 25 rfl))) (by decide) (backOf (W := 0) (rm5_10 l Z a0 hw [] a1 b2 p3 k4 k2 h2 n0  O2 f7 hk6 V2 g_b2 Ex2) hZ (hw _ (gw 25 rfl)) (hw _ (gw 20 rfl)) (by decide) (by decide)) (g := (mkF m 9 #[.val (.ref a1), .val (.int (0 : Int32)), .val (.int (1 : Int32)), .val (.ref b2), .unset, .unset] [(.int (1 : Int32)), (.int (0 : Int32)), (.ref b2), (.int (0 : Int32)), (.ref a1)])) rfl (by rw [hml]; rfl) (argsL := [(.ref a1), (.int (0 : Int32)), (.ref b2), (.int (0 : Int32)), (.int (1 : Int32))]) (rest := []) (lenOf pd_0 rfl) rfl (by show 2 * 0 + _ ≤ _; exact Nat.le_of_eq rfl) (hb hby d4_9) (fun _ _ => ⟨rfl, e2, (by decide : 1 + 0 ≤ _), (by decide : 1 + 0 ≤ _)⟩)
  dsimp only [Pt.U, Pt.locs, Pt.cells, Pt.slots] at X8 l8 y8 z8 st8 hQ8
  subst l8 y8 z8
  obtain ⟨i9, u10, rfl, u12, Ku13, u14, u15⟩ := hQ8
  have Ou13 : Old Z n0 T8.heap := O2.keep Ku13 (allS g_b2 all0)
  have N8 := Fr.app N0 u12
  obtain ⟨fs, hr, hrun, hended, hW, hsame⟩ := X8.leave (v := some (.ref b2)) (fun h => by rw [Bd.returns] at h; cases h)
  refine ⟨_, _, pre0 _ ?_, hrun, hended, _, _, rfl, ?_, ⟨_, rfl⟩, hW, hsame.mono (by decide) (by decide)⟩
  · show Steps p.tables e below (s₁.setTop (mkF m 0 #[.val (.ref a1), .val (.int (0 : Int32)), .val (.int (1 : Int32)), .unset, .unset, .unset] [])) _
    refine XS.iloadN X0.here hx rfl (hb hby d4_0) rfl ?_
    show Steps p.tables e below (s₁.setTop (mkF m 1 #[.val (.ref a1), .val (.int (0 : Int32)), .val (.int (1 : Int32)), .unset, .unset, .unset] [(.int (1 : Int32))])) _
    refine st2 _ ?_
    show Steps p.tables e below (T2.setTop (mkF m 3 #[.val (.ref a1), .val (.int (0 : Int32)), .val (.int (1 : Int32)), .unset, .unset, .unset] [(.ref b2)])) _
    refine XS.astoreN X2.here hx rfl (hb hby d4_3) rfl rfl (l' := #[.val (.ref a1), .val (.int (0 : Int32)), .val (.int (1 : Int32)), .val (.ref b2), .unset, .unset]) rfl ?_
    show Steps p.tables e below (T2.setTop (mkF m 4 #[.val (.ref a1), .val (.int (0 : Int32)), .val (.int (1 : Int32)), .val (.ref b2), .unset, .unset] [])) _
    refine XS.aloadN X2.here hx rfl (hb hby d4_4) rfl rfl ?_
    show Steps p.tables e below (T2.setTop (mkF m 5 #[.val (.ref a1), .val (.int (0 : Int32)), .val (.int (1 : Int32)), .val (.ref b2), .unset, .unset] [(.ref a1)])) _
    refine XS.iloadN X2.here hx rfl (hb hby d4_5) rfl ?_
    show Steps p.tables e below (T2.setTop (mkF m 6 #[.val (.ref a1), .val (.int (0 : Int32)), .val (.int (1 : Int32)), .val (.ref b2), .unset, .unset] [(.int (0 : Int32)), (.ref a1)])) _
    refine XS.aloadN X2.here hx rfl (hb hby d4_6) rfl rfl ?_
    show Steps p.tables e below (T2.setTop (mkF m 7 #[.val (.ref a1), .val (.int (0 : Int32)), .val (.int (1 : Int32)), .val (.ref b2), .unset, .unset] [(.ref b2), (.int (0 : Int32)), (.ref a1)])) _
    refine XS.iconst X2.here hx rfl (hb hby d4_7) ?_
    show Steps p.tables e below (T2.setTop (mkF m 8 #[.val (.ref a1), .val (.int (0 : Int32)), .val (.int (1 : Int32)), .val (.ref b2), .unset, .unset] [(.int (0 : Int32)), (.ref b2), (.int (0 : Int32)), (.ref a1)])) _
    refine XS.iloadN X2.here hx rfl (hb hby d4_8) rfl ?_
    show Steps p.tables e below (T2.setTop (mkF m 9 #[.val (.ref a1), .val (.int (0 : Int32)), .val (.int (1 : Int32)), .val (.ref b2), .unset, .unset] [(.int (1 : Int32)), (.int (0 : Int32)), (.ref b2), (.int (0 : Int32)), (.ref a1)])) _
    refine st8 _ ?_
    show Steps p.tables e below (T8.setTop (mkF m 12 #[.val (.ref a1), .val (.int (0 : Int32)), .val (.int (1 : Int32)), .val (.ref b2), .unset, .unset] [(.int (1 : Int32))])) _
    refine XS.istore X8.here hx rfl (hb hby d4_12) rfl (l' := #[.val (.ref a1), .val (.int (0 : Int32)), .val (.int (1 : Int32)), .val (.ref b2), .val (.int (1 : Int32)), .unset]) rfl ?_
    show Steps p.tables e below (T8.setTop (mkF m 14 #[.val (.ref a1), .val (.int (0 : Int32)), .val (.int (1 : Int32)), .val (.ref b2), .val (.int (1 : Int32)), .unset] [])) _
    refine XS.iload X8.here hx rfl (hb hby d4_14) rfl ?_
    show Steps p.tables e below (T8.setTop (mkF m 16 #[.val (.ref a1), .val (.int (0 : Int32)), .val (.int (1 : Int32)), .val (.ref b2), .val (.int (1 : Int32)), .unset] [(.int (1 : Int32))])) _
    refine XS.iloadN X8.here hx rfl (hb hby d4_16) rfl ?_
    show Steps p.tables e below (T8.setTop (mkF m 17 #[.val (.ref a1), .val (.int (0 : Int32)), .val (.int (1 : Int32)), .val (.ref b2), .val (.int (1 : Int32)), .unset] [(.int (1 : Int32)), (.int (1 : Int32))])) _
    refine XS.icmpYes X8.here hx rfl (pc0 := 17) (pc' := 57) rfl (hb hby d4_17) rfl (teq (by decide +kernel : (1 : Int32) = (1 : Int32))).1 (by decide) (by decide) ?_
    show Steps p.tables e below (T8.setTop (mkF m 57 #[.val (.ref a1), .val (.int (0 : Int32)), .val (.int (1 : Int32)), .val (.ref b2), .val (.int (1 : Int32)), .unset] [])) _
    refine XS.aloadN X8.here hx rfl (hb hby d4_57) rfl rfl ?_
    show Steps p.tables e below (T8.setTop (mkF m 58 #[.val (.ref a1), .val (.int (0 : Int32)), .val (.int (1 : Int32)), .val (.ref b2), .val (.int (1 : Int32)), .unset] [(.ref b2)])) _
    jvm_step X8.here [X8.here.top, hx, (hb hby d4_58), X8.method', Bd.returns, Value.isRef, FieldType.isReference]
    first | (intro acts; rw [hr _ acts rfl rfl rfl]) | rw [hr _ _ rfl rfl rfl]
    exact Steps.refl _
  · show Q4_9 Z _ _ _ h0 n0 _ T8.heap _
    exact ⟨i9, b2, k2, u10, rfl, N8, sz_b2, (Nat.lt_of_lt_of_le lt_b2 Ku13.1), (((Keep.refl h0 []).ext E2).trans Ku13 (allS (Or.inr sz_b2) all0)), u14, u15⟩
theorem ef_rm6_11 (m : MethodId) (x0 : Addr) : entryFrame m #[(.ref x0), (.int (1 : Int32))] 2 = mkF m 0 #[.val (.ref x0), .val (.int (1 : Int32))] [] := by first | (simp [entryFrame, mkF, argsToLocals, Value.category]; done) | rfl
def Q6_11 (Z : State) (a1 : Addr) (p2 : Int32) (k3 : ClassId) (h0 : Heap) (n0 : Nat) (v : Option Value) (h : Heap) (L : List Loc) : Prop := (v = some (.int (0 : Int32)) ∧ Fr n0 L ∧ h = h0)
set_option maxRecDepth 65536 in
set_option maxHeartbeats 40000000 in
theorem rm6_11 (l : Launch) (Z : State) (a0 : Array Value) (hw : ∀ d ∈ own_ws, d.before a0 Z = true) (ws : List Jvm.Cond) (a1 : Addr) (p2 : Int32) (k3 : ClassId) (h0 : Heap) (n0 : Nat) (O0 : Old Z n0 h0) (V4 : Arv Z h0 a1 k3 .byte (1 : Int32) [(.int p2)] (.int (0 : Int32))) :
    MetFree l M_2 (head1 (Jvm.Cond.code M_2 jdk_52_method_15_code 2 (some .byte) :: ws) ({ frames := 0, cells := 0, slots := 0, locals := 0 } : Room)) (fun a U => a = #[(.ref a1), (.int (1 : Int32))] ∧ Z.Warmed39 U.vm ∧ U.heap = h0) (fun _ _ _ _ _ => True) (fun _ U o U' => ∃ v L, o = .returned v ∧ Q6_11 Z a1 p2 k3 h0 n0 v U'.heap L ∧ FrameEnd U o U' L ({ frames := 0, cells := 0, slots := 0, locals := 0 } : Room).cells ({ frames := 0, cells := 0, slots := 0, locals := 0 } : Room).slots) := by
  refine MetFree.of_bodySF (plainFor_of_name pn_0) hisR ?_
  intro p e s m args below meth c s₁ Bd hml0 hP hK
  obtain ⟨rfl, hZ, hh⟩ := hP
  have hx := Bd.exec
  have hby := Bd.bytes
  have hml : c.maxLocals = 2 := hml0
  have hown : s.vm.findClass "java/lang/StringUTF16" = some m.cls := findClass_of_methodNamed Bd.named
  have hnm := (name_of_methodNamed Bd.named Bd.method).1
  have X0 : Stand p l e ({ frames := 0, cells := 0, slots := 0, locals := 0 } : Room) s m #[(.ref a1), (.int (1 : Int32))] below meth c s₁ [] 0 0 := Stand.of_body Bd
  have e0 : s₁.heap = h0 := by rw [← hh, Bd.state]; rfl
  have N0 := Fr.nil n0
  have pre0 : ∀ t, Steps p.tables e below (s₁.setTop (mkF m 0 #[.val (.ref a1), .val (.int (1 : Int32))] [])) t → Steps p.tables e below (s₁.setTop (entryFrame m #[(.ref a1), (.int (1 : Int32))] 2)) t := fun t k => castTop (ef_rm6_11 m a1) k
  obtain ⟨cl5, Ar5, -, Sz5, Nn5, -, -⟩ := id V4
  obtain ⟨fs, hr, hrun, hended, hW, hsame⟩ := X0.leave (v := some (.int (0 : Int32))) (fun h => by rw [Bd.returns] at h; cases h)
  refine ⟨_, _, pre0 _ ?_, hrun, hended, _, _, rfl, ?_, ⟨_, rfl⟩, hW, hsame.mono (by decide) (by decide)⟩
  · show Steps p.tables e below (s₁.setTop (mkF m 0 #[.val (.ref a1), .val (.int (1 : Int32))] [])) _
    refine XS.iloadN X0.here hx rfl (hb hby d6_0) rfl ?_
    show Steps p.tables e below (s₁.setTop (mkF m 1 #[.val (.ref a1), .val (.int (1 : Int32))] [(.int (1 : Int32))])) _
    refine XS.aloadN X0.here hx rfl (hb hby d6_1) rfl rfl ?_
    show Steps p.tables e below (s₁.setTop (mkF m 2 #[.val (.ref a1), .val (.int (1 : Int32))] [(.ref a1), (.int (1 : Int32))])) _
    refine X0.arraylength hx (by rw [e0]; exact Ar5.1) (State.isArrayOf_alike hZ.alike Ar5.2.1) (g := (mkF m 2 #[.val (.ref a1), .val (.int (1 : Int32))] [(.ref a1), (.int (1 : Int32))])) rfl rfl (hb hby d6_2) _ ?_
    rw [len_of Sz5 Nn5]
    show Steps p.tables e below (s₁.setTop (mkF m 3 #[.val (.ref a1), .val (.int (1 : Int32))] [(.int (1 : Int32)), (.int (1 : Int32))])) _
    refine XS.isub X0.here hx rfl (hb hby d6_3) rfl ?_
    show Steps p.tables e below (s₁.setTop (mkF m 4 #[.val (.ref a1), .val (.int (1 : Int32))] [(.int ((1 : Int32) - (1 : Int32)))])) _
    rw [(by decide +kernel : ((1 : Int32) - (1 : Int32)) = (0 : Int32))]
    show Steps p.tables e below (s₁.setTop (mkF m 4 #[.val (.ref a1), .val (.int (1 : Int32))] [(.int (0 : Int32))])) _
    refine XS.bipush X0.here hx rfl (hb hby d6_4) ?_
    show Steps p.tables e below (s₁.setTop (mkF m 6 #[.val (.ref a1), .val (.int (1 : Int32))] [(.int (31 : Int32)), (.int (0 : Int32))])) _
    refine XS.iushr X0.here hx rfl (hb hby d6_6) rfl ?_
    show Steps p.tables e below (s₁.setTop (mkF m 7 #[.val (.ref a1), .val (.int (1 : Int32))] [(.int (((0 : Int32).toUInt32 >>> ((31 : Int32) &&& 31).toUInt32).toInt32))])) _
    rw [(by decide +kernel : (((0 : Int32).toUInt32 >>> ((31 : Int32) &&& 31).toUInt32).toInt32) = (0 : Int32))]
    show Steps p.tables e below (s₁.setTop (mkF m 7 #[.val (.ref a1), .val (.int (1 : Int32))] [(.int (0 : Int32))])) _
    refine XS.i2b X0.here hx rfl (hb hby d6_7) rfl ?_
    show Steps p.tables e below (s₁.setTop (mkF m 8 #[.val (.ref a1), .val (.int (1 : Int32))] [(.int ((0 : Int32).toInt8.toInt32))])) _
    rw [(by decide +kernel : ((0 : Int32).toInt8.toInt32) = (0 : Int32))]
    show Steps p.tables e below (s₁.setTop (mkF m 8 #[.val (.ref a1), .val (.int (1 : Int32))] [(.int (0 : Int32))])) _
    exact retN X0 hx (t := .byte) Bd.returns (by simp) (hb hby d6_8) hr
  · show Q6_11 Z _ _ _ h0 n0 _ s₁.heap _
    rw [e0]
    exact ⟨rfl, N0, rfl⟩
theorem ef_rm2_8 (m : MethodId) (x0 : Addr) (x1 : Addr) : entryFrame m #[(.ref x0), (.ref x1), (.int (0 : Int32)), (.int (1 : Int32)), .null] 6 = mkF m 0 #[.val (.ref x0), .val (.ref x1), .val (.int (0 : Int32)), .val (.int (1 : Int32)), .val .null, .unset] [] := by first | (simp [entryFrame, mkF, argsToLocals, Value.category]; done) | rfl
def Q2_8 (Z : State) (a1 : Addr) (a2 : Addr) (p4 : Int32) (p8 : Int32) (k9 : ClassId) (h0 : Heap) (n0 : Nat) (v : Option Value) (h : Heap) (L : List Loc) : Prop := (∃ (i13 : Int32) (b14 : Addr) (k15 : ClassId), i13 = (p8.toInt8.toInt32) ∧ v = none ∧ Fr n0 L ∧ h0.size ≤ b14 ∧ b14 < h.size ∧ Keep h0 h [a1] ∧ Exa Z h a1 "java/lang/String" ∧ Fld Z h a1 "java/lang/String" "coder" "B" (.int (0 : Int32)) ∧ Fld Z h a1 "java/lang/String" "value" "[B" (.ref b14) ∧ Exa Z h b14 "[B" ∧ Arv Z h b14 k15 .byte (1 : Int32) [(.int i13)] (.int (0 : Int32)))
set_option maxRecDepth 65536 in
set_option maxHeartbeats 40000000 in
theorem rm2_8 (l : Launch) (Z : State) (a0 : Array Value) (hw : ∀ d ∈ own_ws, d.before a0 Z = true) (ws : List Jvm.Cond) (a1 : Addr) (a2 : Addr) (p4 : Int32) (p8 : Int32) (k9 : ClassId) (h0 : Heap) (n0 : Nat) (O0 : Old Z n0 h0) (S_5 : Sta Z Z.heap "java/lang/String" "COMPACT_STRINGS" "Z" (.int p4)) (hk7 : ¬ (p4 = (0 : Int32))) (V10 : Arv Z h0 a2 k9 .char (1 : Int32) [(.int p8)] (.int (0 : Int32))) (hk11 : ¬ ((255 : Int32) < p8)) (E_28 : Exa Z h0 a1 "java/lang/String") (F29 : Fld Z h0 a1 "java/lang/String" "coder" "B" (.int (0 : Int32))) (F30 : Fld Z h0 a1 "java/lang/String" "value" "[B" .null) (g_a1 : n0 ≤ a1) (lt_a1 : a1 < h0.size) :
    MetFree l M_3 (head1 (Jvm.Cond.code M_3 jdk_42_method_149_code 6 none :: ws) ({ frames := 2, cells := 1, slots := 1, locals := 35 } : Room)) (fun a U => a = #[(.ref a1), (.ref a2), (.int (0 : Int32)), (.int (1 : Int32)), .null] ∧ Z.Warmed39 U.vm ∧ U.heap = h0) (fun _ _ _ _ _ => True) (fun _ U o U' => ∃ v L, o = .returned v ∧ Q2_8 Z a1 a2 p4 p8 k9 h0 n0 v U'.heap L ∧ FrameEnd U o U' L ({ frames := 2, cells := 1, slots := 1, locals := 35 } : Room).cells ({ frames := 2, cells := 1, slots := 1, locals := 35 } : Room).slots) := by
  refine MetFree.of_bodySF (plainFor_of_name pn_1) hisR ?_
  intro p e s m args below meth c s₁ Bd hml0 hP hK
  obtain ⟨rfl, hZ, hh⟩ := hP
  have hx := Bd.exec
  have hby := Bd.bytes
  have hml : c.maxLocals = 6 := hml0
  have hown : s.vm.findClass "java/lang/String" = some m.cls := findClass_of_methodNamed Bd.named
  have hnm := (name_of_methodNamed Bd.named Bd.method).1
  have X0 : Stand p l e ({ frames := 2, cells := 1, slots := 1, locals := 35 } : Room) s m #[(.ref a1), (.ref a2), (.int (0 : Int32)), (.int (1 : Int32)), .null] below meth c s₁ [] 0 0 := Stand.of_body Bd
  have e0 : s₁.heap = h0 := by rw [← hh, Bd.state]; rfl
  have N0 := Fr.nil n0
  have pre0 : ∀ t, Steps p.tables e below (s₁.setTop (mkF m 0 #[.val (.ref a1), .val (.ref a2), .val (.int (0 : Int32)), .val (.int (1 : Int32)), .val .null, .unset] [])) t → Steps p.tables e below (s₁.setTop (entryFrame m #[(.ref a1), (.ref a2), (.int (0 : Int32)), (.int (1 : Int32)), .null] 6)) t := fun t k => castTop (ef_rm2_8 m a1 a2) k
  obtain ⟨T3, X3, e3, st3⟩ := initO X0 hx hZ hown (hw _ (gw 14 rfl)) (hw _ (gw 15 rfl)) (hw _ (gw 16 rfl)) e0 (g := (mkF m 1 #[.val (.ref a1), .val (.ref a2), .val (.int (0 : Int32)), .val (.int (1 : Int32)), .val .null, .unset] [(.ref a1)])) rfl (by rw [hml]; rfl) rfl (hb hby d2_1) (by decide) (W := 0) (by show 2 * 0 + _ ≤ _; exact Nat.le_of_eq rfl) (by decide)
  obtain ⟨T6, X6, e6, st6⟩ := getS2 X3 hx hZ hown (host := "") (Or.inl (hw _ (gw 17 rfl))) Via.refl e3 (Sta.ext O0.2 S_5) (g := (mkF m 27 #[.val (.ref a1), .val (.ref a2), .val (.int (0 : Int32)), .val (.int (1 : Int32)), .val .null, .unset] [])) rfl (hb hby d2_27)
  obtain ⟨_, _, ⟨T12, L12, k12, n12⟩, -, X12, ⟨Lc12, hQ12, l12, y12, z12⟩, st12⟩ := Jvm.LawKit.callS X6 hx (y := M_1) hown (mvT hZ (hw _ (gw 18 rfl))) (mvT hZ (hw _ (gw 19 rfl))) (mvT hZ (hw _ (gw 20 rfl))) (mvT hZ (hw _ (gw 21 rfl))) (by decide) (backOf (W := 0) (rm4_9 l Z a0 hw [] a2 p8 k9 h0 n0  O0 V10 hk11) hZ (hw _ (gw 21 rfl)) (hw _ (gw 20 rfl)) (by decide) (by decide)) (g := (mkF m 36 #[.val (.ref a1), .val (.ref a2), .val (.int (0 : Int32)), .val (.int (1 : Int32)), .val .null, .unset] [(.int (1 : Int32)), (.int (0 : Int32)), (.ref a2)])) rfl (by rw [hml]; rfl) (argsL := [(.ref a2), (.int (0 : Int32)), (.int (1 : Int32))]) (rest := []) (lenOf pd_1 rfl) rfl (by show 2 * 0 + _ ≤ _; exact Nat.le_of_eq rfl) (hb hby d2_36) (fun _ _ => ⟨rfl, e6, (by decide : 0 + 1 ≤ _), (by decide : 0 + 1 ≤ _)⟩)
  dsimp only [Pt.U, Pt.locs, Pt.cells, Pt.slots] at X12 l12 y12 z12 st12 hQ12
  subst l12 y12 z12
  obtain ⟨i13, b14, k15, u16, rfl, u18, u19, u20, Ku21, u22, u23⟩ := hQ12
  have Ou21 : Old Z n0 T12.heap := O0.keep Ku21 all0
  have g_b14 : n0 ≤ b14 := Nat.le_trans (own_z O0) u19
  have sz_b14 : h0.size ≤ b14 := Nat.le_trans (Nat.le_refl _) u19
  have N12 := Fr.app N0 u18
  obtain ⟨_, _, ⟨T24, L24, k24, n24⟩, -, X24, ⟨Lc24, hQ24, l24, y24, z24⟩, st24⟩ := Jvm.LawKit.callS X12 hx (y := M_2) hown (mvT hZ (hw _ (gw 26 rfl))) (mvT hZ (hw _ (gw 27 rfl))) (mvT hZ (hw _ (gw 20 rfl))) (mvT hZ (hw _ (gw 28 rfl))) (by decide) (backOf (W := 1) (rm6_11 l Z a0 hw [] b14 i13 k15 T12.heap n0  Ou21 u23) hZ (hw _ (gw 28 rfl)) (hw _ (gw 20 rfl)) (by decide) (by decide)) (g := (mkF m 45 #[.val (.ref a1), .val (.ref a2), .val (.int (0 : Int32)), .val (.int (1 : Int32)), .val .null, .val (.ref b14)] [(.int (1 : Int32)), (.ref b14), (.ref a1)])) rfl (by rw [hml]; rfl) (argsL := [(.ref b14), (.int (1 : Int32))]) (rest := [(.ref a1)]) (lenOf pd_2 rfl) rfl (by show 2 * 0 + _ ≤ _; exact Nat.le_of_eq rfl) (hb hby d2_45) (fun _ _ => ⟨rfl, rfl, (by decide : 1 + 0 ≤ _), (by decide : 1 + 0 ≤ _)⟩)
  dsimp only [Pt.U, Pt.locs, Pt.cells, Pt.slots] at X24 l24 y24 z24 st24 hQ24
  subst l24 y24 z24
  obtain ⟨rfl, u26, u27⟩ := hQ24
  have N24 := Fr.app N12 u26
  have f31 : Fld Z T12.heap a1 "java/lang/String" "coder" "B" (.int (0 : Int32)) := (F29.keep Ku21 nin0)
  have f32 : Exa Z T12.heap a1 "java/lang/String" := (E_28.keep Ku21)
  obtain ⟨T33, h33, X33, e33, W33, st33⟩ := putFN X24 hx hZ hown (hw _ (gw 29 rfl)) Via.refl u27 f31 f32 (Or.inr ⟨(hw _ (gw 30 rfl)), rfl, hnm⟩) (hw _ (gw 5 rfl)) (ty := .byte) (v' := (.int (0 : Int32))) (by decide) (by exact congrArg Value.int (by decide +kernel : (nar .byte (0 : Int32)) = (0 : Int32))) ((by decide +kernel : (nar .byte (0 : Int32)) = (0 : Int32)) ▸ fits_nar_byte _) (g := (mkF m 48 #[.val (.ref a1), .val (.ref a2), .val (.int (0 : Int32)), .val (.int (1 : Int32)), .val .null, .val (.ref b14)] [(.int (0 : Int32)), (.ref a1)])) rfl rfl (hb hby d2_48)
  have O33 : Old Z n0 h33 := Ou21.wr W33 g_a1
  have Fw33 : Fld Z h33 a1 "java/lang/String" "coder" "B" (.int (0 : Int32)) := Fld.same W33 f31
  have N33 := Fr.snoc X33 N24 g_a1
  have f34 : Fld Z h33 a1 "java/lang/String" "value" "[B" .null := (Fld.other W33 (F30.keep Ku21 nin0) (Or.inr (slot_ne (Or.inr (hw _ (gw 32 rfl))) (Or.inr (hw _ (gw 30 rfl))) (by decide) (t := (.array .byte)) (t' := .byte) (by decide) (by decide))))
  have f35 : Exa Z h33 a1 "java/lang/String" := (Exa.wr W33 f32)
  obtain ⟨T36, h36, X36, e36, W36, st36⟩ := putF X33 hx hZ hown (host := "") (Or.inl (hw _ (gw 31 rfl))) Via.refl e33 f34 f35 (Or.inr ⟨(hw _ (gw 32 rfl)), rfl, hnm⟩) (hw _ (gw 5 rfl)) (ty := (.array .byte)) (by decide) rfl rfl (g := (mkF m 54 #[.val (.ref a1), .val (.ref a2), .val (.int (0 : Int32)), .val (.int (1 : Int32)), .val .null, .val (.ref b14)] [(.ref b14), (.ref a1)])) rfl rfl (hb hby d2_54)
  have O36 : Old Z n0 h36 := O33.wr W36 g_a1
  have Fw36 : Fld Z h36 a1 "java/lang/String" "value" "[B" (.ref b14) := Fld.same W36 f34
  have N36 := Fr.snoc X36 N33 g_a1
  obtain ⟨fs, hr, hrun, hended, hW, hsame⟩ := X36.leave (v := none) (fun _ => rfl)
  have f37 : Exa Z h36 a1 "java/lang/String" := (Exa.wr W36 f35)
  have f38 : Fld Z h36 a1 "java/lang/String" "coder" "B" (.int (0 : Int32)) := (Fld.other W36 Fw33 (Or.inr (slot_ne (Or.inr (hw _ (gw 30 rfl))) (Or.inr (hw _ (gw 32 rfl))) (by decide) (t := .byte) (t' := (.array .byte)) (by decide) (by decide))))
  have f39 : Exa Z h36 b14 "[B" := (Exa.wr W36 (Exa.wr W33 u22))
  have f40 : Arv Z h36 b14 k15 .byte (1 : Int32) [(.int i13)] (.int (0 : Int32)) := ((u23.other W33 (Ne.symm (Nat.ne_of_lt (Nat.lt_of_lt_of_le lt_a1 u19)))).other W36 (Ne.symm (Nat.ne_of_lt (Nat.lt_of_lt_of_le lt_a1 u19))))
  refine ⟨_, _, pre0 _ ?_, hrun, hended, _, _, rfl, ?_, ⟨_, rfl⟩, hW, hsame.mono (by decide) (by decide)⟩
  · show Steps p.tables e below (s₁.setTop (mkF m 0 #[.val (.ref a1), .val (.ref a2), .val (.int (0 : Int32)), .val (.int (1 : Int32)), .val .null, .unset] [])) _
    refine XS.aloadN X0.here hx rfl (hb hby d2_0) rfl rfl ?_
    show Steps p.tables e below (s₁.setTop (mkF m 1 #[.val (.ref a1), .val (.ref a2), .val (.int (0 : Int32)), .val (.int (1 : Int32)), .val .null, .unset] [(.ref a1)])) _
    refine st3 _ ?_
    show Steps p.tables e below (T3.setTop (mkF m 4 #[.val (.ref a1), .val (.ref a2), .val (.int (0 : Int32)), .val (.int (1 : Int32)), .val .null, .unset] [])) _
    refine XS.iloadN X3.here hx rfl (hb hby d2_4) rfl ?_
    show Steps p.tables e below (T3.setTop (mkF m 5 #[.val (.ref a1), .val (.ref a2), .val (.int (0 : Int32)), .val (.int (1 : Int32)), .val .null, .unset] [(.int (1 : Int32))])) _
    refine XS.ifYes X3.here hx rfl (pc0 := 5) (pc' := 27) rfl (hb hby d2_5) rfl ((if0 _ _).trans (feq (by decide +kernel : ¬ ((1 : Int32) = (0 : Int32)))).2) (by decide) (by decide) ?_
    show Steps p.tables e below (T3.setTop (mkF m 27 #[.val (.ref a1), .val (.ref a2), .val (.int (0 : Int32)), .val (.int (1 : Int32)), .val .null, .unset] [])) _
    refine st6 _ ?_
    show Steps p.tables e below (T6.setTop (mkF m 30 #[.val (.ref a1), .val (.ref a2), .val (.int (0 : Int32)), .val (.int (1 : Int32)), .val .null, .unset] [(.int p4)])) _
    refine XS.ifNo X6.here hx rfl (hb hby d2_30) rfl ((if0 _ _).trans (feq hk7).1) ?_
    show Steps p.tables e below (T6.setTop (mkF m 33 #[.val (.ref a1), .val (.ref a2), .val (.int (0 : Int32)), .val (.int (1 : Int32)), .val .null, .unset] [])) _
    refine XS.aloadN X6.here hx rfl (hb hby d2_33) rfl rfl ?_
    show Steps p.tables e below (T6.setTop (mkF m 34 #[.val (.ref a1), .val (.ref a2), .val (.int (0 : Int32)), .val (.int (1 : Int32)), .val .null, .unset] [(.ref a2)])) _
    refine XS.iloadN X6.here hx rfl (hb hby d2_34) rfl ?_
    show Steps p.tables e below (T6.setTop (mkF m 35 #[.val (.ref a1), .val (.ref a2), .val (.int (0 : Int32)), .val (.int (1 : Int32)), .val .null, .unset] [(.int (0 : Int32)), (.ref a2)])) _
    refine XS.iloadN X6.here hx rfl (hb hby d2_35) rfl ?_
    show Steps p.tables e below (T6.setTop (mkF m 36 #[.val (.ref a1), .val (.ref a2), .val (.int (0 : Int32)), .val (.int (1 : Int32)), .val .null, .unset] [(.int (1 : Int32)), (.int (0 : Int32)), (.ref a2)])) _
    refine st12 _ ?_
    show Steps p.tables e below (T12.setTop (mkF m 39 #[.val (.ref a1), .val (.ref a2), .val (.int (0 : Int32)), .val (.int (1 : Int32)), .val .null, .unset] [(.ref b14)])) _
    refine XS.astore X12.here hx rfl (hb hby d2_39) rfl rfl (l' := #[.val (.ref a1), .val (.ref a2), .val (.int (0 : Int32)), .val (.int (1 : Int32)), .val .null, .val (.ref b14)]) rfl ?_
    show Steps p.tables e below (T12.setTop (mkF m 41 #[.val (.ref a1), .val (.ref a2), .val (.int (0 : Int32)), .val (.int (1 : Int32)), .val .null, .val (.ref b14)] [])) _
    refine XS.aloadN X12.here hx rfl (hb hby d2_41) rfl rfl ?_
    show Steps p.tables e below (T12.setTop (mkF m 42 #[.val (.ref a1), .val (.ref a2), .val (.int (0 : Int32)), .val (.int (1 : Int32)), .val .null, .val (.ref b14)] [(.ref a1)])) _
    refine XS.aload X12.here hx rfl (hb hby d2_42) rfl rfl ?_
    show Steps p.tables e below (T12.setTop (mkF m 44 #[.val (.ref a1), .val (.ref a2), .val (.int (0 : Int32)), .val (.int (1 : Int32)), .val .null, .val (.ref b14)] [(.ref b14), (.ref a1)])) _
    refine XS.iloadN X12.here hx rfl (hb hby d2_44) rfl ?_
    show Steps p.tables e below (T12.setTop (mkF m 45 #[.val (.ref a1), .val (.ref a2), .val (.int (0 : Int32)), .val (.int (1 : Int32)), .val .null, .val (.ref b14)] [(.int (1 : Int32)), (.ref b14), (.ref a1)])) _
    refine st24 _ ?_
    show Steps p.tables e below (T24.setTop (mkF m 48 #[.val (.ref a1), .val (.ref a2), .val (.int (0 : Int32)), .val (.int (1 : Int32)), .val .null, .val (.ref b14)] [(.int (0 : Int32)), (.ref a1)])) _
    refine st33 _ ?_
    show Steps p.tables e below (T33.setTop (mkF m 51 #[.val (.ref a1), .val (.ref a2), .val (.int (0 : Int32)), .val (.int (1 : Int32)), .val .null, .val (.ref b14)] [])) _
    refine XS.aloadN X33.here hx rfl (hb hby d2_51) rfl rfl ?_
    show Steps p.tables e below (T33.setTop (mkF m 52 #[.val (.ref a1), .val (.ref a2), .val (.int (0 : Int32)), .val (.int (1 : Int32)), .val .null, .val (.ref b14)] [(.ref a1)])) _
    refine XS.aload X33.here hx rfl (hb hby d2_52) rfl rfl ?_
    show Steps p.tables e below (T33.setTop (mkF m 54 #[.val (.ref a1), .val (.ref a2), .val (.int (0 : Int32)), .val (.int (1 : Int32)), .val .null, .val (.ref b14)] [(.ref b14), (.ref a1)])) _
    refine st36 _ ?_
    show Steps p.tables e below (T36.setTop (mkF m 57 #[.val (.ref a1), .val (.ref a2), .val (.int (0 : Int32)), .val (.int (1 : Int32)), .val .null, .val (.ref b14)] [])) _
    exact X36.returnOut hx Bd.returns (hb hby d2_57) hr
  · show Q2_8 Z _ _ _ _ _ h0 n0 _ T36.heap _
    rw [e36]
    exact ⟨i13, b14, k15, u16, rfl, N36, sz_b14, (Nat.lt_of_lt_of_le (Nat.lt_of_lt_of_le u20 (Keep.of_wr W33).1) (Keep.of_wr W36).1), ((((Keep.refl h0 [a1]).trans Ku21 all0).wr W33 (Or.inl (List.mem_of_getElem? (i := 0) rfl))).wr W36 (Or.inl (List.mem_of_getElem? (i := 0) rfl))), f37, f38, Fw36, f39, f40⟩
theorem ef_rm1_7 (m : MethodId) (x0 : Addr) (x1 : Addr) : entryFrame m #[(.ref x0), (.ref x1)] 2 = mkF m 0 #[.val (.ref x0), .val (.ref x1)] [] := by first | (simp [entryFrame, mkF, argsToLocals, Value.category]; done) | rfl
def Q1_7 (Z : State) (a1 : Addr) (a2 : Addr) (p3 : Int32) (k4 : ClassId) (p7 : Int32) (h0 : Heap) (n0 : Nat) (v : Option Value) (h : Heap) (L : List Loc) : Prop := (∃ (i15 : Int32) (b16 : Addr) (k17 : ClassId), i15 = (p3.toInt8.toInt32) ∧ v = none ∧ Fr n0 L ∧ h0.size ≤ b16 ∧ b16 < h.size ∧ Keep h0 h [a1] ∧ Exa Z h a1 "java/lang/String" ∧ Fld Z h a1 "java/lang/String" "coder" "B" (.int (0 : Int32)) ∧ Fld Z h a1 "java/lang/String" "value" "[B" (.ref b16) ∧ Exa Z h b16 "[B" ∧ Arv Z h b16 k17 .byte (1 : Int32) [(.int i15)] (.int (0 : Int32)))
set_option maxRecDepth 65536 in
set_option maxHeartbeats 40000000 in
theorem rm1_7 (l : Launch) (Z : State) (a0 : Array Value) (hw : ∀ d ∈ own_ws, d.before a0 Z = true) (ws : List Jvm.Cond) (a1 : Addr) (a2 : Addr) (p3 : Int32) (k4 : ClassId) (p7 : Int32) (h0 : Heap) (n0 : Nat) (O0 : Old Z n0 h0) (V5 : Arv Z h0 a2 k4 .char (1 : Int32) [(.int p3)] (.int (0 : Int32))) (S_8 : Sta Z Z.heap "java/lang/String" "COMPACT_STRINGS" "Z" (.int p7)) (hk9 : ¬ (p7 = (0 : Int32))) (hk10 : ¬ ((255 : Int32) < p3)) (E_11 : Exa Z h0 a1 "java/lang/String") (F12 : Fld Z h0 a1 "java/lang/String" "coder" "B" (.int (0 : Int32))) (F13 : Fld Z h0 a1 "java/lang/String" "value" "[B" .null) (g_a1 : n0 ≤ a1) (lt_a1 : a1 < h0.size) :
    MetFree l M_4 (head1 (Jvm.Cond.code M_4 jdk_42_method_3_code 2 none :: ws) ({ frames := 3, cells := 1, slots := 1, locals := 52 } : Room)) (fun a U => a = #[(.ref a1), (.ref a2)] ∧ Z.Warmed39 U.vm ∧ U.heap = h0) (fun _ _ _ _ _ => True) (fun _ U o U' => ∃ v L, o = .returned v ∧ Q1_7 Z a1 a2 p3 k4 p7 h0 n0 v U'.heap L ∧ FrameEnd U o U' L ({ frames := 3, cells := 1, slots := 1, locals := 52 } : Room).cells ({ frames := 3, cells := 1, slots := 1, locals := 52 } : Room).slots) := by
  refine MetFree.of_bodySF (plainFor_of_name pn_1) hisR ?_
  intro p e s m args below meth c s₁ Bd hml0 hP hK
  obtain ⟨rfl, hZ, hh⟩ := hP
  have hx := Bd.exec
  have hby := Bd.bytes
  have hml : c.maxLocals = 2 := hml0
  have hown : s.vm.findClass "java/lang/String" = some m.cls := findClass_of_methodNamed Bd.named
  have hnm := (name_of_methodNamed Bd.named Bd.method).1
  have X0 : Stand p l e ({ frames := 3, cells := 1, slots := 1, locals := 52 } : Room) s m #[(.ref a1), (.ref a2)] below meth c s₁ [] 0 0 := Stand.of_body Bd
  have e0 : s₁.heap = h0 := by rw [← hh, Bd.state]; rfl
  have N0 := Fr.nil n0
  have pre0 : ∀ t, Steps p.tables e below (s₁.setTop (mkF m 0 #[.val (.ref a1), .val (.ref a2)] [])) t → Steps p.tables e below (s₁.setTop (entryFrame m #[(.ref a1), (.ref a2)] 2)) t := fun t k => castTop (ef_rm1_7 m a1 a2) k
  obtain ⟨cl6, Ar6, -, Sz6, Nn6, -, -⟩ := id V5
  obtain ⟨_, _, ⟨T14, L14, k14, n14⟩, -, X14, ⟨Lc14, hQ14, l14, y14, z14⟩, st14⟩ := X0.specialBack hx (y := M_3) rfl hown (mvT hZ (hw _ (gw 10 rfl))) (mvT hZ (hw _ (gw 11 rfl))) (mvT hZ (hw _ (gw 13 rfl))) (by decide) (backOf (W := 0) (rm2_8 l Z a0 hw [] a1 a2 p7 p3 k4 h0 n0  O0 S_8 hk9 V5 hk10 E_11 F12 F13 g_a1 lt_a1) hZ (hw _ (gw 13 rfl)) (hw _ (gw 6 rfl)) (by decide) (by decide)) (g := (mkF m 6 #[.val (.ref a1), .val (.ref a2)] [.null, (.int (1 : Int32)), (.int (0 : Int32)), (.ref a2), (.ref a1)])) rfl (by rw [hml]; rfl) (Steps.refl _) (a := a1) (argsL := [(.ref a2), (.int (0 : Int32)), (.int (1 : Int32)), .null]) (rest := []) (lenOf pd_3 rfl) rfl (by show 2 * 0 + _ ≤ _; exact Nat.le_of_eq rfl) (hb hby d1_6) (fun _ _ => ⟨rfl, e0, (by decide : 0 + 1 ≤ _), (by decide : 0 + 1 ≤ _)⟩)
  dsimp only [Pt.U, Pt.locs, Pt.cells, Pt.slots] at X14 l14 y14 z14 st14 hQ14
  subst l14 y14 z14
  obtain ⟨i15, b16, k17, u18, rfl, u20, u21, u22, Ku23, u24, u25, u26, u27, u28⟩ := hQ14
  have Ou23 : Old Z n0 T14.heap := O0.keep Ku23 (allS g_a1 all0)
  have g_b16 : n0 ≤ b16 := Nat.le_trans (own_z O0) u21
  have sz_b16 : h0.size ≤ b16 := Nat.le_trans (Nat.le_refl _) u21
  have N14 := Fr.app N0 u20
  obtain ⟨fs, hr, hrun, hended, hW, hsame⟩ := X14.leave (v := none) (fun _ => rfl)
  refine ⟨_, _, pre0 _ ?_, hrun, hended, _, _, rfl, ?_, ⟨_, rfl⟩, hW, hsame.mono (by decide) (by decide)⟩
  · show Steps p.tables e below (s₁.setTop (mkF m 0 #[.val (.ref a1), .val (.ref a2)] [])) _
    refine XS.aloadN X0.here hx rfl (hb hby d1_0) rfl rfl ?_
    show Steps p.tables e below (s₁.setTop (mkF m 1 #[.val (.ref a1), .val (.ref a2)] [(.ref a1)])) _
    refine XS.aloadN X0.here hx rfl (hb hby d1_1) rfl rfl ?_
    show Steps p.tables e below (s₁.setTop (mkF m 2 #[.val (.ref a1), .val (.ref a2)] [(.ref a2), (.ref a1)])) _
    refine XS.iconst X0.here hx rfl (hb hby d1_2) ?_
    show Steps p.tables e below (s₁.setTop (mkF m 3 #[.val (.ref a1), .val (.ref a2)] [(.int (0 : Int32)), (.ref a2), (.ref a1)])) _
    refine XS.aloadN X0.here hx rfl (hb hby d1_3) rfl rfl ?_
    show Steps p.tables e below (s₁.setTop (mkF m 4 #[.val (.ref a1), .val (.ref a2)] [(.ref a2), (.int (0 : Int32)), (.ref a2), (.ref a1)])) _
    refine X0.arraylength hx (by rw [e0]; exact Ar6.1) (State.isArrayOf_alike hZ.alike Ar6.2.1) (g := (mkF m 4 #[.val (.ref a1), .val (.ref a2)] [(.ref a2), (.int (0 : Int32)), (.ref a2), (.ref a1)])) rfl rfl (hb hby d1_4) _ ?_
    rw [len_of Sz6 Nn6]
    show Steps p.tables e below (s₁.setTop (mkF m 5 #[.val (.ref a1), .val (.ref a2)] [(.int (1 : Int32)), (.int (0 : Int32)), (.ref a2), (.ref a1)])) _
    refine XS.aconstNull X0.here hx rfl (hb hby d1_5) ?_
    show Steps p.tables e below (s₁.setTop (mkF m 6 #[.val (.ref a1), .val (.ref a2)] [.null, (.int (1 : Int32)), (.int (0 : Int32)), (.ref a2), (.ref a1)])) _
    refine st14.trans ?_
    show Steps p.tables e below (T14.setTop (mkF m 9 #[.val (.ref a1), .val (.ref a2)] [])) _
    exact X14.returnOut hx Bd.returns (hb hby d1_9) hr
  · show Q1_7 Z _ _ _ _ _ h0 n0 _ T14.heap _
    exact ⟨i15, b16, k17, u18, rfl, N14, sz_b16, u22, ((Keep.refl h0 [a1]).trans Ku23 (allS (Or.inl (List.mem_of_getElem? (i := 0) rfl)) all0)), u24, u25, u26, u27, u28⟩
theorem ef_rm8_13 (m : MethodId) (x0 : Addr) : entryFrame m #[(.ref x0)] 1 = mkF m 0 #[.val (.ref x0)] [] := by first | (simp [entryFrame, mkF, argsToLocals, Value.category]; done) | rfl
def Q8_13 (Z : State) (a1 : Addr) (h0 : Heap) (n0 : Nat) (v : Option Value) (h : Heap) (L : List Loc) : Prop := (v = none ∧ Fr n0 L ∧ h = h0)
set_option maxRecDepth 65536 in
set_option maxHeartbeats 40000000 in
theorem rm8_13 (l : Launch) (Z : State) (a0 : Array Value) (hw : ∀ d ∈ own_ws, d.before a0 Z = true) (ws : List Jvm.Cond) (a1 : Addr) (h0 : Heap) (n0 : Nat) (O0 : Old Z n0 h0) :
    MetFree l M_5 (head1 (Jvm.Cond.code M_5 jdk_30_method_1_code 1 none :: ws) ({ frames := 1, cells := 0, slots := 0, locals := 12 } : Room)) (fun a U => a = #[(.ref a1)] ∧ Z.Warmed39 U.vm ∧ U.heap = h0) (fun _ _ _ _ _ => True) (fun _ U o U' => ∃ v L, o = .returned v ∧ Q8_13 Z a1 h0 n0 v U'.heap L ∧ FrameEnd U o U' L ({ frames := 1, cells := 0, slots := 0, locals := 12 } : Room).cells ({ frames := 1, cells := 0, slots := 0, locals := 12 } : Room).slots) := by
  refine MetFree.of_bodySF (plainFor_of_name pn_2) hisR ?_
  intro p e s m args below meth c s₁ Bd hml0 hP hK
  obtain ⟨rfl, hZ, hh⟩ := hP
  have hx := Bd.exec
  have hby := Bd.bytes
  have hml : c.maxLocals = 1 := hml0
  have hown : s.vm.findClass "java/lang/Record" = some m.cls := findClass_of_methodNamed Bd.named
  have hnm := (name_of_methodNamed Bd.named Bd.method).1
  have X0 : Stand p l e ({ frames := 1, cells := 0, slots := 0, locals := 12 } : Room) s m #[(.ref a1)] below meth c s₁ [] 0 0 := Stand.of_body Bd
  have e0 : s₁.heap = h0 := by rw [← hh, Bd.state]; rfl
  have N0 := Fr.nil n0
  have pre0 : ∀ t, Steps p.tables e below (s₁.setTop (mkF m 0 #[.val (.ref a1)] [])) t → Steps p.tables e below (s₁.setTop (entryFrame m #[(.ref a1)] 1)) t := fun t k => castTop (ef_rm8_13 m a1) k
  obtain ⟨T2, X2, e2, st2⟩ := initO X0 hx hZ hown (hw _ (gw 41 rfl)) (hw _ (gw 15 rfl)) (hw _ (gw 16 rfl)) e0 (g := (mkF m 1 #[.val (.ref a1)] [(.ref a1)])) rfl (by rw [hml]; rfl) rfl (hb hby d8_1) (by decide) (W := 0) (by show 2 * 0 + _ ≤ _; exact Nat.le_of_eq rfl) (by decide)
  obtain ⟨fs, hr, hrun, hended, hW, hsame⟩ := X2.leave (v := none) (fun _ => rfl)
  refine ⟨_, _, pre0 _ ?_, hrun, hended, _, _, rfl, ?_, ⟨_, rfl⟩, hW, hsame.mono (by decide) (by decide)⟩
  · show Steps p.tables e below (s₁.setTop (mkF m 0 #[.val (.ref a1)] [])) _
    refine XS.aloadN X0.here hx rfl (hb hby d8_0) rfl rfl ?_
    show Steps p.tables e below (s₁.setTop (mkF m 1 #[.val (.ref a1)] [(.ref a1)])) _
    refine st2 _ ?_
    show Steps p.tables e below (T2.setTop (mkF m 4 #[.val (.ref a1)] [])) _
    exact X2.returnOut hx Bd.returns (hb hby d8_4) hr
  · show Q8_13 Z _ h0 n0 _ T2.heap _
    rw [e2]
    exact ⟨rfl, N0, rfl⟩
theorem ef_rm9_14 (m : MethodId) (x0 : Addr) (x1 : Addr) : entryFrame m #[(.ref x0), (.ref x1)] 2 = mkF m 0 #[.val (.ref x0), .val (.ref x1)] [] := by first | (simp [entryFrame, mkF, argsToLocals, Value.category]; done) | rfl
def Q9_14 (Z : State) (a1 : Addr) (a2 : Addr) (h0 : Heap) (n0 : Nat) (v : Option Value) (h : Heap) (L : List Loc) : Prop := (v = some (.ref a1) ∧ Fr n0 L ∧ h = h0)
set_option maxRecDepth 65536 in
set_option maxHeartbeats 40000000 in
theorem rm9_14 (l : Launch) (Z : State) (a0 : Array Value) (hw : ∀ d ∈ own_ws, d.before a0 Z = true) (ws : List Jvm.Cond) (a1 : Addr) (a2 : Addr) (h0 : Heap) (n0 : Nat) (O0 : Old Z n0 h0) :
    MetFree l M_6 (head1 (Jvm.Cond.code M_6 jdk_31_method_11_code 2 (some (.object "java/lang/Object")) :: ws) ({ frames := 0, cells := 0, slots := 0, locals := 0 } : Room)) (fun a U => a = #[(.ref a1), (.ref a2)] ∧ Z.Warmed39 U.vm ∧ U.heap = h0) (fun _ _ _ _ _ => True) (fun _ U o U' => ∃ v L, o = .returned v ∧ Q9_14 Z a1 a2 h0 n0 v U'.heap L ∧ FrameEnd U o U' L ({ frames := 0, cells := 0, slots := 0, locals := 0 } : Room).cells ({ frames := 0, cells := 0, slots := 0, locals := 0 } : Room).slots) := by
  refine MetFree.of_bodySF (plainFor_of_name pn_3) hisR ?_
  intro p e s m args below meth c s₁ Bd hml0 hP hK
  obtain ⟨rfl, hZ, hh⟩ := hP
  have hx := Bd.exec
  have hby := Bd.bytes
  have hml : c.maxLocals = 2 := hml0
  have hown : s.vm.findClass "java/util/Objects" = some m.cls := findClass_of_methodNamed Bd.named
  have hnm := (name_of_methodNamed Bd.named Bd.method).1
  have X0 : Stand p l e ({ frames := 0, cells := 0, slots := 0, locals := 0 } : Room) s m #[(.ref a1), (.ref a2)] below meth c s₁ [] 0 0 := Stand.of_body Bd
  have e0 : s₁.heap = h0 := by rw [← hh, Bd.state]; rfl
  have N0 := Fr.nil n0
  have pre0 : ∀ t, Steps p.tables e below (s₁.setTop (mkF m 0 #[.val (.ref a1), .val (.ref a2)] [])) t → Steps p.tables e below (s₁.setTop (entryFrame m #[(.ref a1), (.ref a2)] 2)) t := fun t k => castTop (ef_rm9_14 m a1 a2) k
  obtain ⟨fs, hr, hrun, hended, hW, hsame⟩ := X0.leave (v := some (.ref a1)) (fun h => by rw [Bd.returns] at h; cases h)
  refine ⟨_, _, pre0 _ ?_, hrun, hended, _, _, rfl, ?_, ⟨_, rfl⟩, hW, hsame.mono (by decide) (by decide)⟩
  · show Steps p.tables e below (s₁.setTop (mkF m 0 #[.val (.ref a1), .val (.ref a2)] [])) _
    refine XS.aloadN X0.here hx rfl (hb hby d9_0) rfl rfl ?_
    show Steps p.tables e below (s₁.setTop (mkF m 1 #[.val (.ref a1), .val (.ref a2)] [(.ref a1)])) _
    refine XS.ifnonnullYes X0.here hx rfl (pc0 := 1) (pc' := 13) rfl (hb hby d9_1) rfl (by decide) (by decide) ?_
    show Steps p.tables e below (s₁.setTop (mkF m 13 #[.val (.ref a1), .val (.ref a2)] [])) _
    refine XS.aloadN X0.here hx rfl (hb hby d9_13) rfl rfl ?_
    show Steps p.tables e below (s₁.setTop (mkF m 14 #[.val (.ref a1), .val (.ref a2)] [(.ref a1)])) _
    jvm_step X0.here [X0.here.top, hx, (hb hby d9_14), X0.method', Bd.returns, Value.isRef, FieldType.isReference]
    first | (intro acts; rw [hr _ acts rfl rfl rfl]) | rw [hr _ _ rfl rfl rfl]
    exact Steps.refl _
  · show Q9_14 Z _ _ h0 n0 _ s₁.heap _
    rw [e0]
    exact ⟨rfl, N0, rfl⟩
theorem ef_rm7_12 (m : MethodId) (x0 : Addr) (x1 : Addr) (x2 : Addr) : entryFrame m #[(.ref x0), (.ref x1), (.ref x2)] 3 = mkF m 0 #[.val (.ref x0), .val (.ref x1), .val (.ref x2)] [] := by first | (simp [entryFrame, mkF, argsToLocals, Value.category]; done) | rfl
def Q7_12 (Z : State) (a1 : Addr) (a2 : Addr) (a3 : Addr) (h0 : Heap) (n0 : Nat) (v : Option Value) (h : Heap) (L : List Loc) : Prop := (v = none ∧ Fr n0 L ∧ Keep h0 h [a1] ∧ Exa Z h a1 "com/example/stemline/stemline/model/TableColumn" ∧ Fld Z h a1 "com/example/stemline/stemline/model/TableColumn" "name" "Ljava/lang/String;" (.ref a3) ∧ Fld Z h a1 "com/example/stemline/stemline/model/TableColumn" "table" "Ljava/lang/String;" (.ref a2))
set_option maxRecDepth 65536 in
set_option maxHeartbeats 40000000 in
theorem rm7_12 (l : Launch) (Z : State) (a0 : Array Value) (hw : ∀ d ∈ own_ws, d.before a0 Z = true) (ws : List Jvm.Cond) (a1 : Addr) (a2 : Addr) (a3 : Addr) (h0 : Heap) (n0 : Nat) (O0 : Old Z n0 h0) (E_18 : Exa Z h0 a1 "com/example/stemline/stemline/model/TableColumn") (F19 : Fld Z h0 a1 "com/example/stemline/stemline/model/TableColumn" "name" "Ljava/lang/String;" .null) (F20 : Fld Z h0 a1 "com/example/stemline/stemline/model/TableColumn" "table" "Ljava/lang/String;" .null) (g_a1 : n0 ≤ a1) :
    MetFree l M_7 (head1 (Jvm.Cond.code M_7 prog_56_method_1_code 3 none :: ws) ({ frames := 2, cells := 4, slots := 44, locals := 24 } : Room)) (fun a U => a = #[(.ref a1), (.ref a2), (.ref a3)] ∧ Z.Warmed39 U.vm ∧ U.heap = h0) (fun _ _ _ _ _ => True) (fun _ U o U' => ∃ v L, o = .returned v ∧ Q7_12 Z a1 a2 a3 h0 n0 v U'.heap L ∧ ReturnedEndW U o U' L ({ frames := 2, cells := 4, slots := 44, locals := 24 } : Room).cells ({ frames := 2, cells := 4, slots := 44, locals := 24 } : Room).slots) := by
  refine MetFree.of_bodySF (plainFor_of_name pn_4) hisR ?_
  intro p e s m args below meth c s₁ Bd hml0 hP hK
  obtain ⟨rfl, hZ, hh⟩ := hP
  have hx := Bd.exec
  have hby := Bd.bytes
  have hml : c.maxLocals = 3 := hml0
  have hown : s.vm.findClass "com/example/stemline/stemline/model/TableColumn" = some m.cls := findClass_of_methodNamed Bd.named
  have hnm := (name_of_methodNamed Bd.named Bd.method).1
  have X0 : Stand p l e ({ frames := 2, cells := 4, slots := 44, locals := 24 } : Room) s m #[(.ref a1), (.ref a2), (.ref a3)] below meth c s₁ [] 0 0 := Stand.of_body Bd
  have e0 : s₁.heap = h0 := by rw [← hh, Bd.state]; rfl
  have N0 := Fr.nil n0
  have Y0 : h0.size ≤ h0.size := Nat.le_refl _
  have hS0 : s.Since s.vm h0.size := (State.WarmedH.refl s).since _
  have pre0 : ∀ t, Steps p.tables e below (s₁.setTop (mkF m 0 #[.val (.ref a1), .val (.ref a2), .val (.ref a3)] [])) t → Steps p.tables e below (s₁.setTop (entryFrame m #[(.ref a1), (.ref a2), (.ref a3)] 3)) t := fun t k => castTop (ef_rm7_12 m a1 a2 a3) k
  obtain ⟨_, _, ⟨T4, L4, k4, n4⟩, -, X4, ⟨Lc4, hQ4, l4, y4, z4⟩, st4⟩ := X0.specialBack hx (y := M_5) rfl hown (mvT hZ (hw _ (gw 36 rfl))) (mvT hZ (hw _ (gw 37 rfl))) (mvT hZ (hw _ (gw 40 rfl))) (by decide) (backOf (W := 0) (rm8_13 l Z a0 hw [] a1 h0 n0  O0) hZ (hw _ (gw 40 rfl)) (hw _ (gw 39 rfl)) (by decide) (by decide)) (g := (mkF m 1 #[.val (.ref a1), .val (.ref a2), .val (.ref a3)] [(.ref a1)])) rfl (by rw [hml]; rfl) (Steps.refl _) (a := a1) (argsL := []) (rest := []) (lenOf pd_5 rfl) rfl (by show 2 * 0 + _ ≤ _; exact Nat.le_of_eq rfl) (hb hby d7_1) (fun _ _ => ⟨rfl, e0, (by decide : 0 + 0 ≤ _), (by decide : 0 + 0 ≤ _)⟩)
  dsimp only [Pt.U, Pt.locs, Pt.cells, Pt.slots] at X4 l4 y4 z4 st4 hQ4
  subst l4 y4 z4
  obtain ⟨rfl, u6, u7⟩ := hQ4
  have N4 := Fr.app N0 u6
  obtain ⟨a8, T8, h8, k8, X8, e8, E8, hS8, hk8, hZ8, hown8, st8⟩ := ldcS (s := s) (vm0 := s.vm) X4 hx hZ hown (hw _ (gw 42 rfl)) (own_wS hw) u7 hS0 Y0 (g := (mkF m 5 #[.val (.ref a1), .val (.ref a2), .val (.ref a3)] [(.ref a2)])) rfl (hb hby d7_5) (n := 20) (by decide +kernel) (by decide) (by decide) (by decide)
  have O8 : Old Z n0 h8 := O0.ext E8
  obtain ⟨_, _, ⟨T9, L9, k9, n9⟩, -, X9, ⟨Lc9, hQ9, l9, y9, z9⟩, st9⟩ := Jvm.LawKit.callS X8 hx (y := M_6) hown8 (mvT hZ8 (hw _ (gw 45 rfl))) (mvT hZ8 (hw _ (gw 46 rfl))) (mvT hZ8 (hw _ (gw 47 rfl))) (mvT hZ8 (hw _ (gw 48 rfl))) (by decide) (backOf (W := 0) (rm9_14 l Z a0 hw [] a2 a8 h8 n0  O8) hZ8 (hw _ (gw 48 rfl)) (hw _ (gw 47 rfl)) (by decide) (by decide)) (g := (mkF m 7 #[.val (.ref a1), .val (.ref a2), .val (.ref a3)] [(.ref a8), (.ref a2)])) rfl (by rw [hml]; rfl) (argsL := [(.ref a2), (.ref a8)]) (rest := []) (lenOf pd_6 rfl) rfl (by show 2 * 0 + _ ≤ _; exact Nat.le_of_eq rfl) (hb hby d7_7) (fun _ _ => ⟨rfl, e8, (by decide : 2 + 0 ≤ _), (by decide : 24 + 0 ≤ _)⟩)
  dsimp only [Pt.U, Pt.locs, Pt.cells, Pt.slots] at X9 l9 y9 z9 st9 hQ9
  subst l9 y9 z9
  obtain ⟨rfl, u11, u12⟩ := hQ9
  have N9 := Fr.app N4 u11
  obtain ⟨a13, T13, h13, k13, X13, e13, E13, hS13, hk13, hZ13, hown13, st13⟩ := ldcS (s := s) (vm0 := T8.vm) X9 hx hZ8 hown8 (hw _ (gw 49 rfl)) (own_wS hw) u12 hS8 hk8 (g := (mkF m 12 #[.val (.ref a1), .val (.ref a2), .val (.ref a3)] [(.ref a3)])) rfl (hb hby d7_12) (n := 16) (by decide +kernel) (by decide) (by decide) (by decide)
  have O13 : Old Z n0 h13 := O8.ext E13
  obtain ⟨_, _, ⟨T14, L14, k14, n14⟩, -, X14, ⟨Lc14, hQ14, l14, y14, z14⟩, st14⟩ := Jvm.LawKit.callS X13 hx (y := M_6) hown13 (mvT hZ13 (hw _ (gw 45 rfl))) (mvT hZ13 (hw _ (gw 46 rfl))) (mvT hZ13 (hw _ (gw 47 rfl))) (mvT hZ13 (hw _ (gw 48 rfl))) (by decide) (backOf (W := 0) (rm9_14 l Z a0 hw [] a3 a13 h13 n0  O13) hZ13 (hw _ (gw 48 rfl)) (hw _ (gw 47 rfl)) (by decide) (by decide)) (g := (mkF m 14 #[.val (.ref a1), .val (.ref a2), .val (.ref a3)] [(.ref a13), (.ref a3)])) rfl (by rw [hml]; rfl) (argsL := [(.ref a3), (.ref a13)]) (rest := []) (lenOf pd_6 rfl) rfl (by show 2 * 0 + _ ≤ _; exact Nat.le_of_eq rfl) (hb hby d7_14) (fun _ _ => ⟨rfl, e13, (by decide : 4 + 0 ≤ _), (by decide : 44 + 0 ≤ _)⟩)
  dsimp only [Pt.U, Pt.locs, Pt.cells, Pt.slots] at X14 l14 y14 z14 st14 hQ14
  subst l14 y14 z14
  obtain ⟨rfl, u16, u17⟩ := hQ14
  have N14 := Fr.app N9 u16
  have f21 : Fld Z h13 a1 "com/example/stemline/stemline/model/TableColumn" "table" "Ljava/lang/String;" .null := (Fld.ext E13 (Fld.ext E8 F20))
  have f22 : Exa Z h13 a1 "com/example/stemline/stemline/model/TableColumn" := (Exa.ext E13 (Exa.ext E8 E_18))
  obtain ⟨T23, h23, X23, e23, W23, st23⟩ := putF X14 hx hZ13 hown13 (host := "") (Or.inl (hw _ (gw 50 rfl))) Via.refl u17 f21 f22 (Or.inr ⟨(hw _ (gw 51 rfl)), rfl, hnm⟩) (hw _ (gw 2 rfl)) (ty := (.object "java/lang/String")) (by decide) rfl rfl (g := (mkF m 20 #[.val (.ref a1), .val (.ref a2), .val (.ref a3)] [(.ref a2), (.ref a1)])) rfl rfl (hb hby d7_20)
  have O23 : Old Z n0 h23 := O13.wr W23 g_a1
  have Fw23 : Fld Z h23 a1 "com/example/stemline/stemline/model/TableColumn" "table" "Ljava/lang/String;" (.ref a2) := Fld.same W23 f21
  have N23 := Fr.snoc X23 N14 g_a1
  have f24 : Fld Z h23 a1 "com/example/stemline/stemline/model/TableColumn" "name" "Ljava/lang/String;" .null := (Fld.other W23 (Fld.ext E13 (Fld.ext E8 F19)) (Or.inr (slot_ne (Or.inr (hw _ (gw 53 rfl))) (Or.inr (hw _ (gw 51 rfl))) (by decide) (t := (.object "java/lang/String")) (t' := (.object "java/lang/String")) (by decide) (by decide))))
  have f25 : Exa Z h23 a1 "com/example/stemline/stemline/model/TableColumn" := (Exa.wr W23 f22)
  obtain ⟨T26, h26, X26, e26, W26, st26⟩ := putF X23 hx hZ13 hown13 (host := "") (Or.inl (hw _ (gw 52 rfl))) Via.refl e23 f24 f25 (Or.inr ⟨(hw _ (gw 53 rfl)), rfl, hnm⟩) (hw _ (gw 2 rfl)) (ty := (.object "java/lang/String")) (by decide) rfl rfl (g := (mkF m 25 #[.val (.ref a1), .val (.ref a2), .val (.ref a3)] [(.ref a3), (.ref a1)])) rfl rfl (hb hby d7_25)
  have O26 : Old Z n0 h26 := O23.wr W26 g_a1
  have Fw26 : Fld Z h26 a1 "com/example/stemline/stemline/model/TableColumn" "name" "Ljava/lang/String;" (.ref a3) := Fld.same W26 f24
  have N26 := Fr.snoc X26 N23 g_a1
  obtain ⟨fs, hr, hrun, hended, hEnd⟩ := X26.leaveW (s := s) (vm₁ := T13.vm) hS13 (by rw [e26]; exact (Nat.le_trans (Nat.le_trans hk13 (Keep.of_wr W23).1) (Keep.of_wr W26).1)) (v := none) (fun _ => rfl)
  have f27 : Exa Z h26 a1 "com/example/stemline/stemline/model/TableColumn" := (Exa.wr W26 f25)
  have f28 : Fld Z h26 a1 "com/example/stemline/stemline/model/TableColumn" "table" "Ljava/lang/String;" (.ref a2) := (Fld.other W26 Fw23 (Or.inr (slot_ne (Or.inr (hw _ (gw 51 rfl))) (Or.inr (hw _ (gw 53 rfl))) (by decide) (t := (.object "java/lang/String")) (t' := (.object "java/lang/String")) (by decide) (by decide))))
  refine ⟨_, _, pre0 _ ?_, hrun, hended, _, _, rfl, ?_, hEnd.1, hEnd.2.1, hEnd.2.2.1, hEnd.2.2.2.mono (by decide) (by decide)⟩
  · show Steps p.tables e below (s₁.setTop (mkF m 0 #[.val (.ref a1), .val (.ref a2), .val (.ref a3)] [])) _
    refine XS.aloadN X0.here hx rfl (hb hby d7_0) rfl rfl ?_
    show Steps p.tables e below (s₁.setTop (mkF m 1 #[.val (.ref a1), .val (.ref a2), .val (.ref a3)] [(.ref a1)])) _
    refine st4.trans ?_
    show Steps p.tables e below (T4.setTop (mkF m 4 #[.val (.ref a1), .val (.ref a2), .val (.ref a3)] [])) _
    refine XS.aloadN X4.here hx rfl (hb hby d7_4) rfl rfl ?_
    show Steps p.tables e below (T4.setTop (mkF m 5 #[.val (.ref a1), .val (.ref a2), .val (.ref a3)] [(.ref a2)])) _
    refine st8 _ ?_
    show Steps p.tables e below (T8.setTop (mkF m 7 #[.val (.ref a1), .val (.ref a2), .val (.ref a3)] [(.ref a8), (.ref a2)])) _
    refine st9 _ ?_
    show Steps p.tables e below (T9.setTop (mkF m 10 #[.val (.ref a1), .val (.ref a2), .val (.ref a3)] [(.ref a2)])) _
    refine XS.pop X9.here hx rfl (hb hby d7_10) rfl rfl ?_
    show Steps p.tables e below (T9.setTop (mkF m 11 #[.val (.ref a1), .val (.ref a2), .val (.ref a3)] [])) _
    refine XS.aloadN X9.here hx rfl (hb hby d7_11) rfl rfl ?_
    show Steps p.tables e below (T9.setTop (mkF m 12 #[.val (.ref a1), .val (.ref a2), .val (.ref a3)] [(.ref a3)])) _
    refine st13 _ ?_
    show Steps p.tables e below (T13.setTop (mkF m 14 #[.val (.ref a1), .val (.ref a2), .val (.ref a3)] [(.ref a13), (.ref a3)])) _
    refine st14 _ ?_
    show Steps p.tables e below (T14.setTop (mkF m 17 #[.val (.ref a1), .val (.ref a2), .val (.ref a3)] [(.ref a3)])) _
    refine XS.pop X14.here hx rfl (hb hby d7_17) rfl rfl ?_
    show Steps p.tables e below (T14.setTop (mkF m 18 #[.val (.ref a1), .val (.ref a2), .val (.ref a3)] [])) _
    refine XS.aloadN X14.here hx rfl (hb hby d7_18) rfl rfl ?_
    show Steps p.tables e below (T14.setTop (mkF m 19 #[.val (.ref a1), .val (.ref a2), .val (.ref a3)] [(.ref a1)])) _
    refine XS.aloadN X14.here hx rfl (hb hby d7_19) rfl rfl ?_
    show Steps p.tables e below (T14.setTop (mkF m 20 #[.val (.ref a1), .val (.ref a2), .val (.ref a3)] [(.ref a2), (.ref a1)])) _
    refine st23 _ ?_
    show Steps p.tables e below (T23.setTop (mkF m 23 #[.val (.ref a1), .val (.ref a2), .val (.ref a3)] [])) _
    refine XS.aloadN X23.here hx rfl (hb hby d7_23) rfl rfl ?_
    show Steps p.tables e below (T23.setTop (mkF m 24 #[.val (.ref a1), .val (.ref a2), .val (.ref a3)] [(.ref a1)])) _
    refine XS.aloadN X23.here hx rfl (hb hby d7_24) rfl rfl ?_
    show Steps p.tables e below (T23.setTop (mkF m 25 #[.val (.ref a1), .val (.ref a2), .val (.ref a3)] [(.ref a3), (.ref a1)])) _
    refine st26 _ ?_
    show Steps p.tables e below (T26.setTop (mkF m 28 #[.val (.ref a1), .val (.ref a2), .val (.ref a3)] [])) _
    exact X26.returnOut hx Bd.returns (hb hby d7_28) hr
  · show Q7_12 Z _ _ _ h0 n0 _ T26.heap _
    rw [e26]
    exact ⟨rfl, N26, (((((Keep.refl h0 [a1]).ext E8).ext E13).wr W23 (Or.inl (List.mem_of_getElem? (i := 0) rfl))).wr W26 (Or.inl (List.mem_of_getElem? (i := 0) rfl))), f27, Fw26, f28⟩
theorem ef_rm11_16 (m : MethodId) (x0 : Int32) : entryFrame m #[(.int x0)] 1 = mkF m 0 #[.val (.int x0)] [] := by first | (simp [entryFrame, mkF, argsToLocals, Value.category]; done) | rfl
def Q11_16 (Z : State) (p1 : Int32) (h0 : Heap) (n0 : Nat) (v : Option Value) (h : Heap) (L : List Loc) : Prop := (v = some (.int (1 : Int32)) ∧ Fr n0 L ∧ h = h0)
set_option maxRecDepth 65536 in
set_option maxHeartbeats 40000000 in
theorem rm11_16 (l : Launch) (Z : State) (a0 : Array Value) (hw : ∀ d ∈ own_ws, d.before a0 Z = true) (ws : List Jvm.Cond) (p1 : Int32) (h0 : Heap) (n0 : Nat) (O0 : Old Z n0 h0) (hk2 : ¬ ((255 : Int32) < p1)) :
    MetFree l M_8 (head1 (Jvm.Cond.code M_8 jdk_43_method_3_code 1 (some .boolean) :: ws) ({ frames := 0, cells := 0, slots := 0, locals := 0 } : Room)) (fun a U => a = #[(.int p1)] ∧ Z.Warmed39 U.vm ∧ U.heap = h0) (fun _ _ _ _ _ => True) (fun _ U o U' => ∃ v L, o = .returned v ∧ Q11_16 Z p1 h0 n0 v U'.heap L ∧ FrameEnd U o U' L ({ frames := 0, cells := 0, slots := 0, locals := 0 } : Room).cells ({ frames := 0, cells := 0, slots := 0, locals := 0 } : Room).slots) := by
  refine MetFree.of_bodySF (plainFor_of_name pn_5) hisR ?_
  intro p e s m args below meth c s₁ Bd hml0 hP hK
  obtain ⟨rfl, hZ, hh⟩ := hP
  have hx := Bd.exec
  have hby := Bd.bytes
  have hml : c.maxLocals = 1 := hml0
  have hown : s.vm.findClass "java/lang/StringLatin1" = some m.cls := findClass_of_methodNamed Bd.named
  have hnm := (name_of_methodNamed Bd.named Bd.method).1
  have X0 : Stand p l e ({ frames := 0, cells := 0, slots := 0, locals := 0 } : Room) s m #[(.int p1)] below meth c s₁ [] 0 0 := Stand.of_body Bd
  have e0 : s₁.heap = h0 := by rw [← hh, Bd.state]; rfl
  have N0 := Fr.nil n0
  have pre0 : ∀ t, Steps p.tables e below (s₁.setTop (mkF m 0 #[.val (.int p1)] [])) t → Steps p.tables e below (s₁.setTop (entryFrame m #[(.int p1)] 1)) t := fun t k => castTop (ef_rm11_16 m p1) k
  obtain ⟨fs, hr, hrun, hended, hW, hsame⟩ := X0.leave (v := some (.int (1 : Int32))) (fun h => by rw [Bd.returns] at h; cases h)
  refine ⟨_, _, pre0 _ ?_, hrun, hended, _, _, rfl, ?_, ⟨_, rfl⟩, hW, hsame.mono (by decide) (by decide)⟩
  · show Steps p.tables e below (s₁.setTop (mkF m 0 #[.val (.int p1)] [])) _
    refine XS.iloadN X0.here hx rfl (hb hby d11_0) rfl ?_
    show Steps p.tables e below (s₁.setTop (mkF m 1 #[.val (.int p1)] [(.int p1)])) _
    refine XS.sipush X0.here hx rfl (hb hby d11_1) ?_
    show Steps p.tables e below (s₁.setTop (mkF m 4 #[.val (.int p1)] [(.int (255 : Int32)), (.int p1)])) _
    refine XS.icmpNo X0.here hx rfl (hb hby d11_4) rfl (flt hk2).2.2.1 ?_
    show Steps p.tables e below (s₁.setTop (mkF m 7 #[.val (.int p1)] [])) _
    refine XS.iconst X0.here hx rfl (hb hby d11_7) ?_
    show Steps p.tables e below (s₁.setTop (mkF m 8 #[.val (.int p1)] [(.int (1 : Int32))])) _
    refine XS.goto X0.here hx rfl (pc0 := 8) (pc' := 12) rfl (hb hby d11_8) (by decide) (by decide) ?_
    show Steps p.tables e below (s₁.setTop (mkF m 12 #[.val (.int p1)] [(.int (1 : Int32))])) _
    exact retN X0 hx (t := .boolean) Bd.returns (by simp) (hb hby d11_12) hr
  · show Q11_16 Z _ h0 n0 _ s₁.heap _
    rw [e0]
    exact ⟨rfl, N0, rfl⟩
theorem ef_rm12_17 (m : MethodId) (x0 : Int32) : entryFrame m #[(.int x0)] 1 = mkF m 0 #[.val (.int x0)] [] := by first | (simp [entryFrame, mkF, argsToLocals, Value.category]; done) | rfl
def Q12_17 (Z : State) (p1 : Int32) (h0 : Heap) (n0 : Nat) (v : Option Value) (h : Heap) (L : List Loc) : Prop := (∃ (i3 : Int32) (b2 : Addr) (k2 : ClassId), i3 = (p1.toInt8.toInt32) ∧ v = some (.ref b2) ∧ Fr n0 L ∧ h0.size ≤ b2 ∧ b2 < h.size ∧ Keep h0 h [] ∧ Exa Z h b2 "[B" ∧ Arv Z h b2 k2 .byte (1 : Int32) [(.int i3)] (.int (0 : Int32)))
set_option maxRecDepth 65536 in
set_option maxHeartbeats 40000000 in
theorem rm12_17 (l : Launch) (Z : State) (a0 : Array Value) (hw : ∀ d ∈ own_ws, d.before a0 Z = true) (ws : List Jvm.Cond) (p1 : Int32) (h0 : Heap) (n0 : Nat) (O0 : Old Z n0 h0) :
    MetFree l M_9 (head1 (Jvm.Cond.code M_9 jdk_43_method_46_code 1 (some (.array .byte)) :: ws) ({ frames := 0, cells := 1, slots := 1, locals := 0 } : Room)) (fun a U => a = #[(.int p1)] ∧ Z.Warmed39 U.vm ∧ U.heap = h0) (fun _ _ _ _ _ => True) (fun _ U o U' => ∃ v L, o = .returned v ∧ Q12_17 Z p1 h0 n0 v U'.heap L ∧ FrameEnd U o U' L ({ frames := 0, cells := 1, slots := 1, locals := 0 } : Room).cells ({ frames := 0, cells := 1, slots := 1, locals := 0 } : Room).slots) := by
  refine MetFree.of_bodySF (plainFor_of_name pn_5) hisR ?_
  intro p e s m args below meth c s₁ Bd hml0 hP hK
  obtain ⟨rfl, hZ, hh⟩ := hP
  have hx := Bd.exec
  have hby := Bd.bytes
  have hml : c.maxLocals = 1 := hml0
  have hown : s.vm.findClass "java/lang/StringLatin1" = some m.cls := findClass_of_methodNamed Bd.named
  have hnm := (name_of_methodNamed Bd.named Bd.method).1
  have X0 : Stand p l e ({ frames := 0, cells := 1, slots := 1, locals := 0 } : Room) s m #[(.int p1)] below meth c s₁ [] 0 0 := Stand.of_body Bd
  have e0 : s₁.heap = h0 := by rw [← hh, Bd.state]; rfl
  have N0 := Fr.nil n0
  have pre0 : ∀ t, Steps p.tables e below (s₁.setTop (mkF m 0 #[.val (.int p1)] [])) t → Steps p.tables e below (s₁.setTop (entryFrame m #[(.int p1)] 1)) t := fun t k => castTop (ef_rm12_17 m p1) k
  obtain ⟨T2, h2, k2, X2, e2, E2, A2, Ex2, st2⟩ := newPE X0 hx hZ (hw _ (gw 22 rfl)) e0 (g := (mkF m 1 #[.val (.int p1)] [(.int (1 : Int32))])) rfl (hb hby d12_1) rfl (by decide +kernel) (cap := 1) (by decide +kernel) (by decide) (by decide) (by decide) (ad := "[B") (by decide +kernel)
  obtain ⟨b2, g2⟩ : ∃ z, z = h0.size := ⟨_, rfl⟩
  rw [← g2] at A2 Ex2 st2
  have O2 : Old Z n0 h2 := O0.ext E2
  have bd_b2 : h0.size ≤ b2 := Nat.le_of_eq g2.symm
  have g_b2 : n0 ≤ b2 := Nat.le_trans (own_z O0) bd_b2
  have sz_b2 : h0.size ≤ b2 := Nat.le_trans (Nat.le_refl _) bd_b2
  have lt_b2 : b2 < h2.size := A2.lt
  have V2 : Arv Z h2 b2 k2 .byte (1 : Int32) [] (.int (0 : Int32)) := Arv.new A2 (by decide +kernel)
  obtain ⟨i3, hi3⟩ : ∃ z, z = (p1.toInt8.toInt32) := ⟨_, rfl⟩
  have Vp4 : Arv Z h2 b2 k2 .byte (1 : Int32) [(.int (0 : Int32))] (.int (0 : Int32)) := V2.pad (pad_rep [] (.int (0 : Int32)) 1)
  obtain ⟨cl5, Ar5, qk5, Sz5, Nn5, Hh5, Gg5⟩ := id Vp4
  have hin5 : ¬ ((0 : Int32) < 0 ∨ cl5.slots.size ≤ ((0 : Int32)).toNatClampNeg) := inb_of Sz5 ⟨by decide +kernel, by decide +kernel⟩
  obtain ⟨T6, h6, X6, e6, W6, st6⟩ := stB X2 hx hZ e2 Ar5 (j := (0 : Int32)) hin5 (g := (mkF m 7 #[.val (.int p1)] [(.int i3), (.int (0 : Int32)), (.ref b2), (.ref b2)])) rfl rfl (hb hby d12_7)
  rw [show nar .byte i3 = i3 from (own_i2b2 hi3 : (i3.toInt8.toInt32) = i3)] at W6
  have O6 : Old Z n0 h6 := O2.wr W6 g_b2
  have V6 : Arv Z h6 b2 k2 .byte (1 : Int32) [(.int i3)] (.int (0 : Int32)) := Arv.set Ar5 qk5 Sz5 Nn5 Hh5 Gg5 ((own_i2b2 hi3 : (i3.toInt8.toInt32) = i3) ▸ fits_nar_byte _) W6 0 rfl (Nat.le_of_ble_eq_true rfl)
  have N6 := Fr.snoc X6 N0 g_b2
  obtain ⟨fs, hr, hrun, hended, hW, hsame⟩ := X6.leave (v := some (.ref b2)) (fun h => by rw [Bd.returns] at h; cases h)
  have f7 : Exa Z h6 b2 "[B" := (Exa.wr W6 Ex2)
  refine ⟨_, _, pre0 _ ?_, hrun, hended, _, _, rfl, ?_, ⟨_, rfl⟩, hW, hsame.mono (by decide) (by decide)⟩
  · show Steps p.tables e below (s₁.setTop (mkF m 0 #[.val (.int p1)] [])) _
    refine XS.iconst X0.here hx rfl (hb hby d12_0) ?_
    show Steps p.tables e below (s₁.setTop (mkF m 1 #[.val (.int p1)] [(.int (1 : Int32))])) _
    refine st2 _ ?_
    show Steps p.tables e below (T2.setTop (mkF m 3 #[.val (.int p1)] [(.ref b2)])) _
    refine XS.dup X2.here hx rfl (hb hby d12_3) rfl rfl ?_
    show Steps p.tables e below (T2.setTop (mkF m 4 #[.val (.int p1)] [(.ref b2), (.ref b2)])) _
    refine XS.iconst X2.here hx rfl (hb hby d12_4) ?_
    show Steps p.tables e below (T2.setTop (mkF m 5 #[.val (.int p1)] [(.int (0 : Int32)), (.ref b2), (.ref b2)])) _
    refine XS.iloadN X2.here hx rfl (hb hby d12_5) rfl ?_
    show Steps p.tables e below (T2.setTop (mkF m 6 #[.val (.int p1)] [(.int p1), (.int (0 : Int32)), (.ref b2), (.ref b2)])) _
    refine XS.i2b X2.here hx rfl (hb hby d12_6) rfl ?_
    show Steps p.tables e below (T2.setTop (mkF m 7 #[.val (.int p1)] [(.int (p1.toInt8.toInt32)), (.int (0 : Int32)), (.ref b2), (.ref b2)])) _
    rw [← hi3]
    show Steps p.tables e below (T2.setTop (mkF m 7 #[.val (.int p1)] [(.int i3), (.int (0 : Int32)), (.ref b2), (.ref b2)])) _
    refine st6 _ ?_
    show Steps p.tables e below (T6.setTop (mkF m 8 #[.val (.int p1)] [(.ref b2)])) _
    jvm_step X6.here [X6.here.top, hx, (hb hby d12_8), X6.method', Bd.returns, Value.isRef, FieldType.isReference]
    first | (intro acts; rw [hr _ acts rfl rfl rfl]) | rw [hr _ _ rfl rfl rfl]
    exact Steps.refl _
  · show Q12_17 Z _ h0 n0 _ T6.heap _
    rw [e6]
    exact ⟨i3, b2, k2, hi3, rfl, N6, sz_b2, (Nat.lt_of_lt_of_le lt_b2 (Keep.of_wr W6).1), (((Keep.refl h0 []).ext E2).wr W6 (Or.inr sz_b2)), f7, V6⟩
theorem ef_rm13_18 (m : MethodId) (x0 : Addr) (x1 : Addr) : entryFrame m #[(.ref x0), (.ref x1), (.int (0 : Int32))] 3 = mkF m 0 #[.val (.ref x0), .val (.ref x1), .val (.int (0 : Int32))] [] := by first | (simp [entryFrame, mkF, argsToLocals, Value.category]; done) | rfl
def Q13_18 (Z : State) (a1 : Addr) (a2 : Addr) (h0 : Heap) (n0 : Nat) (v : Option Value) (h : Heap) (L : List Loc) : Prop := (v = none ∧ Fr n0 L ∧ Keep h0 h [a1] ∧ Exa Z h a1 "java/lang/String" ∧ Fld Z h a1 "java/lang/String" "coder" "B" (.int (0 : Int32)) ∧ Fld Z h a1 "java/lang/String" "value" "[B" (.ref a2))
set_option maxRecDepth 65536 in
set_option maxHeartbeats 40000000 in
theorem rm13_18 (l : Launch) (Z : State) (a0 : Array Value) (hw : ∀ d ∈ own_ws, d.before a0 Z = true) (ws : List Jvm.Cond) (a1 : Addr) (a2 : Addr) (h0 : Heap) (n0 : Nat) (O0 : Old Z n0 h0) (E_4 : Exa Z h0 a1 "java/lang/String") (F5 : Fld Z h0 a1 "java/lang/String" "coder" "B" (.int (0 : Int32))) (F6 : Fld Z h0 a1 "java/lang/String" "value" "[B" .null) (g_a1 : n0 ≤ a1) :
    MetFree l M_10 (head1 (Jvm.Cond.code M_10 jdk_42_method_151_code 3 none :: ws) ({ frames := 1, cells := 0, slots := 0, locals := 12 } : Room)) (fun a U => a = #[(.ref a1), (.ref a2), (.int (0 : Int32))] ∧ Z.Warmed39 U.vm ∧ U.heap = h0) (fun _ _ _ _ _ => True) (fun _ U o U' => ∃ v L, o = .returned v ∧ Q13_18 Z a1 a2 h0 n0 v U'.heap L ∧ FrameEnd U o U' L ({ frames := 1, cells := 0, slots := 0, locals := 12 } : Room).cells ({ frames := 1, cells := 0, slots := 0, locals := 12 } : Room).slots) := by
  refine MetFree.of_bodySF (plainFor_of_name pn_1) hisR ?_
  intro p e s m args below meth c s₁ Bd hml0 hP hK
  obtain ⟨rfl, hZ, hh⟩ := hP
  have hx := Bd.exec
  have hby := Bd.bytes
  have hml : c.maxLocals = 3 := hml0
  have hown : s.vm.findClass "java/lang/String" = some m.cls := findClass_of_methodNamed Bd.named
  have hnm := (name_of_methodNamed Bd.named Bd.method).1
  have X0 : Stand p l e ({ frames := 1, cells := 0, slots := 0, locals := 12 } : Room) s m #[(.ref a1), (.ref a2), (.int (0 : Int32))] below meth c s₁ [] 0 0 := Stand.of_body Bd
  have e0 : s₁.heap = h0 := by rw [← hh, Bd.state]; rfl
  have N0 := Fr.nil n0
  have pre0 : ∀ t, Steps p.tables e below (s₁.setTop (mkF m 0 #[.val (.ref a1), .val (.ref a2), .val (.int (0 : Int32))] [])) t → Steps p.tables e below (s₁.setTop (entryFrame m #[(.ref a1), (.ref a2), (.int (0 : Int32))] 3)) t := fun t k => castTop (ef_rm13_18 m a1 a2) k
  obtain ⟨T3, X3, e3, st3⟩ := initO X0 hx hZ hown (hw _ (gw 14 rfl)) (hw _ (gw 15 rfl)) (hw _ (gw 16 rfl)) e0 (g := (mkF m 1 #[.val (.ref a1), .val (.ref a2), .val (.int (0 : Int32))] [(.ref a1)])) rfl (by rw [hml]; rfl) rfl (hb hby d13_1) (by decide) (W := 0) (by show 2 * 0 + _ ≤ _; exact Nat.le_of_eq rfl) (by decide)
  obtain ⟨T7, h7, X7, e7, W7, st7⟩ := putF X3 hx hZ hown (host := "") (Or.inl (hw _ (gw 31 rfl))) Via.refl e3 F6 E_4 (Or.inr ⟨(hw _ (gw 32 rfl)), rfl, hnm⟩) (hw _ (gw 5 rfl)) (ty := (.array .byte)) (by decide) rfl rfl (g := (mkF m 6 #[.val (.ref a1), .val (.ref a2), .val (.int (0 : Int32))] [(.ref a2), (.ref a1)])) rfl rfl (hb hby d13_6)
  have O7 : Old Z n0 h7 := O0.wr W7 g_a1
  have Fw7 : Fld Z h7 a1 "java/lang/String" "value" "[B" (.ref a2) := Fld.same W7 F6
  have N7 := Fr.snoc X7 N0 g_a1
  have f8 : Fld Z h7 a1 "java/lang/String" "coder" "B" (.int (0 : Int32)) := (Fld.other W7 F5 (Or.inr (slot_ne (Or.inr (hw _ (gw 30 rfl))) (Or.inr (hw _ (gw 32 rfl))) (by decide) (t := .byte) (t' := (.array .byte)) (by decide) (by decide))))
  have f9 : Exa Z h7 a1 "java/lang/String" := (Exa.wr W7 E_4)
  obtain ⟨T10, h10, X10, e10, W10, st10⟩ := putFN X7 hx hZ hown (hw _ (gw 29 rfl)) Via.refl e7 f8 f9 (Or.inr ⟨(hw _ (gw 30 rfl)), rfl, hnm⟩) (hw _ (gw 5 rfl)) (ty := .byte) (v' := (.int (0 : Int32))) (by decide) (by exact congrArg Value.int (by decide +kernel : (nar .byte (0 : Int32)) = (0 : Int32))) ((by decide +kernel : (nar .byte (0 : Int32)) = (0 : Int32)) ▸ fits_nar_byte _) (g := (mkF m 11 #[.val (.ref a1), .val (.ref a2), .val (.int (0 : Int32))] [(.int (0 : Int32)), (.ref a1)])) rfl rfl (hb hby d13_11)
  have O10 : Old Z n0 h10 := O7.wr W10 g_a1
  have Fw10 : Fld Z h10 a1 "java/lang/String" "coder" "B" (.int (0 : Int32)) := Fld.same W10 f8
  have N10 := Fr.snoc X10 N7 g_a1
  obtain ⟨fs, hr, hrun, hended, hW, hsame⟩ := X10.leave (v := none) (fun _ => rfl)
  have f11 : Exa Z h10 a1 "java/lang/String" := (Exa.wr W10 f9)
  have f12 : Fld Z h10 a1 "java/lang/String" "value" "[B" (.ref a2) := (Fld.other W10 Fw7 (Or.inr (slot_ne (Or.inr (hw _ (gw 32 rfl))) (Or.inr (hw _ (gw 30 rfl))) (by decide) (t := (.array .byte)) (t' := .byte) (by decide) (by decide))))
  refine ⟨_, _, pre0 _ ?_, hrun, hended, _, _, rfl, ?_, ⟨_, rfl⟩, hW, hsame.mono (by decide) (by decide)⟩
  · show Steps p.tables e below (s₁.setTop (mkF m 0 #[.val (.ref a1), .val (.ref a2), .val (.int (0 : Int32))] [])) _
    refine XS.aloadN X0.here hx rfl (hb hby d13_0) rfl rfl ?_
    show Steps p.tables e below (s₁.setTop (mkF m 1 #[.val (.ref a1), .val (.ref a2), .val (.int (0 : Int32))] [(.ref a1)])) _
    refine st3 _ ?_
    show Steps p.tables e below (T3.setTop (mkF m 4 #[.val (.ref a1), .val (.ref a2), .val (.int (0 : Int32))] [])) _
    refine XS.aloadN X3.here hx rfl (hb hby d13_4) rfl rfl ?_
    show Steps p.tables e below (T3.setTop (mkF m 5 #[.val (.ref a1), .val (.ref a2), .val (.int (0 : Int32))] [(.ref a1)])) _
    refine XS.aloadN X3.here hx rfl (hb hby d13_5) rfl rfl ?_
    show Steps p.tables e below (T3.setTop (mkF m 6 #[.val (.ref a1), .val (.ref a2), .val (.int (0 : Int32))] [(.ref a2), (.ref a1)])) _
    refine st7 _ ?_
    show Steps p.tables e below (T7.setTop (mkF m 9 #[.val (.ref a1), .val (.ref a2), .val (.int (0 : Int32))] [])) _
    refine XS.aloadN X7.here hx rfl (hb hby d13_9) rfl rfl ?_
    show Steps p.tables e below (T7.setTop (mkF m 10 #[.val (.ref a1), .val (.ref a2), .val (.int (0 : Int32))] [(.ref a1)])) _
    refine XS.iloadN X7.here hx rfl (hb hby d13_10) rfl ?_
    show Steps p.tables e below (T7.setTop (mkF m 11 #[.val (.ref a1), .val (.ref a2), .val (.int (0 : Int32))] [(.int (0 : Int32)), (.ref a1)])) _
    refine st10 _ ?_
    show Steps p.tables e below (T10.setTop (mkF m 14 #[.val (.ref a1), .val (.ref a2), .val (.int (0 : Int32))] [])) _
    exact X10.returnOut hx Bd.returns (hb hby d13_14) hr
  · show Q13_18 Z _ _ h0 n0 _ T10.heap _
    rw [e10]
    exact ⟨rfl, N10, (((Keep.refl h0 [a1]).wr W7 (Or.inl (List.mem_of_getElem? (i := 0) rfl))).wr W10 (Or.inl (List.mem_of_getElem? (i := 0) rfl))), f11, Fw10, f12⟩
theorem ef_rm10_15 (m : MethodId) (x0 : Int32) : entryFrame m #[(.int x0)] 1 = mkF m 0 #[.val (.int x0)] [] := by first | (simp [entryFrame, mkF, argsToLocals, Value.category]; done) | rfl
def Q10_15 (Z : State) (p1 : Int32) (p2 : Int32) (h0 : Heap) (n0 : Nat) (v : Option Value) (h : Heap) (L : List Loc) : Prop := (∃ (i13 : Int32) (b11 : Addr) (b14 : Addr) (k15 : ClassId), i13 = (p1.toInt8.toInt32) ∧ v = some (.ref b11) ∧ Fr n0 L ∧ h0.size ≤ b11 ∧ b11 < h.size ∧ h0.size ≤ b14 ∧ b14 < h.size ∧ b11 ≠ b14 ∧ Keep h0 h [] ∧ Exa Z h b11 "java/lang/String" ∧ Fld Z h b11 "java/lang/String" "coder" "B" (.int (0 : Int32)) ∧ Fld Z h b11 "java/lang/String" "value" "[B" (.ref b14) ∧ Exa Z h b14 "[B" ∧ Arv Z h b14 k15 .byte (1 : Int32) [(.int i13)] (.int (0 : Int32)))
set_option maxRecDepth 65536 in
set_option maxHeartbeats 40000000 in
theorem rm10_15 (l : Launch) (Z : State) (a0 : Array Value) (hw : ∀ d ∈ own_ws, d.before a0 Z = true) (ws : List Jvm.Cond) (p1 : Int32) (p2 : Int32) (h0 : Heap) (n0 : Nat) (O0 : Old Z n0 h0) (S_3 : Sta Z Z.heap "java/lang/String" "COMPACT_STRINGS" "Z" (.int p2)) (hk5 : ¬ (p2 = (0 : Int32))) (hk6 : ¬ ((255 : Int32) < p1)) :
    MetFree l M_11 (head1 (Jvm.Cond.code M_11 jdk_42_method_139_code 1 (some (.object "java/lang/String")) :: ws) ({ frames := 2, cells := 2, slots := 5, locals := 27 } : Room)) (fun a U => a = #[(.int p1)] ∧ Z.Warmed39 U.vm ∧ U.heap = h0) (fun _ _ _ _ _ => True) (fun _ U o U' => ∃ v L, o = .returned v ∧ Q10_15 Z p1 p2 h0 n0 v U'.heap L ∧ FrameEnd U o U' L ({ frames := 2, cells := 2, slots := 5, locals := 27 } : Room).cells ({ frames := 2, cells := 2, slots := 5, locals := 27 } : Room).slots) := by
  refine MetFree.of_bodySF (plainFor_of_name pn_1) hisR ?_
  intro p e s m args below meth c s₁ Bd hml0 hP hK
  obtain ⟨rfl, hZ, hh⟩ := hP
  have hx := Bd.exec
  have hby := Bd.bytes
  have hml : c.maxLocals = 1 := hml0
  have hown : s.vm.findClass "java/lang/String" = some m.cls := findClass_of_methodNamed Bd.named
  have hnm := (name_of_methodNamed Bd.named Bd.method).1
  have X0 : Stand p l e ({ frames := 2, cells := 2, slots := 5, locals := 27 } : Room) s m #[(.int p1)] below meth c s₁ [] 0 0 := Stand.of_body Bd
  have e0 : s₁.heap = h0 := by rw [← hh, Bd.state]; rfl
  have N0 := Fr.nil n0
  have pre0 : ∀ t, Steps p.tables e below (s₁.setTop (mkF m 0 #[.val (.int p1)] [])) t → Steps p.tables e below (s₁.setTop (entryFrame m #[(.int p1)] 1)) t := fun t k => castTop (ef_rm10_15 m p1) k
  obtain ⟨T4, X4, e4, st4⟩ := getS2 X0 hx hZ hown (host := "") (Or.inl (hw _ (gw 17 rfl))) Via.refl e0 (Sta.ext O0.2 S_3) (g := (mkF m 0 #[.val (.int p1)] [])) rfl (hb hby d10_0)
  obtain ⟨_, _, ⟨T7, L7, k7, n7⟩, -, X7, ⟨Lc7, hQ7, l7, y7, z7⟩, st7⟩ := Jvm.LawKit.callS X4 hx (y := M_8) hown (mvT hZ (hw _ (gw 57 rfl))) (mvT hZ (hw _ (gw 58 rfl))) (mvT hZ (hw _ (gw 59 rfl))) (mvT hZ (hw _ (gw 60 rfl))) (by decide) (backOf (W := 0) (rm11_16 l Z a0 hw [] p1 h0 n0  O0 hk6) hZ (hw _ (gw 60 rfl)) (hw _ (gw 59 rfl)) (by decide) (by decide)) (g := (mkF m 7 #[.val (.int p1)] [(.int p1)])) rfl (by rw [hml]; rfl) (argsL := [(.int p1)]) (rest := []) (lenOf pd_8 rfl) rfl (by show 2 * 0 + _ ≤ _; exact Nat.le_of_eq rfl) (hb hby d10_7) (fun _ _ => ⟨rfl, e4, (by decide : 0 + 0 ≤ _), (by decide : 0 + 0 ≤ _)⟩)
  dsimp only [Pt.U, Pt.locs, Pt.cells, Pt.slots] at X7 l7 y7 z7 st7 hQ7
  subst l7 y7 z7
  obtain ⟨rfl, u9, u10⟩ := hQ7
  have N7 := Fr.app N0 u9
  obtain ⟨T11, h11, X11, e11, E11, A11, D11, -, st11⟩ := newO X7 hx hZ hown (hw _ (gw 61 rfl)) (hw _ (gw 5 rfl)) (hw _ (gw 6 rfl)) u10 (g := (mkF m 13 #[.val (.int p1)] [])) rfl (hb hby d10_13) (by decide) (by decide)
  obtain ⟨b11, g11⟩ : ∃ z, z = h0.size := ⟨_, rfl⟩
  rw [← g11] at A11 D11 st11
  have O11 : Old Z n0 h11 := O0.ext E11
  have bd_b11 : h0.size ≤ b11 := Nat.le_of_eq g11.symm
  have g_b11 : n0 ≤ b11 := Nat.le_trans (own_z O0) bd_b11
  have sz_b11 : h0.size ≤ b11 := Nat.le_trans (Nat.le_refl _) bd_b11
  have lt_b11 : b11 < h11.size := A11.lt
  have D11_30 : Fld Z h11 b11 "java/lang/String" "coder" "B" (.int (0 : Int32)) := D11 (Or.inr (hw _ (gw 30 rfl))) (ty := .byte) (by decide)
  have D11_32 : Fld Z h11 b11 "java/lang/String" "value" "[B" .null := D11 (Or.inr (hw _ (gw 32 rfl))) (ty := (.array .byte)) (by decide)
  obtain ⟨_, _, ⟨T12, L12, k12, n12⟩, -, X12, ⟨Lc12, hQ12, l12, y12, z12⟩, st12⟩ := Jvm.LawKit.callS X11 hx (y := M_9) hown (mvT hZ (hw _ (gw 62 rfl))) (mvT hZ (hw _ (gw 63 rfl))) (mvT hZ (hw _ (gw 59 rfl))) (mvT hZ (hw _ (gw 64 rfl))) (by decide) (backOf (W := 2) (rm12_17 l Z a0 hw [] p1 h11 n0  O11) hZ (hw _ (gw 64 rfl)) (hw _ (gw 59 rfl)) (by decide) (by decide)) (g := (mkF m 18 #[.val (.int p1)] [(.int p1), (.ref b11), (.ref b11)])) rfl (by rw [hml]; rfl) (argsL := [(.int p1)]) (rest := [(.ref b11), (.ref b11)]) (lenOf pd_9 rfl) rfl (by show 2 * 0 + _ ≤ _; exact Nat.le_of_eq rfl) (hb hby d10_18) (fun _ _ => ⟨rfl, e11, (by decide : 1 + 1 ≤ _), (by decide : 4 + 1 ≤ _)⟩)
  dsimp only [Pt.U, Pt.locs, Pt.cells, Pt.slots] at X12 l12 y12 z12 st12 hQ12
  subst l12 y12 z12
  obtain ⟨i13, b14, k15, u16, rfl, u18, u19, u20, Ku21, u22, u23⟩ := hQ12
  have Ou21 : Old Z n0 T12.heap := O11.keep Ku21 all0
  have g_b14 : n0 ≤ b14 := Nat.le_trans (own_z O11) u19
  have sz_b14 : h0.size ≤ b14 := Nat.le_trans E11.1 u19
  have N12 := Fr.app N7 u18
  have f24 : Exa Z T12.heap b11 "java/lang/String" := (A11.keep Ku21)
  have f25 : Fld Z T12.heap b11 "java/lang/String" "coder" "B" (.int (0 : Int32)) := (D11_30.keep Ku21 nin0)
  have f26 : Fld Z T12.heap b11 "java/lang/String" "value" "[B" .null := (D11_32.keep Ku21 nin0)
  obtain ⟨_, _, ⟨T27, L27, k27, n27⟩, -, X27, ⟨Lc27, hQ27, l27, y27, z27⟩, st27⟩ := X12.specialBack hx (y := M_10) rfl hown (mvT hZ (hw _ (gw 65 rfl))) (mvT hZ (hw _ (gw 66 rfl))) (mvT hZ (hw _ (gw 67 rfl))) (by decide) (backOf (W := 1) (rm13_18 l Z a0 hw [] b11 b14 T12.heap n0  Ou21 f24 f25 f26 g_b11) hZ (hw _ (gw 67 rfl)) (hw _ (gw 6 rfl)) (by decide) (by decide)) (g := (mkF m 22 #[.val (.int p1)] [(.int (0 : Int32)), (.ref b14), (.ref b11), (.ref b11)])) rfl (by rw [hml]; rfl) (Steps.refl _) (a := b11) (argsL := [(.ref b14), (.int (0 : Int32))]) (rest := [(.ref b11)]) (lenOf pd_10 rfl) rfl (by show 2 * 0 + _ ≤ _; exact Nat.le_of_eq rfl) (hb hby d10_22) (fun _ _ => ⟨rfl, rfl, (by decide : 2 + 0 ≤ _), (by decide : 5 + 0 ≤ _)⟩)
  dsimp only [Pt.U, Pt.locs, Pt.cells, Pt.slots] at X27 l27 y27 z27 st27 hQ27
  subst l27 y27 z27
  obtain ⟨rfl, u29, Ku30, u31, u32, u33⟩ := hQ27
  have Ou30 : Old Z n0 T27.heap := Ou21.keep Ku30 (allS g_b11 all0)
  have N27 := Fr.app N12 u29
  obtain ⟨fs, hr, hrun, hended, hW, hsame⟩ := X27.leave (v := some (.ref b11)) (fun h => by rw [Bd.returns] at h; cases h)
  have f34 : Exa Z T27.heap b14 "[B" := (u22.keep Ku30)
  have f35 : Arv Z T27.heap b14 k15 .byte (1 : Int32) [(.int i13)] (.int (0 : Int32)) := (u23.keep Ku30 (ninS (Ne.symm (Nat.ne_of_lt (Nat.lt_of_lt_of_le lt_b11 u19))) nin0))
  refine ⟨_, _, pre0 _ ?_, hrun, hended, _, _, rfl, ?_, ⟨_, rfl⟩, hW, hsame.mono (by decide) (by decide)⟩
  · show Steps p.tables e below (s₁.setTop (mkF m 0 #[.val (.int p1)] [])) _
    refine st4 _ ?_
    show Steps p.tables e below (T4.setTop (mkF m 3 #[.val (.int p1)] [(.int p2)])) _
    refine XS.ifNo X4.here hx rfl (hb hby d10_3) rfl ((if0 _ _).trans (feq hk5).1) ?_
    show Steps p.tables e below (T4.setTop (mkF m 6 #[.val (.int p1)] [])) _
    refine XS.iloadN X4.here hx rfl (hb hby d10_6) rfl ?_
    show Steps p.tables e below (T4.setTop (mkF m 7 #[.val (.int p1)] [(.int p1)])) _
    refine st7 _ ?_
    show Steps p.tables e below (T7.setTop (mkF m 10 #[.val (.int p1)] [(.int (1 : Int32))])) _
    refine XS.ifNo X7.here hx rfl (hb hby d10_10) rfl ((if0 _ _).trans (feq (by decide +kernel : ¬ ((1 : Int32) = (0 : Int32)))).1) ?_
    show Steps p.tables e below (T7.setTop (mkF m 13 #[.val (.int p1)] [])) _
    refine st11 _ ?_
    show Steps p.tables e below (T11.setTop (mkF m 16 #[.val (.int p1)] [(.ref b11)])) _
    refine XS.dup X11.here hx rfl (hb hby d10_16) rfl rfl ?_
    show Steps p.tables e below (T11.setTop (mkF m 17 #[.val (.int p1)] [(.ref b11), (.ref b11)])) _
    refine XS.iloadN X11.here hx rfl (hb hby d10_17) rfl ?_
    show Steps p.tables e below (T11.setTop (mkF m 18 #[.val (.int p1)] [(.int p1), (.ref b11), (.ref b11)])) _
    refine st12 _ ?_
    show Steps p.tables e below (T12.setTop (mkF m 21 #[.val (.int p1)] [(.ref b14), (.ref b11), (.ref b11)])) _
    refine XS.iconst X12.here hx rfl (hb hby d10_21) ?_
    show Steps p.tables e below (T12.setTop (mkF m 22 #[.val (.int p1)] [(.int (0 : Int32)), (.ref b14), (.ref b11), (.ref b11)])) _
    refine st27.trans ?_
    show Steps p.tables e below (T27.setTop (mkF m 25 #[.val (.int p1)] [(.ref b11)])) _
    jvm_step X27.here [X27.here.top, hx, (hb hby d10_25), X27.method', Bd.returns, Value.isRef, FieldType.isReference]
    first | (intro acts; rw [hr _ acts rfl rfl rfl]) | rw [hr _ _ rfl rfl rfl]
    exact Steps.refl _
  · show Q10_15 Z _ _ h0 n0 _ T27.heap _
    exact ⟨i13, b11, b14, k15, u16, rfl, N27, sz_b11, (Nat.lt_of_lt_of_le (Nat.lt_of_lt_of_le lt_b11 Ku21.1) Ku30.1), sz_b14, (Nat.lt_of_lt_of_le u20 Ku30.1), (Nat.ne_of_lt (Nat.lt_of_lt_of_le lt_b11 u19)), ((((Keep.refl h0 []).ext E11).trans Ku21 all0).trans Ku30 (allS (Or.inr sz_b11) all0)), u31, u32, u33, f34, f35⟩
theorem ef_rm15_19 (m : MethodId) (x0 : Addr) (x2 : Addr) (x3 : Addr) (x4 : Int32) : entryFrame m #[(.ref x0), .null, (.ref x2), (.ref x3), (.int x4)] 5 = mkF m 0 #[.val (.ref x0), .val .null, .val (.ref x2), .val (.ref x3), .val (.int x4)] [] := by first | (simp [entryFrame, mkF, argsToLocals, Value.category]; done) | rfl
def Q15_19 (Z : State) (a1 : Addr) (a2 : Addr) (a3 : Addr) (p4 : Int32) (h0 : Heap) (n0 : Nat) (v : Option Value) (h : Heap) (L : List Loc) : Prop := (v = none ∧ Fr n0 L ∧ Keep h0 h [a1] ∧ Exa Z h a1 "com/example/stemline/stemline/graph/Edge" ∧ Fld Z h a1 "com/example/stemline/stemline/graph/Edge" "file" "Ljava/lang/String;" (.ref a3) ∧ Fld Z h a1 "com/example/stemline/stemline/graph/Edge" "line" "I" (.int p4) ∧ Fld Z h a1 "com/example/stemline/stemline/graph/Edge" "source" "Lcom/example/stemline/stemline/model/ColumnSource;" .null ∧ Fld Z h a1 "com/example/stemline/stemline/graph/Edge" "target" "Lcom/example/stemline/stemline/model/TableColumn;" (.ref a2))
set_option maxRecDepth 65536 in
set_option maxHeartbeats 40000000 in
theorem rm15_19 (l : Launch) (Z : State) (a0 : Array Value) (hw : ∀ d ∈ own_ws, d.before a0 Z = true) (ws : List Jvm.Cond) (a1 : Addr) (a2 : Addr) (a3 : Addr) (p4 : Int32) (h0 : Heap) (n0 : Nat) (O0 : Old Z n0 h0) (E_19 : Exa Z h0 a1 "com/example/stemline/stemline/graph/Edge") (F20 : Fld Z h0 a1 "com/example/stemline/stemline/graph/Edge" "file" "Ljava/lang/String;" .null) (F21 : Fld Z h0 a1 "com/example/stemline/stemline/graph/Edge" "line" "I" (.int (0 : Int32))) (F22 : Fld Z h0 a1 "com/example/stemline/stemline/graph/Edge" "source" "Lcom/example/stemline/stemline/model/ColumnSource;" .null) (F23 : Fld Z h0 a1 "com/example/stemline/stemline/graph/Edge" "target" "Lcom/example/stemline/stemline/model/TableColumn;" .null) (g_a1 : n0 ≤ a1) :
    MetFree l M_12 (head1 (Jvm.Cond.code M_12 prog_23_method_1_code 5 none :: ws) ({ frames := 2, cells := 4, slots := 48, locals := 24 } : Room)) (fun a U => a = #[(.ref a1), .null, (.ref a2), (.ref a3), (.int p4)] ∧ Z.Warmed39 U.vm ∧ U.heap = h0) (fun _ _ _ _ _ => True) (fun _ U o U' => ∃ v L, o = .returned v ∧ Q15_19 Z a1 a2 a3 p4 h0 n0 v U'.heap L ∧ ReturnedEndW U o U' L ({ frames := 2, cells := 4, slots := 48, locals := 24 } : Room).cells ({ frames := 2, cells := 4, slots := 48, locals := 24 } : Room).slots) := by
  refine MetFree.of_bodySF (plainFor_of_name pn_6) hisR ?_
  intro p e s m args below meth c s₁ Bd hml0 hP hK
  obtain ⟨rfl, hZ, hh⟩ := hP
  have hx := Bd.exec
  have hby := Bd.bytes
  have hml : c.maxLocals = 5 := hml0
  have hown : s.vm.findClass "com/example/stemline/stemline/graph/Edge" = some m.cls := findClass_of_methodNamed Bd.named
  have hnm := (name_of_methodNamed Bd.named Bd.method).1
  have X0 : Stand p l e ({ frames := 2, cells := 4, slots := 48, locals := 24 } : Room) s m #[(.ref a1), .null, (.ref a2), (.ref a3), (.int p4)] below meth c s₁ [] 0 0 := Stand.of_body Bd
  have e0 : s₁.heap = h0 := by rw [← hh, Bd.state]; rfl
  have N0 := Fr.nil n0
  have Y0 : h0.size ≤ h0.size := Nat.le_refl _
  have hS0 : s.Since s.vm h0.size := (State.WarmedH.refl s).since _
  have pre0 : ∀ t, Steps p.tables e below (s₁.setTop (mkF m 0 #[.val (.ref a1), .val .null, .val (.ref a2), .val (.ref a3), .val (.int p4)] [])) t → Steps p.tables e below (s₁.setTop (entryFrame m #[(.ref a1), .null, (.ref a2), (.ref a3), (.int p4)] 5)) t := fun t k => castTop (ef_rm15_19 m a1 a2 a3 p4) k
  obtain ⟨_, _, ⟨T5, L5, k5, n5⟩, -, X5, ⟨Lc5, hQ5, l5, y5, z5⟩, st5⟩ := X0.specialBack hx (y := M_5) rfl hown (mvT hZ (hw _ (gw 93 rfl))) (mvT hZ (hw _ (gw 37 rfl))) (mvT hZ (hw _ (gw 40 rfl))) (by decide) (backOf (W := 0) (rm8_13 l Z a0 hw [] a1 h0 n0  O0) hZ (hw _ (gw 40 rfl)) (hw _ (gw 39 rfl)) (by decide) (by decide)) (g := (mkF m 1 #[.val (.ref a1), .val .null, .val (.ref a2), .val (.ref a3), .val (.int p4)] [(.ref a1)])) rfl (by rw [hml]; rfl) (Steps.refl _) (a := a1) (argsL := []) (rest := []) (lenOf pd_5 rfl) rfl (by show 2 * 0 + _ ≤ _; exact Nat.le_of_eq rfl) (hb hby d15_1) (fun _ _ => ⟨rfl, e0, (by decide : 0 + 0 ≤ _), (by decide : 0 + 0 ≤ _)⟩)
  dsimp only [Pt.U, Pt.locs, Pt.cells, Pt.slots] at X5 l5 y5 z5 st5 hQ5
  subst l5 y5 z5
  obtain ⟨rfl, u7, u8⟩ := hQ5
  have N5 := Fr.app N0 u7
  obtain ⟨a9, T9, h9, k9, X9, e9, E9, hS9, hk9, hZ9, hown9, st9⟩ := ldcS (s := s) (vm0 := s.vm) X5 hx hZ hown (hw _ (gw 94 rfl)) (own_wS hw) u8 hS0 Y0 (g := (mkF m 5 #[.val (.ref a1), .val .null, .val (.ref a2), .val (.ref a3), .val (.int p4)] [(.ref a2)])) rfl (hb hby d15_5) (n := 24) (by decide +kernel) (by decide) (by decide) (by decide)
  have O9 : Old Z n0 h9 := O0.ext E9
  obtain ⟨_, _, ⟨T10, L10, k10, n10⟩, -, X10, ⟨Lc10, hQ10, l10, y10, z10⟩, st10⟩ := Jvm.LawKit.callS X9 hx (y := M_6) hown9 (mvT hZ9 (hw _ (gw 95 rfl))) (mvT hZ9 (hw _ (gw 46 rfl))) (mvT hZ9 (hw _ (gw 47 rfl))) (mvT hZ9 (hw _ (gw 48 rfl))) (by decide) (backOf (W := 0) (rm9_14 l Z a0 hw [] a2 a9 h9 n0  O9) hZ9 (hw _ (gw 48 rfl)) (hw _ (gw 47 rfl)) (by decide) (by decide)) (g := (mkF m 7 #[.val (.ref a1), .val .null, .val (.ref a2), .val (.ref a3), .val (.int p4)] [(.ref a9), (.ref a2)])) rfl (by rw [hml]; rfl) (argsL := [(.ref a2), (.ref a9)]) (rest := []) (lenOf pd_6 rfl) rfl (by show 2 * 0 + _ ≤ _; exact Nat.le_of_eq rfl) (hb hby d15_7) (fun _ _ => ⟨rfl, e9, (by decide : 2 + 0 ≤ _), (by decide : 28 + 0 ≤ _)⟩)
  dsimp only [Pt.U, Pt.locs, Pt.cells, Pt.slots] at X10 l10 y10 z10 st10 hQ10
  subst l10 y10 z10
  obtain ⟨rfl, u12, u13⟩ := hQ10
  have N10 := Fr.app N5 u12
  obtain ⟨a14, T14, h14, k14, X14, e14, E14, hS14, hk14, hZ14, hown14, st14⟩ := ldcS (s := s) (vm0 := T9.vm) X10 hx hZ9 hown9 (hw _ (gw 96 rfl)) (own_wS hw) u13 hS9 hk9 (g := (mkF m 12 #[.val (.ref a1), .val .null, .val (.ref a2), .val (.ref a3), .val (.int p4)] [(.ref a3)])) rfl (hb hby d15_12) (n := 16) (by decide +kernel) (by decide) (by decide) (by decide)
  have O14 : Old Z n0 h14 := O9.ext E14
  obtain ⟨_, _, ⟨T15, L15, k15, n15⟩, -, X15, ⟨Lc15, hQ15, l15, y15, z15⟩, st15⟩ := Jvm.LawKit.callS X14 hx (y := M_6) hown14 (mvT hZ14 (hw _ (gw 95 rfl))) (mvT hZ14 (hw _ (gw 46 rfl))) (mvT hZ14 (hw _ (gw 47 rfl))) (mvT hZ14 (hw _ (gw 48 rfl))) (by decide) (backOf (W := 0) (rm9_14 l Z a0 hw [] a3 a14 h14 n0  O14) hZ14 (hw _ (gw 48 rfl)) (hw _ (gw 47 rfl)) (by decide) (by decide)) (g := (mkF m 14 #[.val (.ref a1), .val .null, .val (.ref a2), .val (.ref a3), .val (.int p4)] [(.ref a14), (.ref a3)])) rfl (by rw [hml]; rfl) (argsL := [(.ref a3), (.ref a14)]) (rest := []) (lenOf pd_6 rfl) rfl (by show 2 * 0 + _ ≤ _; exact Nat.le_of_eq rfl) (hb hby d15_14) (fun _ _ => ⟨rfl, e14, (by decide : 4 + 0 ≤ _), (by decide : 48 + 0 ≤ _)⟩)
  dsimp only [Pt.U, Pt.locs, Pt.cells, Pt.slots] at X15 l15 y15 z15 st15 hQ15
  subst l15 y15 z15
  obtain ⟨rfl, u17, u18⟩ := hQ15
  have N15 := Fr.app N10 u17
  have f24 : Fld Z h14 a1 "com/example/stemline/stemline/graph/Edge" "source" "Lcom/example/stemline/stemline/model/ColumnSource;" .null := (Fld.ext E14 (Fld.ext E9 F22))
  have f25 : Exa Z h14 a1 "com/example/stemline/stemline/graph/Edge" := (Exa.ext E14 (Exa.ext E9 E_19))
  obtain ⟨T26, h26, X26, e26, W26, st26⟩ := putF X15 hx hZ14 hown14 (host := "") (Or.inl (hw _ (gw 97 rfl))) Via.refl u18 f24 f25 (Or.inr ⟨(hw _ (gw 98 rfl)), rfl, hnm⟩) (hw _ (gw 88 rfl)) (ty := (.object "com/example/stemline/stemline/model/ColumnSource")) (by decide) rfl rfl (g := (mkF m 20 #[.val (.ref a1), .val .null, .val (.ref a2), .val (.ref a3), .val (.int p4)] [.null, (.ref a1)])) rfl rfl (hb hby d15_20)
  have O26 : Old Z n0 h26 := O14.wr W26 g_a1
  have Fw26 : Fld Z h26 a1 "com/example/stemline/stemline/graph/Edge" "source" "Lcom/example/stemline/stemline/model/ColumnSource;" .null := Fld.same W26 f24
  have N26 := Fr.snoc X26 N15 g_a1
  have f27 : Fld Z h26 a1 "com/example/stemline/stemline/graph/Edge" "target" "Lcom/example/stemline/stemline/model/TableColumn;" .null := (Fld.other W26 (Fld.ext E14 (Fld.ext E9 F23)) (Or.inr (slot_ne (Or.inr (hw _ (gw 100 rfl))) (Or.inr (hw _ (gw 98 rfl))) (by decide) (t := (.object "com/example/stemline/stemline/model/TableColumn")) (t' := (.object "com/example/stemline/stemline/model/ColumnSource")) (by decide) (by decide))))
  have f28 : Exa Z h26 a1 "com/example/stemline/stemline/graph/Edge" := (Exa.wr W26 f25)
  obtain ⟨T29, h29, X29, e29, W29, st29⟩ := putF X26 hx hZ14 hown14 (host := "") (Or.inl (hw _ (gw 99 rfl))) Via.refl e26 f27 f28 (Or.inr ⟨(hw _ (gw 100 rfl)), rfl, hnm⟩) (hw _ (gw 88 rfl)) (ty := (.object "com/example/stemline/stemline/model/TableColumn")) (by decide) rfl rfl (g := (mkF m 25 #[.val (.ref a1), .val .null, .val (.ref a2), .val (.ref a3), .val (.int p4)] [(.ref a2), (.ref a1)])) rfl rfl (hb hby d15_25)
  have O29 : Old Z n0 h29 := O26.wr W29 g_a1
  have Fw29 : Fld Z h29 a1 "com/example/stemline/stemline/graph/Edge" "target" "Lcom/example/stemline/stemline/model/TableColumn;" (.ref a2) := Fld.same W29 f27
  have N29 := Fr.snoc X29 N26 g_a1
  have f30 : Fld Z h29 a1 "com/example/stemline/stemline/graph/Edge" "file" "Ljava/lang/String;" .null := (Fld.other W29 (Fld.other W26 (Fld.ext E14 (Fld.ext E9 F20)) (Or.inr (slot_ne (Or.inr (hw _ (gw 102 rfl))) (Or.inr (hw _ (gw 98 rfl))) (by decide) (t := (.object "java/lang/String")) (t' := (.object "com/example/stemline/stemline/model/ColumnSource")) (by decide) (by decide)))) (Or.inr (slot_ne (Or.inr (hw _ (gw 102 rfl))) (Or.inr (hw _ (gw 100 rfl))) (by decide) (t := (.object "java/lang/String")) (t' := (.object "com/example/stemline/stemline/model/TableColumn")) (by decide) (by decide))))
  have f31 : Exa Z h29 a1 "com/example/stemline/stemline/graph/Edge" := (Exa.wr W29 f28)
  obtain ⟨T32, h32, X32, e32, W32, st32⟩ := putF X29 hx hZ14 hown14 (host := "") (Or.inl (hw _ (gw 101 rfl))) Via.refl e29 f30 f31 (Or.inr ⟨(hw _ (gw 102 rfl)), rfl, hnm⟩) (hw _ (gw 88 rfl)) (ty := (.object "java/lang/String")) (by decide) rfl rfl (g := (mkF m 30 #[.val (.ref a1), .val .null, .val (.ref a2), .val (.ref a3), .val (.int p4)] [(.ref a3), (.ref a1)])) rfl rfl (hb hby d15_30)
  have O32 : Old Z n0 h32 := O29.wr W32 g_a1
  have Fw32 : Fld Z h32 a1 "com/example/stemline/stemline/graph/Edge" "file" "Ljava/lang/String;" (.ref a3) := Fld.same W32 f30
  have N32 := Fr.snoc X32 N29 g_a1
  have f33 : Fld Z h32 a1 "com/example/stemline/stemline/graph/Edge" "line" "I" (.int (0 : Int32)) := (Fld.other W32 (Fld.other W29 (Fld.other W26 (Fld.ext E14 (Fld.ext E9 F21)) (Or.inr (slot_ne (Or.inr (hw _ (gw 104 rfl))) (Or.inr (hw _ (gw 98 rfl))) (by decide) (t := .int) (t' := (.object "com/example/stemline/stemline/model/ColumnSource")) (by decide) (by decide)))) (Or.inr (slot_ne (Or.inr (hw _ (gw 104 rfl))) (Or.inr (hw _ (gw 100 rfl))) (by decide) (t := .int) (t' := (.object "com/example/stemline/stemline/model/TableColumn")) (by decide) (by decide)))) (Or.inr (slot_ne (Or.inr (hw _ (gw 104 rfl))) (Or.inr (hw _ (gw 102 rfl))) (by decide) (t := .int) (t' := (.object "java/lang/String")) (by decide) (by decide))))
  have f34 : Exa Z h32 a1 "com/example/stemline/stemline/graph/Edge" := (Exa.wr W32 f31)
  obtain ⟨T35, h35, X35, e35, W35, st35⟩ := putF X32 hx hZ14 hown14 (host := "") (Or.inl (hw _ (gw 103 rfl))) Via.refl e32 f33 f34 (Or.inr ⟨(hw _ (gw 104 rfl)), rfl, hnm⟩) (hw _ (gw 88 rfl)) (ty := .int) (by decide) rfl rfl (g := (mkF m 36 #[.val (.ref a1), .val .null, .val (.ref a2), .val (.ref a3), .val (.int p4)] [(.int p4), (.ref a1)])) rfl rfl (hb hby d15_36)
  have O35 : Old Z n0 h35 := O32.wr W35 g_a1
  have Fw35 : Fld Z h35 a1 "com/example/stemline/stemline/graph/Edge" "line" "I" (.int p4) := Fld.same W35 f33
  have N35 := Fr.snoc X35 N32 g_a1
  obtain ⟨fs, hr, hrun, hended, hEnd⟩ := X35.leaveW (s := s) (vm₁ := T14.vm) hS14 (by rw [e35]; exact (Nat.le_trans (Nat.le_trans (Nat.le_trans (Nat.le_trans hk14 (Keep.of_wr W26).1) (Keep.of_wr W29).1) (Keep.of_wr W32).1) (Keep.of_wr W35).1)) (v := none) (fun _ => rfl)
  have f36 : Exa Z h35 a1 "com/example/stemline/stemline/graph/Edge" := (Exa.wr W35 f34)
  have f37 : Fld Z h35 a1 "com/example/stemline/stemline/graph/Edge" "file" "Ljava/lang/String;" (.ref a3) := (Fld.other W35 Fw32 (Or.inr (slot_ne (Or.inr (hw _ (gw 102 rfl))) (Or.inr (hw _ (gw 104 rfl))) (by decide) (t := (.object "java/lang/String")) (t' := .int) (by decide) (by decide))))
  have f38 : Fld Z h35 a1 "com/example/stemline/stemline/graph/Edge" "source" "Lcom/example/stemline/stemline/model/ColumnSource;" .null := (Fld.other W35 (Fld.other W32 (Fld.other W29 Fw26 (Or.inr (slot_ne (Or.inr (hw _ (gw 98 rfl))) (Or.inr (hw _ (gw 100 rfl))) (by decide) (t := (.object "com/example/stemline/stemline/model/ColumnSource")) (t' := (.object "com/example/stemline/stemline/model/TableColumn")) (by decide) (by decide)))) (Or.inr (slot_ne (Or.inr (hw _ (gw 98 rfl))) (Or.inr (hw _ (gw 102 rfl))) (by decide) (t := (.object "com/example/stemline/stemline/model/ColumnSource")) (t' := (.object "java/lang/String")) (by decide) (by decide)))) (Or.inr (slot_ne (Or.inr (hw _ (gw 98 rfl))) (Or.inr (hw _ (gw 104 rfl))) (by decide) (t := (.object "com/example/stemline/stemline/model/ColumnSource")) (t' := .int) (by decide) (by decide))))
  have f39 : Fld Z h35 a1 "com/example/stemline/stemline/graph/Edge" "target" "Lcom/example/stemline/stemline/model/TableColumn;" (.ref a2) := (Fld.other W35 (Fld.other W32 Fw29 (Or.inr (slot_ne (Or.inr (hw _ (gw 100 rfl))) (Or.inr (hw _ (gw 102 rfl))) (by decide) (t := (.object "com/example/stemline/stemline/model/TableColumn")) (t' := (.object "java/lang/String")) (by decide) (by decide)))) (Or.inr (slot_ne (Or.inr (hw _ (gw 100 rfl))) (Or.inr (hw _ (gw 104 rfl))) (by decide) (t := (.object "com/example/stemline/stemline/model/TableColumn")) (t' := .int) (by decide) (by decide))))
  refine ⟨_, _, pre0 _ ?_, hrun, hended, _, _, rfl, ?_, hEnd.1, hEnd.2.1, hEnd.2.2.1, hEnd.2.2.2.mono (by decide) (by decide)⟩
  · show Steps p.tables e below (s₁.setTop (mkF m 0 #[.val (.ref a1), .val .null, .val (.ref a2), .val (.ref a3), .val (.int p4)] [])) _
    refine XS.aloadN X0.here hx rfl (hb hby d15_0) rfl rfl ?_
    show Steps p.tables e below (s₁.setTop (mkF m 1 #[.val (.ref a1), .val .null, .val (.ref a2), .val (.ref a3), .val (.int p4)] [(.ref a1)])) _
    refine st5.trans ?_
    show Steps p.tables e below (T5.setTop (mkF m 4 #[.val (.ref a1), .val .null, .val (.ref a2), .val (.ref a3), .val (.int p4)] [])) _
    refine XS.aloadN X5.here hx rfl (hb hby d15_4) rfl rfl ?_
    show Steps p.tables e below (T5.setTop (mkF m 5 #[.val (.ref a1), .val .null, .val (.ref a2), .val (.ref a3), .val (.int p4)] [(.ref a2)])) _
    refine st9 _ ?_
    show Steps p.tables e below (T9.setTop (mkF m 7 #[.val (.ref a1), .val .null, .val (.ref a2), .val (.ref a3), .val (.int p4)] [(.ref a9), (.ref a2)])) _
    refine st10 _ ?_
    show Steps p.tables e below (T10.setTop (mkF m 10 #[.val (.ref a1), .val .null, .val (.ref a2), .val (.ref a3), .val (.int p4)] [(.ref a2)])) _
    refine XS.pop X10.here hx rfl (hb hby d15_10) rfl rfl ?_
    show Steps p.tables e below (T10.setTop (mkF m 11 #[.val (.ref a1), .val .null, .val (.ref a2), .val (.ref a3), .val (.int p4)] [])) _
    refine XS.aloadN X10.here hx rfl (hb hby d15_11) rfl rfl ?_
    show Steps p.tables e below (T10.setTop (mkF m 12 #[.val (.ref a1), .val .null, .val (.ref a2), .val (.ref a3), .val (.int p4)] [(.ref a3)])) _
    refine st14 _ ?_
    show Steps p.tables e below (T14.setTop (mkF m 14 #[.val (.ref a1), .val .null, .val (.ref a2), .val (.ref a3), .val (.int p4)] [(.ref a14), (.ref a3)])) _
    refine st15 _ ?_
    show Steps p.tables e below (T15.setTop (mkF m 17 #[.val (.ref a1), .val .null, .val (.ref a2), .val (.ref a3), .val (.int p4)] [(.ref a3)])) _
    refine XS.pop X15.here hx rfl (hb hby d15_17) rfl rfl ?_
    show Steps p.tables e below (T15.setTop (mkF m 18 #[.val (.ref a1), .val .null, .val (.ref a2), .val (.ref a3), .val (.int p4)] [])) _
    refine XS.aloadN X15.here hx rfl (hb hby d15_18) rfl rfl ?_
    show Steps p.tables e below (T15.setTop (mkF m 19 #[.val (.ref a1), .val .null, .val (.ref a2), .val (.ref a3), .val (.int p4)] [(.ref a1)])) _
    refine XS.aloadN X15.here hx rfl (hb hby d15_19) rfl rfl ?_
    show Steps p.tables e below (T15.setTop (mkF m 20 #[.val (.ref a1), .val .null, .val (.ref a2), .val (.ref a3), .val (.int p4)] [.null, (.ref a1)])) _
    refine st26 _ ?_
    show Steps p.tables e below (T26.setTop (mkF m 23 #[.val (.ref a1), .val .null, .val (.ref a2), .val (.ref a3), .val (.int p4)] [])) _
    refine XS.aloadN X26.here hx rfl (hb hby d15_23) rfl rfl ?_
    show Steps p.tables e below (T26.setTop (mkF m 24 #[.val (.ref a1), .val .null, .val (.ref a2), .val (.ref a3), .val (.int p4)] [(.ref a1)])) _
    refine XS.aloadN X26.here hx rfl (hb hby d15_24) rfl rfl ?_
    show Steps p.tables e below (T26.setTop (mkF m 25 #[.val (.ref a1), .val .null, .val (.ref a2), .val (.ref a3), .val (.int p4)] [(.ref a2), (.ref a1)])) _
    refine st29 _ ?_
    show Steps p.tables e below (T29.setTop (mkF m 28 #[.val (.ref a1), .val .null, .val (.ref a2), .val (.ref a3), .val (.int p4)] [])) _
    refine XS.aloadN X29.here hx rfl (hb hby d15_28) rfl rfl ?_
    show Steps p.tables e below (T29.setTop (mkF m 29 #[.val (.ref a1), .val .null, .val (.ref a2), .val (.ref a3), .val (.int p4)] [(.ref a1)])) _
    refine XS.aloadN X29.here hx rfl (hb hby d15_29) rfl rfl ?_
    show Steps p.tables e below (T29.setTop (mkF m 30 #[.val (.ref a1), .val .null, .val (.ref a2), .val (.ref a3), .val (.int p4)] [(.ref a3), (.ref a1)])) _
    refine st32 _ ?_
    show Steps p.tables e below (T32.setTop (mkF m 33 #[.val (.ref a1), .val .null, .val (.ref a2), .val (.ref a3), .val (.int p4)] [])) _
    refine XS.aloadN X32.here hx rfl (hb hby d15_33) rfl rfl ?_
    show Steps p.tables e below (T32.setTop (mkF m 34 #[.val (.ref a1), .val .null, .val (.ref a2), .val (.ref a3), .val (.int p4)] [(.ref a1)])) _
    refine XS.iload X32.here hx rfl (hb hby d15_34) rfl ?_
    show Steps p.tables e below (T32.setTop (mkF m 36 #[.val (.ref a1), .val .null, .val (.ref a2), .val (.ref a3), .val (.int p4)] [(.int p4), (.ref a1)])) _
    refine st35 _ ?_
    show Steps p.tables e below (T35.setTop (mkF m 39 #[.val (.ref a1), .val .null, .val (.ref a2), .val (.ref a3), .val (.int p4)] [])) _
    exact X35.returnOut hx Bd.returns (hb hby d15_39) hr
  · show Q15_19 Z _ _ _ _ h0 n0 _ T35.heap _
    rw [e35]
    exact ⟨rfl, N35, (((((((Keep.refl h0 [a1]).ext E9).ext E14).wr W26 (Or.inl (List.mem_of_getElem? (i := 0) rfl))).wr W29 (Or.inl (List.mem_of_getElem? (i := 0) rfl))).wr W32 (Or.inl (List.mem_of_getElem? (i := 0) rfl))).wr W35 (Or.inl (List.mem_of_getElem? (i := 0) rfl))), f36, f37, Fw35, f38, f39⟩
theorem ef_rm16_20 (m : MethodId) (x0 : Addr) : entryFrame m #[(.ref x0)] 1 = mkF m 0 #[.val (.ref x0)] [] := by first | (simp [entryFrame, mkF, argsToLocals, Value.category]; done) | rfl
def Q16_20 (Z : State) (a1 : Addr) (h0 : Heap) (n0 : Nat) (v : Option Value) (h : Heap) (L : List Loc) : Prop := (v = some .null ∧ Fr n0 L ∧ h = h0)
set_option maxRecDepth 65536 in
set_option maxHeartbeats 40000000 in
theorem rm16_20 (l : Launch) (Z : State) (a0 : Array Value) (hw : ∀ d ∈ own_ws, d.before a0 Z = true) (ws : List Jvm.Cond) (a1 : Addr) (h0 : Heap) (n0 : Nat) (O0 : Old Z n0 h0) (F2 : Fld Z h0 a1 "com/example/stemline/stemline/graph/Edge" "source" "Lcom/example/stemline/stemline/model/ColumnSource;" .null) :
    MetFree l M_13 (head1 (Jvm.Cond.code M_13 prog_23_method_2_code 1 (some (.object "com/example/stemline/stemline/model/TableColumn")) :: ws) ({ frames := 0, cells := 0, slots := 0, locals := 0 } : Room)) (fun a U => a = #[(.ref a1)] ∧ Z.Warmed39 U.vm ∧ U.heap = h0) (fun _ _ _ _ _ => True) (fun _ U o U' => ∃ v L, o = .returned v ∧ Q16_20 Z a1 h0 n0 v U'.heap L ∧ FrameEnd U o U' L ({ frames := 0, cells := 0, slots := 0, locals := 0 } : Room).cells ({ frames := 0, cells := 0, slots := 0, locals := 0 } : Room).slots) := by
  refine MetFree.of_bodySF (plainFor_of_name pn_6) hisR ?_
  intro p e s m args below meth c s₁ Bd hml0 hP hK
  obtain ⟨rfl, hZ, hh⟩ := hP
  have hx := Bd.exec
  have hby := Bd.bytes
  have hml : c.maxLocals = 1 := hml0
  have hown : s.vm.findClass "com/example/stemline/stemline/graph/Edge" = some m.cls := findClass_of_methodNamed Bd.named
  have hnm := (name_of_methodNamed Bd.named Bd.method).1
  have X0 : Stand p l e ({ frames := 0, cells := 0, slots := 0, locals := 0 } : Room) s m #[(.ref a1)] below meth c s₁ [] 0 0 := Stand.of_body Bd
  have e0 : s₁.heap = h0 := by rw [← hh, Bd.state]; rfl
  have N0 := Fr.nil n0
  have pre0 : ∀ t, Steps p.tables e below (s₁.setTop (mkF m 0 #[.val (.ref a1)] [])) t → Steps p.tables e below (s₁.setTop (entryFrame m #[(.ref a1)] 1)) t := fun t k => castTop (ef_rm16_20 m a1) k
  obtain ⟨T3, X3, e3, st3⟩ := getF X0 hx hZ hown (host := "") (Or.inl (hw _ (gw 97 rfl))) Via.refl e0 F2 (g := (mkF m 1 #[.val (.ref a1)] [(.ref a1)])) rfl rfl (hb hby d16_1)
  obtain ⟨fs, hr, hrun, hended, hW, hsame⟩ := X3.leave (v := some .null) (fun h => by rw [Bd.returns] at h; cases h)
  refine ⟨_, _, pre0 _ ?_, hrun, hended, _, _, rfl, ?_, ⟨_, rfl⟩, hW, hsame.mono (by decide) (by decide)⟩
  · show Steps p.tables e below (s₁.setTop (mkF m 0 #[.val (.ref a1)] [])) _
    refine XS.aloadN X0.here hx rfl (hb hby d16_0) rfl rfl ?_
    show Steps p.tables e below (s₁.setTop (mkF m 1 #[.val (.ref a1)] [(.ref a1)])) _
    refine st3 _ ?_
    show Steps p.tables e below (T3.setTop (mkF m 4 #[.val (.ref a1)] [.null])) _
    refine XS.ifnonnullNo X3.here hx rfl (hb hby d16_4) rfl ?_
    show Steps p.tables e below (T3.setTop (mkF m 7 #[.val (.ref a1)] [])) _
    refine XS.aconstNull X3.here hx rfl (hb hby d16_7) ?_
    show Steps p.tables e below (T3.setTop (mkF m 8 #[.val (.ref a1)] [.null])) _
    refine XS.goto X3.here hx rfl (pc0 := 8) (pc' := 18) rfl (hb hby d16_8) (by decide) (by decide) ?_
    show Steps p.tables e below (T3.setTop (mkF m 18 #[.val (.ref a1)] [.null])) _
    jvm_step X3.here [X3.here.top, hx, (hb hby d16_18), X3.method', Bd.returns, Value.isRef, FieldType.isReference]
    first | (intro acts; rw [hr _ acts rfl rfl rfl]) | rw [hr _ _ rfl rfl rfl]
    exact Steps.refl _
  · show Q16_20 Z _ h0 n0 _ T3.heap _
    rw [e3]
    exact ⟨rfl, N0, rfl⟩
theorem ef_rm14_21 (m : MethodId) (x0 : Addr) (x1 : Addr) (x2 : Addr) : entryFrame m #[(.ref x0), (.ref x1), (.ref x2), .null] 4 = mkF m 0 #[.val (.ref x0), .val (.ref x1), .val (.ref x2), .val .null] [] := by first | (simp [entryFrame, mkF, argsToLocals, Value.category]; done) | rfl
def Q14_21 (Z : State) (a1 : Addr) (a2 : Addr) (a3 : Addr) (h0 : Heap) (n0 : Nat) (v : Option Value) (h : Heap) (L : List Loc) : Prop := (v = none ∧ Fr n0 L ∧ Keep h0 h [a1] ∧ Exa Z h a1 "com/example/stemline/stemline/model/ColumnSource" ∧ Fld Z h a1 "com/example/stemline/stemline/model/ColumnSource" "column" "Lcom/example/stemline/stemline/model/TableColumn;" (.ref a2) ∧ Fld Z h a1 "com/example/stemline/stemline/model/ColumnSource" "expression" "Ljava/lang/String;" .null ∧ Fld Z h a1 "com/example/stemline/stemline/model/ColumnSource" "kind" "Lcom/example/stemline/stemline/model/SourceKind;" (.ref a3))
set_option maxRecDepth 65536 in
set_option maxHeartbeats 40000000 in
theorem rm14_21 (l : Launch) (Z : State) (a0 : Array Value) (hw : ∀ d ∈ own_ws, d.before a0 Z = true) (ws : List Jvm.Cond) (a1 : Addr) (a2 : Addr) (a3 : Addr) (h0 : Heap) (n0 : Nat) (O0 : Old Z n0 h0) (E_18 : Exa Z h0 a1 "com/example/stemline/stemline/model/ColumnSource") (F19 : Fld Z h0 a1 "com/example/stemline/stemline/model/ColumnSource" "column" "Lcom/example/stemline/stemline/model/TableColumn;" .null) (F20 : Fld Z h0 a1 "com/example/stemline/stemline/model/ColumnSource" "expression" "Ljava/lang/String;" .null) (F21 : Fld Z h0 a1 "com/example/stemline/stemline/model/ColumnSource" "kind" "Lcom/example/stemline/stemline/model/SourceKind;" .null) (g_a1 : n0 ≤ a1) :
    MetFree l M_14 (head1 (Jvm.Cond.code M_14 prog_40_method_1_code 4 none :: ws) ({ frames := 2, cells := 4, slots := 48, locals := 24 } : Room)) (fun a U => a = #[(.ref a1), (.ref a2), (.ref a3), .null] ∧ Z.Warmed39 U.vm ∧ U.heap = h0) (fun _ _ _ _ _ => True) (fun _ U o U' => ∃ v L, o = .returned v ∧ Q14_21 Z a1 a2 a3 h0 n0 v U'.heap L ∧ ReturnedEndW U o U' L ({ frames := 2, cells := 4, slots := 48, locals := 24 } : Room).cells ({ frames := 2, cells := 4, slots := 48, locals := 24 } : Room).slots) := by
  refine MetFree.of_bodySF (plainFor_of_name pn_7) hisR ?_
  intro p e s m args below meth c s₁ Bd hml0 hP hK
  obtain ⟨rfl, hZ, hh⟩ := hP
  have hx := Bd.exec
  have hby := Bd.bytes
  have hml : c.maxLocals = 4 := hml0
  have hown : s.vm.findClass "com/example/stemline/stemline/model/ColumnSource" = some m.cls := findClass_of_methodNamed Bd.named
  have hnm := (name_of_methodNamed Bd.named Bd.method).1
  have X0 : Stand p l e ({ frames := 2, cells := 4, slots := 48, locals := 24 } : Room) s m #[(.ref a1), (.ref a2), (.ref a3), .null] below meth c s₁ [] 0 0 := Stand.of_body Bd
  have e0 : s₁.heap = h0 := by rw [← hh, Bd.state]; rfl
  have N0 := Fr.nil n0
  have Y0 : h0.size ≤ h0.size := Nat.le_refl _
  have hS0 : s.Since s.vm h0.size := (State.WarmedH.refl s).since _
  have pre0 : ∀ t, Steps p.tables e below (s₁.setTop (mkF m 0 #[.val (.ref a1), .val (.ref a2), .val (.ref a3), .val .null] [])) t → Steps p.tables e below (s₁.setTop (entryFrame m #[(.ref a1), (.ref a2), (.ref a3), .null] 4)) t := fun t k => castTop (ef_rm14_21 m a1 a2 a3) k
  obtain ⟨_, _, ⟨T4, L4, k4, n4⟩, -, X4, ⟨Lc4, hQ4, l4, y4, z4⟩, st4⟩ := X0.specialBack hx (y := M_5) rfl hown (mvT hZ (hw _ (gw 77 rfl))) (mvT hZ (hw _ (gw 37 rfl))) (mvT hZ (hw _ (gw 40 rfl))) (by decide) (backOf (W := 0) (rm8_13 l Z a0 hw [] a1 h0 n0  O0) hZ (hw _ (gw 40 rfl)) (hw _ (gw 39 rfl)) (by decide) (by decide)) (g := (mkF m 1 #[.val (.ref a1), .val (.ref a2), .val (.ref a3), .val .null] [(.ref a1)])) rfl (by rw [hml]; rfl) (Steps.refl _) (a := a1) (argsL := []) (rest := []) (lenOf pd_5 rfl) rfl (by show 2 * 0 + _ ≤ _; exact Nat.le_of_eq rfl) (hb hby d14_1) (fun _ _ => ⟨rfl, e0, (by decide : 0 + 0 ≤ _), (by decide : 0 + 0 ≤ _)⟩)
  dsimp only [Pt.U, Pt.locs, Pt.cells, Pt.slots] at X4 l4 y4 z4 st4 hQ4
  subst l4 y4 z4
  obtain ⟨rfl, u6, u7⟩ := hQ4
  have N4 := Fr.app N0 u6
  obtain ⟨a8, T8, h8, k8, X8, e8, E8, hS8, hk8, hZ8, hown8, st8⟩ := ldcS (s := s) (vm0 := s.vm) X4 hx hZ hown (hw _ (gw 78 rfl)) (own_wS hw) u7 hS0 Y0 (g := (mkF m 5 #[.val (.ref a1), .val (.ref a2), .val (.ref a3), .val .null] [(.ref a2)])) rfl (hb hby d14_5) (n := 24) (by decide +kernel) (by decide) (by decide) (by decide)
  have O8 : Old Z n0 h8 := O0.ext E8
  obtain ⟨_, _, ⟨T9, L9, k9, n9⟩, -, X9, ⟨Lc9, hQ9, l9, y9, z9⟩, st9⟩ := Jvm.LawKit.callS X8 hx (y := M_6) hown8 (mvT hZ8 (hw _ (gw 79 rfl))) (mvT hZ8 (hw _ (gw 46 rfl))) (mvT hZ8 (hw _ (gw 47 rfl))) (mvT hZ8 (hw _ (gw 48 rfl))) (by decide) (backOf (W := 0) (rm9_14 l Z a0 hw [] a2 a8 h8 n0  O8) hZ8 (hw _ (gw 48 rfl)) (hw _ (gw 47 rfl)) (by decide) (by decide)) (g := (mkF m 7 #[.val (.ref a1), .val (.ref a2), .val (.ref a3), .val .null] [(.ref a8), (.ref a2)])) rfl (by rw [hml]; rfl) (argsL := [(.ref a2), (.ref a8)]) (rest := []) (lenOf pd_6 rfl) rfl (by show 2 * 0 + _ ≤ _; exact Nat.le_of_eq rfl) (hb hby d14_7) (fun _ _ => ⟨rfl, e8, (by decide : 2 + 0 ≤ _), (by decide : 28 + 0 ≤ _)⟩)
  dsimp only [Pt.U, Pt.locs, Pt.cells, Pt.slots] at X9 l9 y9 z9 st9 hQ9
  subst l9 y9 z9
  obtain ⟨rfl, u11, u12⟩ := hQ9
  have N9 := Fr.app N4 u11
  obtain ⟨a13, T13, h13, k13, X13, e13, E13, hS13, hk13, hZ13, hown13, st13⟩ := ldcS (s := s) (vm0 := T8.vm) X9 hx hZ8 hown8 (hw _ (gw 80 rfl)) (own_wS hw) u12 hS8 hk8 (g := (mkF m 12 #[.val (.ref a1), .val (.ref a2), .val (.ref a3), .val .null] [(.ref a3)])) rfl (hb hby d14_12) (n := 16) (by decide +kernel) (by decide) (by decide) (by decide)
  have O13 : Old Z n0 h13 := O8.ext E13
  obtain ⟨_, _, ⟨T14, L14, k14, n14⟩, -, X14, ⟨Lc14, hQ14, l14, y14, z14⟩, st14⟩ := Jvm.LawKit.callS X13 hx (y := M_6) hown13 (mvT hZ13 (hw _ (gw 79 rfl))) (mvT hZ13 (hw _ (gw 46 rfl))) (mvT hZ13 (hw _ (gw 47 rfl))) (mvT hZ13 (hw _ (gw 48 rfl))) (by decide) (backOf (W := 0) (rm9_14 l Z a0 hw [] a3 a13 h13 n0  O13) hZ13 (hw _ (gw 48 rfl)) (hw _ (gw 47 rfl)) (by decide) (by decide)) (g := (mkF m 14 #[.val (.ref a1), .val (.ref a2), .val (.ref a3), .val .null] [(.ref a13), (.ref a3)])) rfl (by rw [hml]; rfl) (argsL := [(.ref a3), (.ref a13)]) (rest := []) (lenOf pd_6 rfl) rfl (by show 2 * 0 + _ ≤ _; exact Nat.le_of_eq rfl) (hb hby d14_14) (fun _ _ => ⟨rfl, e13, (by decide : 4 + 0 ≤ _), (by decide : 48 + 0 ≤ _)⟩)
  dsimp only [Pt.U, Pt.locs, Pt.cells, Pt.slots] at X14 l14 y14 z14 st14 hQ14
  subst l14 y14 z14
  obtain ⟨rfl, u16, u17⟩ := hQ14
  have N14 := Fr.app N9 u16
  have f22 : Fld Z h13 a1 "com/example/stemline/stemline/model/ColumnSource" "column" "Lcom/example/stemline/stemline/model/TableColumn;" .null := (Fld.ext E13 (Fld.ext E8 F19))
  have f23 : Exa Z h13 a1 "com/example/stemline/stemline/model/ColumnSource" := (Exa.ext E13 (Exa.ext E8 E_18))
  obtain ⟨T24, h24, X24, e24, W24, st24⟩ := putF X14 hx hZ13 hown13 (host := "") (Or.inl (hw _ (gw 81 rfl))) Via.refl u17 f22 f23 (Or.inr ⟨(hw _ (gw 82 rfl)), rfl, hnm⟩) (hw _ (gw 72 rfl)) (ty := (.object "com/example/stemline/stemline/model/TableColumn")) (by decide) rfl rfl (g := (mkF m 20 #[.val (.ref a1), .val (.ref a2), .val (.ref a3), .val .null] [(.ref a2), (.ref a1)])) rfl rfl (hb hby d14_20)
  have O24 : Old Z n0 h24 := O13.wr W24 g_a1
  have Fw24 : Fld Z h24 a1 "com/example/stemline/stemline/model/ColumnSource" "column" "Lcom/example/stemline/stemline/model/TableColumn;" (.ref a2) := Fld.same W24 f22
  have N24 := Fr.snoc X24 N14 g_a1
  have f25 : Fld Z h24 a1 "com/example/stemline/stemline/model/ColumnSource" "kind" "Lcom/example/stemline/stemline/model/SourceKind;" .null := (Fld.other W24 (Fld.ext E13 (Fld.ext E8 F21)) (Or.inr (slot_ne (Or.inr (hw _ (gw 84 rfl))) (Or.inr (hw _ (gw 82 rfl))) (by decide) (t := (.object "com/example/stemline/stemline/model/SourceKind")) (t' := (.object "com/example/stemline/stemline/model/TableColumn")) (by decide) (by decide))))
  have f26 : Exa Z h24 a1 "com/example/stemline/stemline/model/ColumnSource" := (Exa.wr W24 f23)
  obtain ⟨T27, h27, X27, e27, W27, st27⟩ := putF X24 hx hZ13 hown13 (host := "") (Or.inl (hw _ (gw 83 rfl))) Via.refl e24 f25 f26 (Or.inr ⟨(hw _ (gw 84 rfl)), rfl, hnm⟩) (hw _ (gw 72 rfl)) (ty := (.object "com/example/stemline/stemline/model/SourceKind")) (by decide) rfl rfl (g := (mkF m 25 #[.val (.ref a1), .val (.ref a2), .val (.ref a3), .val .null] [(.ref a3), (.ref a1)])) rfl rfl (hb hby d14_25)
  have O27 : Old Z n0 h27 := O24.wr W27 g_a1
  have Fw27 : Fld Z h27 a1 "com/example/stemline/stemline/model/ColumnSource" "kind" "Lcom/example/stemline/stemline/model/SourceKind;" (.ref a3) := Fld.same W27 f25
  have N27 := Fr.snoc X27 N24 g_a1
  have f28 : Fld Z h27 a1 "com/example/stemline/stemline/model/ColumnSource" "expression" "Ljava/lang/String;" .null := (Fld.other W27 (Fld.other W24 (Fld.ext E13 (Fld.ext E8 F20)) (Or.inr (slot_ne (Or.inr (hw _ (gw 86 rfl))) (Or.inr (hw _ (gw 82 rfl))) (by decide) (t := (.object "java/lang/String")) (t' := (.object "com/example/stemline/stemline/model/TableColumn")) (by decide) (by decide)))) (Or.inr (slot_ne (Or.inr (hw _ (gw 86 rfl))) (Or.inr (hw _ (gw 84 rfl))) (by decide) (t := (.object "java/lang/String")) (t' := (.object "com/example/stemline/stemline/model/SourceKind")) (by decide) (by decide))))
  have f29 : Exa Z h27 a1 "com/example/stemline/stemline/model/ColumnSource" := (Exa.wr W27 f26)
  obtain ⟨T30, h30, X30, e30, W30, st30⟩ := putF X27 hx hZ13 hown13 (host := "") (Or.inl (hw _ (gw 85 rfl))) Via.refl e27 f28 f29 (Or.inr ⟨(hw _ (gw 86 rfl)), rfl, hnm⟩) (hw _ (gw 72 rfl)) (ty := (.object "java/lang/String")) (by decide) rfl rfl (g := (mkF m 30 #[.val (.ref a1), .val (.ref a2), .val (.ref a3), .val .null] [.null, (.ref a1)])) rfl rfl (hb hby d14_30)
  have O30 : Old Z n0 h30 := O27.wr W30 g_a1
  have Fw30 : Fld Z h30 a1 "com/example/stemline/stemline/model/ColumnSource" "expression" "Ljava/lang/String;" .null := Fld.same W30 f28
  have N30 := Fr.snoc X30 N27 g_a1
  obtain ⟨fs, hr, hrun, hended, hEnd⟩ := X30.leaveW (s := s) (vm₁ := T13.vm) hS13 (by rw [e30]; exact (Nat.le_trans (Nat.le_trans (Nat.le_trans hk13 (Keep.of_wr W24).1) (Keep.of_wr W27).1) (Keep.of_wr W30).1)) (v := none) (fun _ => rfl)
  have f31 : Exa Z h30 a1 "com/example/stemline/stemline/model/ColumnSource" := (Exa.wr W30 f29)
  have f32 : Fld Z h30 a1 "com/example/stemline/stemline/model/ColumnSource" "column" "Lcom/example/stemline/stemline/model/TableColumn;" (.ref a2) := (Fld.other W30 (Fld.other W27 Fw24 (Or.inr (slot_ne (Or.inr (hw _ (gw 82 rfl))) (Or.inr (hw _ (gw 84 rfl))) (by decide) (t := (.object "com/example/stemline/stemline/model/TableColumn")) (t' := (.object "com/example/stemline/stemline/model/SourceKind")) (by decide) (by decide)))) (Or.inr (slot_ne (Or.inr (hw _ (gw 82 rfl))) (Or.inr (hw _ (gw 86 rfl))) (by decide) (t := (.object "com/example/stemline/stemline/model/TableColumn")) (t' := (.object "java/lang/String")) (by decide) (by decide))))
  have f33 : Fld Z h30 a1 "com/example/stemline/stemline/model/ColumnSource" "kind" "Lcom/example/stemline/stemline/model/SourceKind;" (.ref a3) := (Fld.other W30 Fw27 (Or.inr (slot_ne (Or.inr (hw _ (gw 84 rfl))) (Or.inr (hw _ (gw 86 rfl))) (by decide) (t := (.object "com/example/stemline/stemline/model/SourceKind")) (t' := (.object "java/lang/String")) (by decide) (by decide))))
  refine ⟨_, _, pre0 _ ?_, hrun, hended, _, _, rfl, ?_, hEnd.1, hEnd.2.1, hEnd.2.2.1, hEnd.2.2.2.mono (by decide) (by decide)⟩
  · show Steps p.tables e below (s₁.setTop (mkF m 0 #[.val (.ref a1), .val (.ref a2), .val (.ref a3), .val .null] [])) _
    refine XS.aloadN X0.here hx rfl (hb hby d14_0) rfl rfl ?_
    show Steps p.tables e below (s₁.setTop (mkF m 1 #[.val (.ref a1), .val (.ref a2), .val (.ref a3), .val .null] [(.ref a1)])) _
    refine st4.trans ?_
    show Steps p.tables e below (T4.setTop (mkF m 4 #[.val (.ref a1), .val (.ref a2), .val (.ref a3), .val .null] [])) _
    refine XS.aloadN X4.here hx rfl (hb hby d14_4) rfl rfl ?_
    show Steps p.tables e below (T4.setTop (mkF m 5 #[.val (.ref a1), .val (.ref a2), .val (.ref a3), .val .null] [(.ref a2)])) _
    refine st8 _ ?_
    show Steps p.tables e below (T8.setTop (mkF m 7 #[.val (.ref a1), .val (.ref a2), .val (.ref a3), .val .null] [(.ref a8), (.ref a2)])) _
    refine st9 _ ?_
    show Steps p.tables e below (T9.setTop (mkF m 10 #[.val (.ref a1), .val (.ref a2), .val (.ref a3), .val .null] [(.ref a2)])) _
    refine XS.pop X9.here hx rfl (hb hby d14_10) rfl rfl ?_
    show Steps p.tables e below (T9.setTop (mkF m 11 #[.val (.ref a1), .val (.ref a2), .val (.ref a3), .val .null] [])) _
    refine XS.aloadN X9.here hx rfl (hb hby d14_11) rfl rfl ?_
    show Steps p.tables e below (T9.setTop (mkF m 12 #[.val (.ref a1), .val (.ref a2), .val (.ref a3), .val .null] [(.ref a3)])) _
    refine st13 _ ?_
    show Steps p.tables e below (T13.setTop (mkF m 14 #[.val (.ref a1), .val (.ref a2), .val (.ref a3), .val .null] [(.ref a13), (.ref a3)])) _
    refine st14 _ ?_
    show Steps p.tables e below (T14.setTop (mkF m 17 #[.val (.ref a1), .val (.ref a2), .val (.ref a3), .val .null] [(.ref a3)])) _
    refine XS.pop X14.here hx rfl (hb hby d14_17) rfl rfl ?_
    show Steps p.tables e below (T14.setTop (mkF m 18 #[.val (.ref a1), .val (.ref a2), .val (.ref a3), .val .null] [])) _
    refine XS.aloadN X14.here hx rfl (hb hby d14_18) rfl rfl ?_
    show Steps p.tables e below (T14.setTop (mkF m 19 #[.val (.ref a1), .val (.ref a2), .val (.ref a3), .val .null] [(.ref a1)])) _
    refine XS.aloadN X14.here hx rfl (hb hby d14_19) rfl rfl ?_
    show Steps p.tables e below (T14.setTop (mkF m 20 #[.val (.ref a1), .val (.ref a2), .val (.ref a3), .val .null] [(.ref a2), (.ref a1)])) _
    refine st24 _ ?_
    show Steps p.tables e below (T24.setTop (mkF m 23 #[.val (.ref a1), .val (.ref a2), .val (.ref a3), .val .null] [])) _
    refine XS.aloadN X24.here hx rfl (hb hby d14_23) rfl rfl ?_
    show Steps p.tables e below (T24.setTop (mkF m 24 #[.val (.ref a1), .val (.ref a2), .val (.ref a3), .val .null] [(.ref a1)])) _
    refine XS.aloadN X24.here hx rfl (hb hby d14_24) rfl rfl ?_
    show Steps p.tables e below (T24.setTop (mkF m 25 #[.val (.ref a1), .val (.ref a2), .val (.ref a3), .val .null] [(.ref a3), (.ref a1)])) _
    refine st27 _ ?_
    show Steps p.tables e below (T27.setTop (mkF m 28 #[.val (.ref a1), .val (.ref a2), .val (.ref a3), .val .null] [])) _
    refine XS.aloadN X27.here hx rfl (hb hby d14_28) rfl rfl ?_
    show Steps p.tables e below (T27.setTop (mkF m 29 #[.val (.ref a1), .val (.ref a2), .val (.ref a3), .val .null] [(.ref a1)])) _
    refine XS.aloadN X27.here hx rfl (hb hby d14_29) rfl rfl ?_
    show Steps p.tables e below (T27.setTop (mkF m 30 #[.val (.ref a1), .val (.ref a2), .val (.ref a3), .val .null] [.null, (.ref a1)])) _
    refine st30 _ ?_
    show Steps p.tables e below (T30.setTop (mkF m 33 #[.val (.ref a1), .val (.ref a2), .val (.ref a3), .val .null] [])) _
    exact X30.returnOut hx Bd.returns (hb hby d14_33) hr
  · show Q14_21 Z _ _ _ h0 n0 _ T30.heap _
    rw [e30]
    exact ⟨rfl, N30, ((((((Keep.refl h0 [a1]).ext E8).ext E13).wr W24 (Or.inl (List.mem_of_getElem? (i := 0) rfl))).wr W27 (Or.inl (List.mem_of_getElem? (i := 0) rfl))).wr W30 (Or.inl (List.mem_of_getElem? (i := 0) rfl))), f31, f32, Fw30, f33⟩
theorem ef_rm15_22 (m : MethodId) (x0 : Addr) (x1 : Addr) (x2 : Addr) (x3 : Addr) (x4 : Int32) : entryFrame m #[(.ref x0), (.ref x1), (.ref x2), (.ref x3), (.int x4)] 5 = mkF m 0 #[.val (.ref x0), .val (.ref x1), .val (.ref x2), .val (.ref x3), .val (.int x4)] [] := by first | (simp [entryFrame, mkF, argsToLocals, Value.category]; done) | rfl
def Q15_22 (Z : State) (a1 : Addr) (a2 : Addr) (a3 : Addr) (a4 : Addr) (p5 : Int32) (h0 : Heap) (n0 : Nat) (v : Option Value) (h : Heap) (L : List Loc) : Prop := (v = none ∧ Fr n0 L ∧ Keep h0 h [a1] ∧ Exa Z h a1 "com/example/stemline/stemline/graph/Edge" ∧ Fld Z h a1 "com/example/stemline/stemline/graph/Edge" "file" "Ljava/lang/String;" (.ref a4) ∧ Fld Z h a1 "com/example/stemline/stemline/graph/Edge" "line" "I" (.int p5) ∧ Fld Z h a1 "com/example/stemline/stemline/graph/Edge" "source" "Lcom/example/stemline/stemline/model/ColumnSource;" (.ref a2) ∧ Fld Z h a1 "com/example/stemline/stemline/graph/Edge" "target" "Lcom/example/stemline/stemline/model/TableColumn;" (.ref a3))
set_option maxRecDepth 65536 in
set_option maxHeartbeats 40000000 in
theorem rm15_22 (l : Launch) (Z : State) (a0 : Array Value) (hw : ∀ d ∈ own_ws, d.before a0 Z = true) (ws : List Jvm.Cond) (a1 : Addr) (a2 : Addr) (a3 : Addr) (a4 : Addr) (p5 : Int32) (h0 : Heap) (n0 : Nat) (O0 : Old Z n0 h0) (E_20 : Exa Z h0 a1 "com/example/stemline/stemline/graph/Edge") (F21 : Fld Z h0 a1 "com/example/stemline/stemline/graph/Edge" "file" "Ljava/lang/String;" .null) (F22 : Fld Z h0 a1 "com/example/stemline/stemline/graph/Edge" "line" "I" (.int (0 : Int32))) (F23 : Fld Z h0 a1 "com/example/stemline/stemline/graph/Edge" "source" "Lcom/example/stemline/stemline/model/ColumnSource;" .null) (F24 : Fld Z h0 a1 "com/example/stemline/stemline/graph/Edge" "target" "Lcom/example/stemline/stemline/model/TableColumn;" .null) (g_a1 : n0 ≤ a1) :
    MetFree l M_12 (head1 (Jvm.Cond.code M_12 prog_23_method_1_code 5 none :: ws) ({ frames := 2, cells := 4, slots := 48, locals := 24 } : Room)) (fun a U => a = #[(.ref a1), (.ref a2), (.ref a3), (.ref a4), (.int p5)] ∧ Z.Warmed39 U.vm ∧ U.heap = h0) (fun _ _ _ _ _ => True) (fun _ U o U' => ∃ v L, o = .returned v ∧ Q15_22 Z a1 a2 a3 a4 p5 h0 n0 v U'.heap L ∧ ReturnedEndW U o U' L ({ frames := 2, cells := 4, slots := 48, locals := 24 } : Room).cells ({ frames := 2, cells := 4, slots := 48, locals := 24 } : Room).slots) := by
  refine MetFree.of_bodySF (plainFor_of_name pn_6) hisR ?_
  intro p e s m args below meth c s₁ Bd hml0 hP hK
  obtain ⟨rfl, hZ, hh⟩ := hP
  have hx := Bd.exec
  have hby := Bd.bytes
  have hml : c.maxLocals = 5 := hml0
  have hown : s.vm.findClass "com/example/stemline/stemline/graph/Edge" = some m.cls := findClass_of_methodNamed Bd.named
  have hnm := (name_of_methodNamed Bd.named Bd.method).1
  have X0 : Stand p l e ({ frames := 2, cells := 4, slots := 48, locals := 24 } : Room) s m #[(.ref a1), (.ref a2), (.ref a3), (.ref a4), (.int p5)] below meth c s₁ [] 0 0 := Stand.of_body Bd
  have e0 : s₁.heap = h0 := by rw [← hh, Bd.state]; rfl
  have N0 := Fr.nil n0
  have Y0 : h0.size ≤ h0.size := Nat.le_refl _
  have hS0 : s.Since s.vm h0.size := (State.WarmedH.refl s).since _
  have pre0 : ∀ t, Steps p.tables e below (s₁.setTop (mkF m 0 #[.val (.ref a1), .val (.ref a2), .val (.ref a3), .val (.ref a4), .val (.int p5)] [])) t → Steps p.tables e below (s₁.setTop (entryFrame m #[(.ref a1), (.ref a2), (.ref a3), (.ref a4), (.int p5)] 5)) t := fun t k => castTop (ef_rm15_22 m a1 a2 a3 a4 p5) k
  obtain ⟨_, _, ⟨T6, L6, k6, n6⟩, -, X6, ⟨Lc6, hQ6, l6, y6, z6⟩, st6⟩ := X0.specialBack hx (y := M_5) rfl hown (mvT hZ (hw _ (gw 93 rfl))) (mvT hZ (hw _ (gw 37 rfl))) (mvT hZ (hw _ (gw 40 rfl))) (by decide) (backOf (W := 0) (rm8_13 l Z a0 hw [] a1 h0 n0  O0) hZ (hw _ (gw 40 rfl)) (hw _ (gw 39 rfl)) (by decide) (by decide)) (g := (mkF m 1 #[.val (.ref a1), .val (.ref a2), .val (.ref a3), .val (.ref a4), .val (.int p5)] [(.ref a1)])) rfl (by rw [hml]; rfl) (Steps.refl _) (a := a1) (argsL := []) (rest := []) (lenOf pd_5 rfl) rfl (by show 2 * 0 + _ ≤ _; exact Nat.le_of_eq rfl) (hb hby d15_1) (fun _ _ => ⟨rfl, e0, (by decide : 0 + 0 ≤ _), (by decide : 0 + 0 ≤ _)⟩)
  dsimp only [Pt.U, Pt.locs, Pt.cells, Pt.slots] at X6 l6 y6 z6 st6 hQ6
  subst l6 y6 z6
  obtain ⟨rfl, u8, u9⟩ := hQ6
  have N6 := Fr.app N0 u8
  obtain ⟨a10, T10, h10, k10, X10, e10, E10, hS10, hk10, hZ10, hown10, st10⟩ := ldcS (s := s) (vm0 := s.vm) X6 hx hZ hown (hw _ (gw 94 rfl)) (own_wS hw) u9 hS0 Y0 (g := (mkF m 5 #[.val (.ref a1), .val (.ref a2), .val (.ref a3), .val (.ref a4), .val (.int p5)] [(.ref a3)])) rfl (hb hby d15_5) (n := 24) (by decide +kernel) (by decide) (by decide) (by decide)
  have O10 : Old Z n0 h10 := O0.ext E10
  obtain ⟨_, _, ⟨T11, L11, k11, n11⟩, -, X11, ⟨Lc11, hQ11, l11, y11, z11⟩, st11⟩ := Jvm.LawKit.callS X10 hx (y := M_6) hown10 (mvT hZ10 (hw _ (gw 95 rfl))) (mvT hZ10 (hw _ (gw 46 rfl))) (mvT hZ10 (hw _ (gw 47 rfl))) (mvT hZ10 (hw _ (gw 48 rfl))) (by decide) (backOf (W := 0) (rm9_14 l Z a0 hw [] a3 a10 h10 n0  O10) hZ10 (hw _ (gw 48 rfl)) (hw _ (gw 47 rfl)) (by decide) (by decide)) (g := (mkF m 7 #[.val (.ref a1), .val (.ref a2), .val (.ref a3), .val (.ref a4), .val (.int p5)] [(.ref a10), (.ref a3)])) rfl (by rw [hml]; rfl) (argsL := [(.ref a3), (.ref a10)]) (rest := []) (lenOf pd_6 rfl) rfl (by show 2 * 0 + _ ≤ _; exact Nat.le_of_eq rfl) (hb hby d15_7) (fun _ _ => ⟨rfl, e10, (by decide : 2 + 0 ≤ _), (by decide : 28 + 0 ≤ _)⟩)
  dsimp only [Pt.U, Pt.locs, Pt.cells, Pt.slots] at X11 l11 y11 z11 st11 hQ11
  subst l11 y11 z11
  obtain ⟨rfl, u13, u14⟩ := hQ11
  have N11 := Fr.app N6 u13
  obtain ⟨a15, T15, h15, k15, X15, e15, E15, hS15, hk15, hZ15, hown15, st15⟩ := ldcS (s := s) (vm0 := T10.vm) X11 hx hZ10 hown10 (hw _ (gw 96 rfl)) (own_wS hw) u14 hS10 hk10 (g := (mkF m 12 #[.val (.ref a1), .val (.ref a2), .val (.ref a3), .val (.ref a4), .val (.int p5)] [(.ref a4)])) rfl (hb hby d15_12) (n := 16) (by decide +kernel) (by decide) (by decide) (by decide)
  have O15 : Old Z n0 h15 := O10.ext E15
  obtain ⟨_, _, ⟨T16, L16, k16, n16⟩, -, X16, ⟨Lc16, hQ16, l16, y16, z16⟩, st16⟩ := Jvm.LawKit.callS X15 hx (y := M_6) hown15 (mvT hZ15 (hw _ (gw 95 rfl))) (mvT hZ15 (hw _ (gw 46 rfl))) (mvT hZ15 (hw _ (gw 47 rfl))) (mvT hZ15 (hw _ (gw 48 rfl))) (by decide) (backOf (W := 0) (rm9_14 l Z a0 hw [] a4 a15 h15 n0  O15) hZ15 (hw _ (gw 48 rfl)) (hw _ (gw 47 rfl)) (by decide) (by decide)) (g := (mkF m 14 #[.val (.ref a1), .val (.ref a2), .val (.ref a3), .val (.ref a4), .val (.int p5)] [(.ref a15), (.ref a4)])) rfl (by rw [hml]; rfl) (argsL := [(.ref a4), (.ref a15)]) (rest := []) (lenOf pd_6 rfl) rfl (by show 2 * 0 + _ ≤ _; exact Nat.le_of_eq rfl) (hb hby d15_14) (fun _ _ => ⟨rfl, e15, (by decide : 4 + 0 ≤ _), (by decide : 48 + 0 ≤ _)⟩)
  dsimp only [Pt.U, Pt.locs, Pt.cells, Pt.slots] at X16 l16 y16 z16 st16 hQ16
  subst l16 y16 z16
  obtain ⟨rfl, u18, u19⟩ := hQ16
  have N16 := Fr.app N11 u18
  have f25 : Fld Z h15 a1 "com/example/stemline/stemline/graph/Edge" "source" "Lcom/example/stemline/stemline/model/ColumnSource;" .null := (Fld.ext E15 (Fld.ext E10 F23))
  have f26 : Exa Z h15 a1 "com/example/stemline/stemline/graph/Edge" := (Exa.ext E15 (Exa.ext E10 E_20))
  obtain ⟨T27, h27, X27, e27, W27, st27⟩ := putF X16 hx hZ15 hown15 (host := "") (Or.inl (hw _ (gw 97 rfl))) Via.refl u19 f25 f26 (Or.inr ⟨(hw _ (gw 98 rfl)), rfl, hnm⟩) (hw _ (gw 88 rfl)) (ty := (.object "com/example/stemline/stemline/model/ColumnSource")) (by decide) rfl rfl (g := (mkF m 20 #[.val (.ref a1), .val (.ref a2), .val (.ref a3), .val (.ref a4), .val (.int p5)] [(.ref a2), (.ref a1)])) rfl rfl (hb hby d15_20)
  have O27 : Old Z n0 h27 := O15.wr W27 g_a1
  have Fw27 : Fld Z h27 a1 "com/example/stemline/stemline/graph/Edge" "source" "Lcom/example/stemline/stemline/model/ColumnSource;" (.ref a2) := Fld.same W27 f25
  have N27 := Fr.snoc X27 N16 g_a1
  have f28 : Fld Z h27 a1 "com/example/stemline/stemline/graph/Edge" "target" "Lcom/example/stemline/stemline/model/TableColumn;" .null := (Fld.other W27 (Fld.ext E15 (Fld.ext E10 F24)) (Or.inr (slot_ne (Or.inr (hw _ (gw 100 rfl))) (Or.inr (hw _ (gw 98 rfl))) (by decide) (t := (.object "com/example/stemline/stemline/model/TableColumn")) (t' := (.object "com/example/stemline/stemline/model/ColumnSource")) (by decide) (by decide))))
  have f29 : Exa Z h27 a1 "com/example/stemline/stemline/graph/Edge" := (Exa.wr W27 f26)
  obtain ⟨T30, h30, X30, e30, W30, st30⟩ := putF X27 hx hZ15 hown15 (host := "") (Or.inl (hw _ (gw 99 rfl))) Via.refl e27 f28 f29 (Or.inr ⟨(hw _ (gw 100 rfl)), rfl, hnm⟩) (hw _ (gw 88 rfl)) (ty := (.object "com/example/stemline/stemline/model/TableColumn")) (by decide) rfl rfl (g := (mkF m 25 #[.val (.ref a1), .val (.ref a2), .val (.ref a3), .val (.ref a4), .val (.int p5)] [(.ref a3), (.ref a1)])) rfl rfl (hb hby d15_25)
  have O30 : Old Z n0 h30 := O27.wr W30 g_a1
  have Fw30 : Fld Z h30 a1 "com/example/stemline/stemline/graph/Edge" "target" "Lcom/example/stemline/stemline/model/TableColumn;" (.ref a3) := Fld.same W30 f28
  have N30 := Fr.snoc X30 N27 g_a1
  have f31 : Fld Z h30 a1 "com/example/stemline/stemline/graph/Edge" "file" "Ljava/lang/String;" .null := (Fld.other W30 (Fld.other W27 (Fld.ext E15 (Fld.ext E10 F21)) (Or.inr (slot_ne (Or.inr (hw _ (gw 102 rfl))) (Or.inr (hw _ (gw 98 rfl))) (by decide) (t := (.object "java/lang/String")) (t' := (.object "com/example/stemline/stemline/model/ColumnSource")) (by decide) (by decide)))) (Or.inr (slot_ne (Or.inr (hw _ (gw 102 rfl))) (Or.inr (hw _ (gw 100 rfl))) (by decide) (t := (.object "java/lang/String")) (t' := (.object "com/example/stemline/stemline/model/TableColumn")) (by decide) (by decide))))
  have f32 : Exa Z h30 a1 "com/example/stemline/stemline/graph/Edge" := (Exa.wr W30 f29)
  obtain ⟨T33, h33, X33, e33, W33, st33⟩ := putF X30 hx hZ15 hown15 (host := "") (Or.inl (hw _ (gw 101 rfl))) Via.refl e30 f31 f32 (Or.inr ⟨(hw _ (gw 102 rfl)), rfl, hnm⟩) (hw _ (gw 88 rfl)) (ty := (.object "java/lang/String")) (by decide) rfl rfl (g := (mkF m 30 #[.val (.ref a1), .val (.ref a2), .val (.ref a3), .val (.ref a4), .val (.int p5)] [(.ref a4), (.ref a1)])) rfl rfl (hb hby d15_30)
  have O33 : Old Z n0 h33 := O30.wr W33 g_a1
  have Fw33 : Fld Z h33 a1 "com/example/stemline/stemline/graph/Edge" "file" "Ljava/lang/String;" (.ref a4) := Fld.same W33 f31
  have N33 := Fr.snoc X33 N30 g_a1
  have f34 : Fld Z h33 a1 "com/example/stemline/stemline/graph/Edge" "line" "I" (.int (0 : Int32)) := (Fld.other W33 (Fld.other W30 (Fld.other W27 (Fld.ext E15 (Fld.ext E10 F22)) (Or.inr (slot_ne (Or.inr (hw _ (gw 104 rfl))) (Or.inr (hw _ (gw 98 rfl))) (by decide) (t := .int) (t' := (.object "com/example/stemline/stemline/model/ColumnSource")) (by decide) (by decide)))) (Or.inr (slot_ne (Or.inr (hw _ (gw 104 rfl))) (Or.inr (hw _ (gw 100 rfl))) (by decide) (t := .int) (t' := (.object "com/example/stemline/stemline/model/TableColumn")) (by decide) (by decide)))) (Or.inr (slot_ne (Or.inr (hw _ (gw 104 rfl))) (Or.inr (hw _ (gw 102 rfl))) (by decide) (t := .int) (t' := (.object "java/lang/String")) (by decide) (by decide))))
  have f35 : Exa Z h33 a1 "com/example/stemline/stemline/graph/Edge" := (Exa.wr W33 f32)
  obtain ⟨T36, h36, X36, e36, W36, st36⟩ := putF X33 hx hZ15 hown15 (host := "") (Or.inl (hw _ (gw 103 rfl))) Via.refl e33 f34 f35 (Or.inr ⟨(hw _ (gw 104 rfl)), rfl, hnm⟩) (hw _ (gw 88 rfl)) (ty := .int) (by decide) rfl rfl (g := (mkF m 36 #[.val (.ref a1), .val (.ref a2), .val (.ref a3), .val (.ref a4), .val (.int p5)] [(.int p5), (.ref a1)])) rfl rfl (hb hby d15_36)
  have O36 : Old Z n0 h36 := O33.wr W36 g_a1
  have Fw36 : Fld Z h36 a1 "com/example/stemline/stemline/graph/Edge" "line" "I" (.int p5) := Fld.same W36 f34
  have N36 := Fr.snoc X36 N33 g_a1
  obtain ⟨fs, hr, hrun, hended, hEnd⟩ := X36.leaveW (s := s) (vm₁ := T15.vm) hS15 (by rw [e36]; exact (Nat.le_trans (Nat.le_trans (Nat.le_trans (Nat.le_trans hk15 (Keep.of_wr W27).1) (Keep.of_wr W30).1) (Keep.of_wr W33).1) (Keep.of_wr W36).1)) (v := none) (fun _ => rfl)
  have f37 : Exa Z h36 a1 "com/example/stemline/stemline/graph/Edge" := (Exa.wr W36 f35)
  have f38 : Fld Z h36 a1 "com/example/stemline/stemline/graph/Edge" "file" "Ljava/lang/String;" (.ref a4) := (Fld.other W36 Fw33 (Or.inr (slot_ne (Or.inr (hw _ (gw 102 rfl))) (Or.inr (hw _ (gw 104 rfl))) (by decide) (t := (.object "java/lang/String")) (t' := .int) (by decide) (by decide))))
  have f39 : Fld Z h36 a1 "com/example/stemline/stemline/graph/Edge" "source" "Lcom/example/stemline/stemline/model/ColumnSource;" (.ref a2) := (Fld.other W36 (Fld.other W33 (Fld.other W30 Fw27 (Or.inr (slot_ne (Or.inr (hw _ (gw 98 rfl))) (Or.inr (hw _ (gw 100 rfl))) (by decide) (t := (.object "com/example/stemline/stemline/model/ColumnSource")) (t' := (.object "com/example/stemline/stemline/model/TableColumn")) (by decide) (by decide)))) (Or.inr (slot_ne (Or.inr (hw _ (gw 98 rfl))) (Or.inr (hw _ (gw 102 rfl))) (by decide) (t := (.object "com/example/stemline/stemline/model/ColumnSource")) (t' := (.object "java/lang/String")) (by decide) (by decide)))) (Or.inr (slot_ne (Or.inr (hw _ (gw 98 rfl))) (Or.inr (hw _ (gw 104 rfl))) (by decide) (t := (.object "com/example/stemline/stemline/model/ColumnSource")) (t' := .int) (by decide) (by decide))))
  have f40 : Fld Z h36 a1 "com/example/stemline/stemline/graph/Edge" "target" "Lcom/example/stemline/stemline/model/TableColumn;" (.ref a3) := (Fld.other W36 (Fld.other W33 Fw30 (Or.inr (slot_ne (Or.inr (hw _ (gw 100 rfl))) (Or.inr (hw _ (gw 102 rfl))) (by decide) (t := (.object "com/example/stemline/stemline/model/TableColumn")) (t' := (.object "java/lang/String")) (by decide) (by decide)))) (Or.inr (slot_ne (Or.inr (hw _ (gw 100 rfl))) (Or.inr (hw _ (gw 104 rfl))) (by decide) (t := (.object "com/example/stemline/stemline/model/TableColumn")) (t' := .int) (by decide) (by decide))))
  refine ⟨_, _, pre0 _ ?_, hrun, hended, _, _, rfl, ?_, hEnd.1, hEnd.2.1, hEnd.2.2.1, hEnd.2.2.2.mono (by decide) (by decide)⟩
  · show Steps p.tables e below (s₁.setTop (mkF m 0 #[.val (.ref a1), .val (.ref a2), .val (.ref a3), .val (.ref a4), .val (.int p5)] [])) _
    refine XS.aloadN X0.here hx rfl (hb hby d15_0) rfl rfl ?_
    show Steps p.tables e below (s₁.setTop (mkF m 1 #[.val (.ref a1), .val (.ref a2), .val (.ref a3), .val (.ref a4), .val (.int p5)] [(.ref a1)])) _
    refine st6.trans ?_
    show Steps p.tables e below (T6.setTop (mkF m 4 #[.val (.ref a1), .val (.ref a2), .val (.ref a3), .val (.ref a4), .val (.int p5)] [])) _
    refine XS.aloadN X6.here hx rfl (hb hby d15_4) rfl rfl ?_
    show Steps p.tables e below (T6.setTop (mkF m 5 #[.val (.ref a1), .val (.ref a2), .val (.ref a3), .val (.ref a4), .val (.int p5)] [(.ref a3)])) _
    refine st10 _ ?_
    show Steps p.tables e below (T10.setTop (mkF m 7 #[.val (.ref a1), .val (.ref a2), .val (.ref a3), .val (.ref a4), .val (.int p5)] [(.ref a10), (.ref a3)])) _
    refine st11 _ ?_
    show Steps p.tables e below (T11.setTop (mkF m 10 #[.val (.ref a1), .val (.ref a2), .val (.ref a3), .val (.ref a4), .val (.int p5)] [(.ref a3)])) _
    refine XS.pop X11.here hx rfl (hb hby d15_10) rfl rfl ?_
    show Steps p.tables e below (T11.setTop (mkF m 11 #[.val (.ref a1), .val (.ref a2), .val (.ref a3), .val (.ref a4), .val (.int p5)] [])) _
    refine XS.aloadN X11.here hx rfl (hb hby d15_11) rfl rfl ?_
    show Steps p.tables e below (T11.setTop (mkF m 12 #[.val (.ref a1), .val (.ref a2), .val (.ref a3), .val (.ref a4), .val (.int p5)] [(.ref a4)])) _
    refine st15 _ ?_
    show Steps p.tables e below (T15.setTop (mkF m 14 #[.val (.ref a1), .val (.ref a2), .val (.ref a3), .val (.ref a4), .val (.int p5)] [(.ref a15), (.ref a4)])) _
    refine st16 _ ?_
    show Steps p.tables e below (T16.setTop (mkF m 17 #[.val (.ref a1), .val (.ref a2), .val (.ref a3), .val (.ref a4), .val (.int p5)] [(.ref a4)])) _
    refine XS.pop X16.here hx rfl (hb hby d15_17) rfl rfl ?_
    show Steps p.tables e below (T16.setTop (mkF m 18 #[.val (.ref a1), .val (.ref a2), .val (.ref a3), .val (.ref a4), .val (.int p5)] [])) _
    refine XS.aloadN X16.here hx rfl (hb hby d15_18) rfl rfl ?_
    show Steps p.tables e below (T16.setTop (mkF m 19 #[.val (.ref a1), .val (.ref a2), .val (.ref a3), .val (.ref a4), .val (.int p5)] [(.ref a1)])) _
    refine XS.aloadN X16.here hx rfl (hb hby d15_19) rfl rfl ?_
    show Steps p.tables e below (T16.setTop (mkF m 20 #[.val (.ref a1), .val (.ref a2), .val (.ref a3), .val (.ref a4), .val (.int p5)] [(.ref a2), (.ref a1)])) _
    refine st27 _ ?_
    show Steps p.tables e below (T27.setTop (mkF m 23 #[.val (.ref a1), .val (.ref a2), .val (.ref a3), .val (.ref a4), .val (.int p5)] [])) _
    refine XS.aloadN X27.here hx rfl (hb hby d15_23) rfl rfl ?_
    show Steps p.tables e below (T27.setTop (mkF m 24 #[.val (.ref a1), .val (.ref a2), .val (.ref a3), .val (.ref a4), .val (.int p5)] [(.ref a1)])) _
    refine XS.aloadN X27.here hx rfl (hb hby d15_24) rfl rfl ?_
    show Steps p.tables e below (T27.setTop (mkF m 25 #[.val (.ref a1), .val (.ref a2), .val (.ref a3), .val (.ref a4), .val (.int p5)] [(.ref a3), (.ref a1)])) _
    refine st30 _ ?_
    show Steps p.tables e below (T30.setTop (mkF m 28 #[.val (.ref a1), .val (.ref a2), .val (.ref a3), .val (.ref a4), .val (.int p5)] [])) _
    refine XS.aloadN X30.here hx rfl (hb hby d15_28) rfl rfl ?_
    show Steps p.tables e below (T30.setTop (mkF m 29 #[.val (.ref a1), .val (.ref a2), .val (.ref a3), .val (.ref a4), .val (.int p5)] [(.ref a1)])) _
    refine XS.aloadN X30.here hx rfl (hb hby d15_29) rfl rfl ?_
    show Steps p.tables e below (T30.setTop (mkF m 30 #[.val (.ref a1), .val (.ref a2), .val (.ref a3), .val (.ref a4), .val (.int p5)] [(.ref a4), (.ref a1)])) _
    refine st33 _ ?_
    show Steps p.tables e below (T33.setTop (mkF m 33 #[.val (.ref a1), .val (.ref a2), .val (.ref a3), .val (.ref a4), .val (.int p5)] [])) _
    refine XS.aloadN X33.here hx rfl (hb hby d15_33) rfl rfl ?_
    show Steps p.tables e below (T33.setTop (mkF m 34 #[.val (.ref a1), .val (.ref a2), .val (.ref a3), .val (.ref a4), .val (.int p5)] [(.ref a1)])) _
    refine XS.iload X33.here hx rfl (hb hby d15_34) rfl ?_
    show Steps p.tables e below (T33.setTop (mkF m 36 #[.val (.ref a1), .val (.ref a2), .val (.ref a3), .val (.ref a4), .val (.int p5)] [(.int p5), (.ref a1)])) _
    refine st36 _ ?_
    show Steps p.tables e below (T36.setTop (mkF m 39 #[.val (.ref a1), .val (.ref a2), .val (.ref a3), .val (.ref a4), .val (.int p5)] [])) _
    exact X36.returnOut hx Bd.returns (hb hby d15_39) hr
  · show Q15_22 Z _ _ _ _ _ h0 n0 _ T36.heap _
    rw [e36]
    exact ⟨rfl, N36, (((((((Keep.refl h0 [a1]).ext E10).ext E15).wr W27 (Or.inl (List.mem_of_getElem? (i := 0) rfl))).wr W30 (Or.inl (List.mem_of_getElem? (i := 0) rfl))).wr W33 (Or.inl (List.mem_of_getElem? (i := 0) rfl))).wr W36 (Or.inl (List.mem_of_getElem? (i := 0) rfl))), f37, f38, Fw36, f39, f40⟩
theorem ef_rm17_24 (m : MethodId) (x0 : Addr) : entryFrame m #[(.ref x0)] 1 = mkF m 0 #[.val (.ref x0)] [] := by first | (simp [entryFrame, mkF, argsToLocals, Value.category]; done) | rfl
def Q17_24 (Z : State) (a1 : Addr) (a2 : Addr) (h0 : Heap) (n0 : Nat) (v : Option Value) (h : Heap) (L : List Loc) : Prop := (v = some (.ref a2) ∧ Fr n0 L ∧ h = h0)
set_option maxRecDepth 65536 in
set_option maxHeartbeats 40000000 in
theorem rm17_24 (l : Launch) (Z : State) (a0 : Array Value) (hw : ∀ d ∈ own_ws, d.before a0 Z = true) (ws : List Jvm.Cond) (a1 : Addr) (a2 : Addr) (h0 : Heap) (n0 : Nat) (O0 : Old Z n0 h0) (F3 : Fld Z h0 a1 "com/example/stemline/stemline/model/ColumnSource" "column" "Lcom/example/stemline/stemline/model/TableColumn;" (.ref a2)) :
    MetFree l M_15 (head1 (Jvm.Cond.code M_15 prog_40_method_5_code 1 (some (.object "com/example/stemline/stemline/model/TableColumn")) :: ws) ({ frames := 0, cells := 0, slots := 0, locals := 0 } : Room)) (fun a U => a = #[(.ref a1)] ∧ Z.Warmed39 U.vm ∧ U.heap = h0) (fun _ _ _ _ _ => True) (fun _ U o U' => ∃ v L, o = .returned v ∧ Q17_24 Z a1 a2 h0 n0 v U'.heap L ∧ FrameEnd U o U' L ({ frames := 0, cells := 0, slots := 0, locals := 0 } : Room).cells ({ frames := 0, cells := 0, slots := 0, locals := 0 } : Room).slots) := by
  refine MetFree.of_bodySF (plainFor_of_name pn_7) hisR ?_
  intro p e s m args below meth c s₁ Bd hml0 hP hK
  obtain ⟨rfl, hZ, hh⟩ := hP
  have hx := Bd.exec
  have hby := Bd.bytes
  have hml : c.maxLocals = 1 := hml0
  have hown : s.vm.findClass "com/example/stemline/stemline/model/ColumnSource" = some m.cls := findClass_of_methodNamed Bd.named
  have hnm := (name_of_methodNamed Bd.named Bd.method).1
  have X0 : Stand p l e ({ frames := 0, cells := 0, slots := 0, locals := 0 } : Room) s m #[(.ref a1)] below meth c s₁ [] 0 0 := Stand.of_body Bd
  have e0 : s₁.heap = h0 := by rw [← hh, Bd.state]; rfl
  have N0 := Fr.nil n0
  have pre0 : ∀ t, Steps p.tables e below (s₁.setTop (mkF m 0 #[.val (.ref a1)] [])) t → Steps p.tables e below (s₁.setTop (entryFrame m #[(.ref a1)] 1)) t := fun t k => castTop (ef_rm17_24 m a1) k
  obtain ⟨T4, X4, e4, st4⟩ := getF X0 hx hZ hown (host := "") (Or.inl (hw _ (gw 81 rfl))) Via.refl e0 F3 (g := (mkF m 1 #[.val (.ref a1)] [(.ref a1)])) rfl rfl (hb hby d17_1)
  obtain ⟨fs, hr, hrun, hended, hW, hsame⟩ := X4.leave (v := some (.ref a2)) (fun h => by rw [Bd.returns] at h; cases h)
  refine ⟨_, _, pre0 _ ?_, hrun, hended, _, _, rfl, ?_, ⟨_, rfl⟩, hW, hsame.mono (by decide) (by decide)⟩
  · show Steps p.tables e below (s₁.setTop (mkF m 0 #[.val (.ref a1)] [])) _
    refine XS.aloadN X0.here hx rfl (hb hby d17_0) rfl rfl ?_
    show Steps p.tables e below (s₁.setTop (mkF m 1 #[.val (.ref a1)] [(.ref a1)])) _
    refine st4 _ ?_
    show Steps p.tables e below (T4.setTop (mkF m 4 #[.val (.ref a1)] [(.ref a2)])) _
    jvm_step X4.here [X4.here.top, hx, (hb hby d17_4), X4.method', Bd.returns, Value.isRef, FieldType.isReference]
    first | (intro acts; rw [hr _ acts rfl rfl rfl]) | rw [hr _ _ rfl rfl rfl]
    exact Steps.refl _
  · show Q17_24 Z _ _ h0 n0 _ T4.heap _
    rw [e4]
    exact ⟨rfl, N0, rfl⟩
theorem ef_rm16_23 (m : MethodId) (x0 : Addr) : entryFrame m #[(.ref x0)] 1 = mkF m 0 #[.val (.ref x0)] [] := by first | (simp [entryFrame, mkF, argsToLocals, Value.category]; done) | rfl
def Q16_23 (Z : State) (a1 : Addr) (a2 : Addr) (a7 : Addr) (h0 : Heap) (n0 : Nat) (v : Option Value) (h : Heap) (L : List Loc) : Prop := (v = some (.ref a7) ∧ Fr n0 L ∧ h = h0)
set_option maxRecDepth 65536 in
set_option maxHeartbeats 40000000 in
theorem rm16_23 (l : Launch) (Z : State) (a0 : Array Value) (hw : ∀ d ∈ own_ws, d.before a0 Z = true) (ws : List Jvm.Cond) (a1 : Addr) (a2 : Addr) (a7 : Addr) (h0 : Heap) (n0 : Nat) (O0 : Old Z n0 h0) (F3 : Fld Z h0 a1 "com/example/stemline/stemline/graph/Edge" "source" "Lcom/example/stemline/stemline/model/ColumnSource;" (.ref a2)) (E_6 : Exa Z h0 a2 "com/example/stemline/stemline/model/ColumnSource") (F8 : Fld Z h0 a2 "com/example/stemline/stemline/model/ColumnSource" "column" "Lcom/example/stemline/stemline/model/TableColumn;" (.ref a7)) :
    MetFree l M_13 (head1 (Jvm.Cond.code M_13 prog_23_method_2_code 1 (some (.object "com/example/stemline/stemline/model/TableColumn")) :: ws) ({ frames := 1, cells := 0, slots := 0, locals := 12 } : Room)) (fun a U => a = #[(.ref a1)] ∧ Z.Warmed39 U.vm ∧ U.heap = h0) (fun _ _ _ _ _ => True) (fun _ U o U' => ∃ v L, o = .returned v ∧ Q16_23 Z a1 a2 a7 h0 n0 v U'.heap L ∧ FrameEnd U o U' L ({ frames := 1, cells := 0, slots := 0, locals := 12 } : Room).cells ({ frames := 1, cells := 0, slots := 0, locals := 12 } : Room).slots) := by
  refine MetFree.of_bodySF (plainFor_of_name pn_6) hisR ?_
  intro p e s m args below meth c s₁ Bd hml0 hP hK
  obtain ⟨rfl, hZ, hh⟩ := hP
  have hx := Bd.exec
  have hby := Bd.bytes
  have hml : c.maxLocals = 1 := hml0
  have hown : s.vm.findClass "com/example/stemline/stemline/graph/Edge" = some m.cls := findClass_of_methodNamed Bd.named
  have hnm := (name_of_methodNamed Bd.named Bd.method).1
  have X0 : Stand p l e ({ frames := 1, cells := 0, slots := 0, locals := 12 } : Room) s m #[(.ref a1)] below meth c s₁ [] 0 0 := Stand.of_body Bd
  have e0 : s₁.heap = h0 := by rw [← hh, Bd.state]; rfl
  have N0 := Fr.nil n0
  have pre0 : ∀ t, Steps p.tables e below (s₁.setTop (mkF m 0 #[.val (.ref a1)] [])) t → Steps p.tables e below (s₁.setTop (entryFrame m #[(.ref a1)] 1)) t := fun t k => castTop (ef_rm16_23 m a1) k
  obtain ⟨T4, X4, e4, st4⟩ := getF X0 hx hZ hown (host := "") (Or.inl (hw _ (gw 97 rfl))) Via.refl e0 F3 (g := (mkF m 1 #[.val (.ref a1)] [(.ref a1)])) rfl rfl (hb hby d16_1)
  obtain ⟨T5, X5, e5, st5⟩ := getF X4 hx hZ hown (host := "") (Or.inl (hw _ (gw 97 rfl))) Via.refl e4 F3 (g := (mkF m 12 #[.val (.ref a1)] [(.ref a1)])) rfl rfl (hb hby d16_12)
  obtain ⟨cq9, kq9, q9a, q9b, q9c⟩ := isOf hZ e5 E_6
  obtain ⟨_, _, ⟨T9, L9, k9, n9⟩, -, X9, ⟨Lc9, hQ9, l9, y9, z9⟩, st9⟩ := X5.virtualBack hx (y := M_15) (z := M_15) hown (mvT hZ (hw _ (gw 110 rfl))) (mvT hZ (hw _ (gw 111 rfl))) (notFace_of_selects (args := #[]) (mvT hZ (hw _ (gw 113 rfl)))) (mvT hZ (hw _ (gw 113 rfl))) (mvT hZ (hw _ (gw 112 rfl))) (by decide) (backOf (W := 0) (rm17_24 l Z a0 hw [] a2 a7 h0 n0  O0 F8) hZ (hw _ (gw 114 rfl)) (hw _ (gw 73 rfl)) (by decide) (by decide)) q9a q9c (g := (mkF m 15 #[.val (.ref a1)] [(.ref a2)])) rfl (by rw [hml]; rfl) (Steps.refl _) (argsL := []) (rest := []) (lenOf pd_13 rfl) rfl (by show 2 * 0 + _ ≤ _; exact Nat.le_of_eq rfl) (hb hby d16_15) (fun _ _ => ⟨rfl, e5, (by decide : 0 + 0 ≤ _), (by decide : 0 + 0 ≤ _)⟩)
  dsimp only [Pt.U, Pt.locs, Pt.cells, Pt.slots] at X9 l9 y9 z9 st9 hQ9
  subst l9 y9 z9
  obtain ⟨rfl, u11, u12⟩ := hQ9
  have N9 := Fr.app N0 u11
  obtain ⟨fs, hr, hrun, hended, hW, hsame⟩ := X9.leave (v := some (.ref a7)) (fun h => by rw [Bd.returns] at h; cases h)
  refine ⟨_, _, pre0 _ ?_, hrun, hended, _, _, rfl, ?_, ⟨_, rfl⟩, hW, hsame.mono (by decide) (by decide)⟩
  · show Steps p.tables e below (s₁.setTop (mkF m 0 #[.val (.ref a1)] [])) _
    refine XS.aloadN X0.here hx rfl (hb hby d16_0) rfl rfl ?_
    show Steps p.tables e below (s₁.setTop (mkF m 1 #[.val (.ref a1)] [(.ref a1)])) _
    refine st4 _ ?_
    show Steps p.tables e below (T4.setTop (mkF m 4 #[.val (.ref a1)] [(.ref a2)])) _
    refine XS.ifnonnullYes X4.here hx rfl (pc0 := 4) (pc' := 11) rfl (hb hby d16_4) rfl (by decide) (by decide) ?_
    show Steps p.tables e below (T4.setTop (mkF m 11 #[.val (.ref a1)] [])) _
    refine XS.aloadN X4.here hx rfl (hb hby d16_11) rfl rfl ?_
    show Steps p.tables e below (T4.setTop (mkF m 12 #[.val (.ref a1)] [(.ref a1)])) _
    refine st5 _ ?_
    show Steps p.tables e below (T5.setTop (mkF m 15 #[.val (.ref a1)] [(.ref a2)])) _
    refine st9.trans ?_
    show Steps p.tables e below (T9.setTop (mkF m 18 #[.val (.ref a1)] [(.ref a7)])) _
    jvm_step X9.here [X9.here.top, hx, (hb hby d16_18), X9.method', Bd.returns, Value.isRef, FieldType.isReference]
    first | (intro acts; rw [hr _ acts rfl rfl rfl]) | rw [hr _ _ rfl rfl rfl]
    exact Steps.refl _
  · show Q16_23 Z _ _ _ h0 n0 _ T9.heap _
    rw [u12]
    exact ⟨rfl, N9, rfl⟩
theorem ef_rm14_25 (m : MethodId) (x0 : Addr) (x1 : Addr) (x2 : Addr) (x3 : Addr) : entryFrame m #[(.ref x0), (.ref x1), (.ref x2), (.ref x3)] 4 = mkF m 0 #[.val (.ref x0), .val (.ref x1), .val (.ref x2), .val (.ref x3)] [] := by first | (simp [entryFrame, mkF, argsToLocals, Value.category]; done) | rfl
def Q14_25 (Z : State) (a1 : Addr) (a2 : Addr) (a3 : Addr) (a4 : Addr) (h0 : Heap) (n0 : Nat) (v : Option Value) (h : Heap) (L : List Loc) : Prop := (v = none ∧ Fr n0 L ∧ Keep h0 h [a1] ∧ Exa Z h a1 "com/example/stemline/stemline/model/ColumnSource" ∧ Fld Z h a1 "com/example/stemline/stemline/model/ColumnSource" "column" "Lcom/example/stemline/stemline/model/TableColumn;" (.ref a2) ∧ Fld Z h a1 "com/example/stemline/stemline/model/ColumnSource" "expression" "Ljava/lang/String;" (.ref a4) ∧ Fld Z h a1 "com/example/stemline/stemline/model/ColumnSource" "kind" "Lcom/example/stemline/stemline/model/SourceKind;" (.ref a3))
set_option maxRecDepth 65536 in
set_option maxHeartbeats 40000000 in
theorem rm14_25 (l : Launch) (Z : State) (a0 : Array Value) (hw : ∀ d ∈ own_ws, d.before a0 Z = true) (ws : List Jvm.Cond) (a1 : Addr) (a2 : Addr) (a3 : Addr) (a4 : Addr) (h0 : Heap) (n0 : Nat) (O0 : Old Z n0 h0) (E_19 : Exa Z h0 a1 "com/example/stemline/stemline/model/ColumnSource") (F20 : Fld Z h0 a1 "com/example/stemline/stemline/model/ColumnSource" "column" "Lcom/example/stemline/stemline/model/TableColumn;" .null) (F21 : Fld Z h0 a1 "com/example/stemline/stemline/model/ColumnSource" "expression" "Ljava/lang/String;" .null) (F22 : Fld Z h0 a1 "com/example/stemline/stemline/model/ColumnSource" "kind" "Lcom/example/stemline/stemline/model/SourceKind;" .null) (g_a1 : n0 ≤ a1) :
    MetFree l M_14 (head1 (Jvm.Cond.code M_14 prog_40_method_1_code 4 none :: ws) ({ frames := 2, cells := 4, slots := 48, locals := 24 } : Room)) (fun a U => a = #[(.ref a1), (.ref a2), (.ref a3), (.ref a4)] ∧ Z.Warmed39 U.vm ∧ U.heap = h0) (fun _ _ _ _ _ => True) (fun _ U o U' => ∃ v L, o = .returned v ∧ Q14_25 Z a1 a2 a3 a4 h0 n0 v U'.heap L ∧ ReturnedEndW U o U' L ({ frames := 2, cells := 4, slots := 48, locals := 24 } : Room).cells ({ frames := 2, cells := 4, slots := 48, locals := 24 } : Room).slots) := by
  refine MetFree.of_bodySF (plainFor_of_name pn_7) hisR ?_
  intro p e s m args below meth c s₁ Bd hml0 hP hK
  obtain ⟨rfl, hZ, hh⟩ := hP
  have hx := Bd.exec
  have hby := Bd.bytes
  have hml : c.maxLocals = 4 := hml0
  have hown : s.vm.findClass "com/example/stemline/stemline/model/ColumnSource" = some m.cls := findClass_of_methodNamed Bd.named
  have hnm := (name_of_methodNamed Bd.named Bd.method).1
  have X0 : Stand p l e ({ frames := 2, cells := 4, slots := 48, locals := 24 } : Room) s m #[(.ref a1), (.ref a2), (.ref a3), (.ref a4)] below meth c s₁ [] 0 0 := Stand.of_body Bd
  have e0 : s₁.heap = h0 := by rw [← hh, Bd.state]; rfl
  have N0 := Fr.nil n0
  have Y0 : h0.size ≤ h0.size := Nat.le_refl _
  have hS0 : s.Since s.vm h0.size := (State.WarmedH.refl s).since _
  have pre0 : ∀ t, Steps p.tables e below (s₁.setTop (mkF m 0 #[.val (.ref a1), .val (.ref a2), .val (.ref a3), .val (.ref a4)] [])) t → Steps p.tables e below (s₁.setTop (entryFrame m #[(.ref a1), (.ref a2), (.ref a3), (.ref a4)] 4)) t := fun t k => castTop (ef_rm14_25 m a1 a2 a3 a4) k
  obtain ⟨_, _, ⟨T5, L5, k5, n5⟩, -, X5, ⟨Lc5, hQ5, l5, y5, z5⟩, st5⟩ := X0.specialBack hx (y := M_5) rfl hown (mvT hZ (hw _ (gw 77 rfl))) (mvT hZ (hw _ (gw 37 rfl))) (mvT hZ (hw _ (gw 40 rfl))) (by decide) (backOf (W := 0) (rm8_13 l Z a0 hw [] a1 h0 n0  O0) hZ (hw _ (gw 40 rfl)) (hw _ (gw 39 rfl)) (by decide) (by decide)) (g := (mkF m 1 #[.val (.ref a1), .val (.ref a2), .val (.ref a3), .val (.ref a4)] [(.ref a1)])) rfl (by rw [hml]; rfl) (Steps.refl _) (a := a1) (argsL := []) (rest := []) (lenOf pd_5 rfl) rfl (by show 2 * 0 + _ ≤ _; exact Nat.le_of_eq rfl) (hb hby d14_1) (fun _ _ => ⟨rfl, e0, (by decide : 0 + 0 ≤ _), (by decide : 0 + 0 ≤ _)⟩)
  dsimp only [Pt.U, Pt.locs, Pt.cells, Pt.slots] at X5 l5 y5 z5 st5 hQ5
  subst l5 y5 z5
  obtain ⟨rfl, u7, u8⟩ := hQ5
  have N5 := Fr.app N0 u7
  obtain ⟨a9, T9, h9, k9, X9, e9, E9, hS9, hk9, hZ9, hown9, st9⟩ := ldcS (s := s) (vm0 := s.vm) X5 hx hZ hown (hw _ (gw 78 rfl)) (own_wS hw) u8 hS0 Y0 (g := (mkF m 5 #[.val (.ref a1), .val (.ref a2), .val (.ref a3), .val (.ref a4)] [(.ref a2)])) rfl (hb hby d14_5) (n := 24) (by decide +kernel) (by decide) (by decide) (by decide)
  have O9 : Old Z n0 h9 := O0.ext E9
  obtain ⟨_, _, ⟨T10, L10, k10, n10⟩, -, X10, ⟨Lc10, hQ10, l10, y10, z10⟩, st10⟩ := Jvm.LawKit.callS X9 hx (y := M_6) hown9 (mvT hZ9 (hw _ (gw 79 rfl))) (mvT hZ9 (hw _ (gw 46 rfl))) (mvT hZ9 (hw _ (gw 47 rfl))) (mvT hZ9 (hw _ (gw 48 rfl))) (by decide) (backOf (W := 0) (rm9_14 l Z a0 hw [] a2 a9 h9 n0  O9) hZ9 (hw _ (gw 48 rfl)) (hw _ (gw 47 rfl)) (by decide) (by decide)) (g := (mkF m 7 #[.val (.ref a1), .val (.ref a2), .val (.ref a3), .val (.ref a4)] [(.ref a9), (.ref a2)])) rfl (by rw [hml]; rfl) (argsL := [(.ref a2), (.ref a9)]) (rest := []) (lenOf pd_6 rfl) rfl (by show 2 * 0 + _ ≤ _; exact Nat.le_of_eq rfl) (hb hby d14_7) (fun _ _ => ⟨rfl, e9, (by decide : 2 + 0 ≤ _), (by decide : 28 + 0 ≤ _)⟩)
  dsimp only [Pt.U, Pt.locs, Pt.cells, Pt.slots] at X10 l10 y10 z10 st10 hQ10
  subst l10 y10 z10
  obtain ⟨rfl, u12, u13⟩ := hQ10
  have N10 := Fr.app N5 u12
  obtain ⟨a14, T14, h14, k14, X14, e14, E14, hS14, hk14, hZ14, hown14, st14⟩ := ldcS (s := s) (vm0 := T9.vm) X10 hx hZ9 hown9 (hw _ (gw 80 rfl)) (own_wS hw) u13 hS9 hk9 (g := (mkF m 12 #[.val (.ref a1), .val (.ref a2), .val (.ref a3), .val (.ref a4)] [(.ref a3)])) rfl (hb hby d14_12) (n := 16) (by decide +kernel) (by decide) (by decide) (by decide)
  have O14 : Old Z n0 h14 := O9.ext E14
  obtain ⟨_, _, ⟨T15, L15, k15, n15⟩, -, X15, ⟨Lc15, hQ15, l15, y15, z15⟩, st15⟩ := Jvm.LawKit.callS X14 hx (y := M_6) hown14 (mvT hZ14 (hw _ (gw 79 rfl))) (mvT hZ14 (hw _ (gw 46 rfl))) (mvT hZ14 (hw _ (gw 47 rfl))) (mvT hZ14 (hw _ (gw 48 rfl))) (by decide) (backOf (W := 0) (rm9_14 l Z a0 hw [] a3 a14 h14 n0  O14) hZ14 (hw _ (gw 48 rfl)) (hw _ (gw 47 rfl)) (by decide) (by decide)) (g := (mkF m 14 #[.val (.ref a1), .val (.ref a2), .val (.ref a3), .val (.ref a4)] [(.ref a14), (.ref a3)])) rfl (by rw [hml]; rfl) (argsL := [(.ref a3), (.ref a14)]) (rest := []) (lenOf pd_6 rfl) rfl (by show 2 * 0 + _ ≤ _; exact Nat.le_of_eq rfl) (hb hby d14_14) (fun _ _ => ⟨rfl, e14, (by decide : 4 + 0 ≤ _), (by decide : 48 + 0 ≤ _)⟩)
  dsimp only [Pt.U, Pt.locs, Pt.cells, Pt.slots] at X15 l15 y15 z15 st15 hQ15
  subst l15 y15 z15
  obtain ⟨rfl, u17, u18⟩ := hQ15
  have N15 := Fr.app N10 u17
  have f23 : Fld Z h14 a1 "com/example/stemline/stemline/model/ColumnSource" "column" "Lcom/example/stemline/stemline/model/TableColumn;" .null := (Fld.ext E14 (Fld.ext E9 F20))
  have f24 : Exa Z h14 a1 "com/example/stemline/stemline/model/ColumnSource" := (Exa.ext E14 (Exa.ext E9 E_19))
  obtain ⟨T25, h25, X25, e25, W25, st25⟩ := putF X15 hx hZ14 hown14 (host := "") (Or.inl (hw _ (gw 81 rfl))) Via.refl u18 f23 f24 (Or.inr ⟨(hw _ (gw 82 rfl)), rfl, hnm⟩) (hw _ (gw 72 rfl)) (ty := (.object "com/example/stemline/stemline/model/TableColumn")) (by decide) rfl rfl (g := (mkF m 20 #[.val (.ref a1), .val (.ref a2), .val (.ref a3), .val (.ref a4)] [(.ref a2), (.ref a1)])) rfl rfl (hb hby d14_20)
  have O25 : Old Z n0 h25 := O14.wr W25 g_a1
  have Fw25 : Fld Z h25 a1 "com/example/stemline/stemline/model/ColumnSource" "column" "Lcom/example/stemline/stemline/model/TableColumn;" (.ref a2) := Fld.same W25 f23
  have N25 := Fr.snoc X25 N15 g_a1
  have f26 : Fld Z h25 a1 "com/example/stemline/stemline/model/ColumnSource" "kind" "Lcom/example/stemline/stemline/model/SourceKind;" .null := (Fld.other W25 (Fld.ext E14 (Fld.ext E9 F22)) (Or.inr (slot_ne (Or.inr (hw _ (gw 84 rfl))) (Or.inr (hw _ (gw 82 rfl))) (by decide) (t := (.object "com/example/stemline/stemline/model/SourceKind")) (t' := (.object "com/example/stemline/stemline/model/TableColumn")) (by decide) (by decide))))
  have f27 : Exa Z h25 a1 "com/example/stemline/stemline/model/ColumnSource" := (Exa.wr W25 f24)
  obtain ⟨T28, h28, X28, e28, W28, st28⟩ := putF X25 hx hZ14 hown14 (host := "") (Or.inl (hw _ (gw 83 rfl))) Via.refl e25 f26 f27 (Or.inr ⟨(hw _ (gw 84 rfl)), rfl, hnm⟩) (hw _ (gw 72 rfl)) (ty := (.object "com/example/stemline/stemline/model/SourceKind")) (by decide) rfl rfl (g := (mkF m 25 #[.val (.ref a1), .val (.ref a2), .val (.ref a3), .val (.ref a4)] [(.ref a3), (.ref a1)])) rfl rfl (hb hby d14_25)
  have O28 : Old Z n0 h28 := O25.wr W28 g_a1
  have Fw28 : Fld Z h28 a1 "com/example/stemline/stemline/model/ColumnSource" "kind" "Lcom/example/stemline/stemline/model/SourceKind;" (.ref a3) := Fld.same W28 f26
  have N28 := Fr.snoc X28 N25 g_a1
  have f29 : Fld Z h28 a1 "com/example/stemline/stemline/model/ColumnSource" "expression" "Ljava/lang/String;" .null := (Fld.other W28 (Fld.other W25 (Fld.ext E14 (Fld.ext E9 F21)) (Or.inr (slot_ne (Or.inr (hw _ (gw 86 rfl))) (Or.inr (hw _ (gw 82 rfl))) (by decide) (t := (.object "java/lang/String")) (t' := (.object "com/example/stemline/stemline/model/TableColumn")) (by decide) (by decide)))) (Or.inr (slot_ne (Or.inr (hw _ (gw 86 rfl))) (Or.inr (hw _ (gw 84 rfl))) (by decide) (t := (.object "java/lang/String")) (t' := (.object "com/example/stemline/stemline/model/SourceKind")) (by decide) (by decide))))
  have f30 : Exa Z h28 a1 "com/example/stemline/stemline/model/ColumnSource" := (Exa.wr W28 f27)
  obtain ⟨T31, h31, X31, e31, W31, st31⟩ := putF X28 hx hZ14 hown14 (host := "") (Or.inl (hw _ (gw 85 rfl))) Via.refl e28 f29 f30 (Or.inr ⟨(hw _ (gw 86 rfl)), rfl, hnm⟩) (hw _ (gw 72 rfl)) (ty := (.object "java/lang/String")) (by decide) rfl rfl (g := (mkF m 30 #[.val (.ref a1), .val (.ref a2), .val (.ref a3), .val (.ref a4)] [(.ref a4), (.ref a1)])) rfl rfl (hb hby d14_30)
  have O31 : Old Z n0 h31 := O28.wr W31 g_a1
  have Fw31 : Fld Z h31 a1 "com/example/stemline/stemline/model/ColumnSource" "expression" "Ljava/lang/String;" (.ref a4) := Fld.same W31 f29
  have N31 := Fr.snoc X31 N28 g_a1
  obtain ⟨fs, hr, hrun, hended, hEnd⟩ := X31.leaveW (s := s) (vm₁ := T14.vm) hS14 (by rw [e31]; exact (Nat.le_trans (Nat.le_trans (Nat.le_trans hk14 (Keep.of_wr W25).1) (Keep.of_wr W28).1) (Keep.of_wr W31).1)) (v := none) (fun _ => rfl)
  have f32 : Exa Z h31 a1 "com/example/stemline/stemline/model/ColumnSource" := (Exa.wr W31 f30)
  have f33 : Fld Z h31 a1 "com/example/stemline/stemline/model/ColumnSource" "column" "Lcom/example/stemline/stemline/model/TableColumn;" (.ref a2) := (Fld.other W31 (Fld.other W28 Fw25 (Or.inr (slot_ne (Or.inr (hw _ (gw 82 rfl))) (Or.inr (hw _ (gw 84 rfl))) (by decide) (t := (.object "com/example/stemline/stemline/model/TableColumn")) (t' := (.object "com/example/stemline/stemline/model/SourceKind")) (by decide) (by decide)))) (Or.inr (slot_ne (Or.inr (hw _ (gw 82 rfl))) (Or.inr (hw _ (gw 86 rfl))) (by decide) (t := (.object "com/example/stemline/stemline/model/TableColumn")) (t' := (.object "java/lang/String")) (by decide) (by decide))))
  have f34 : Fld Z h31 a1 "com/example/stemline/stemline/model/ColumnSource" "kind" "Lcom/example/stemline/stemline/model/SourceKind;" (.ref a3) := (Fld.other W31 Fw28 (Or.inr (slot_ne (Or.inr (hw _ (gw 84 rfl))) (Or.inr (hw _ (gw 86 rfl))) (by decide) (t := (.object "com/example/stemline/stemline/model/SourceKind")) (t' := (.object "java/lang/String")) (by decide) (by decide))))
  refine ⟨_, _, pre0 _ ?_, hrun, hended, _, _, rfl, ?_, hEnd.1, hEnd.2.1, hEnd.2.2.1, hEnd.2.2.2.mono (by decide) (by decide)⟩
  · show Steps p.tables e below (s₁.setTop (mkF m 0 #[.val (.ref a1), .val (.ref a2), .val (.ref a3), .val (.ref a4)] [])) _
    refine XS.aloadN X0.here hx rfl (hb hby d14_0) rfl rfl ?_
    show Steps p.tables e below (s₁.setTop (mkF m 1 #[.val (.ref a1), .val (.ref a2), .val (.ref a3), .val (.ref a4)] [(.ref a1)])) _
    refine st5.trans ?_
    show Steps p.tables e below (T5.setTop (mkF m 4 #[.val (.ref a1), .val (.ref a2), .val (.ref a3), .val (.ref a4)] [])) _
    refine XS.aloadN X5.here hx rfl (hb hby d14_4) rfl rfl ?_
    show Steps p.tables e below (T5.setTop (mkF m 5 #[.val (.ref a1), .val (.ref a2), .val (.ref a3), .val (.ref a4)] [(.ref a2)])) _
    refine st9 _ ?_
    show Steps p.tables e below (T9.setTop (mkF m 7 #[.val (.ref a1), .val (.ref a2), .val (.ref a3), .val (.ref a4)] [(.ref a9), (.ref a2)])) _
    refine st10 _ ?_
    show Steps p.tables e below (T10.setTop (mkF m 10 #[.val (.ref a1), .val (.ref a2), .val (.ref a3), .val (.ref a4)] [(.ref a2)])) _
    refine XS.pop X10.here hx rfl (hb hby d14_10) rfl rfl ?_
    show Steps p.tables e below (T10.setTop (mkF m 11 #[.val (.ref a1), .val (.ref a2), .val (.ref a3), .val (.ref a4)] [])) _
    refine XS.aloadN X10.here hx rfl (hb hby d14_11) rfl rfl ?_
    show Steps p.tables e below (T10.setTop (mkF m 12 #[.val (.ref a1), .val (.ref a2), .val (.ref a3), .val (.ref a4)] [(.ref a3)])) _
    refine st14 _ ?_
    show Steps p.tables e below (T14.setTop (mkF m 14 #[.val (.ref a1), .val (.ref a2), .val (.ref a3), .val (.ref a4)] [(.ref a14), (.ref a3)])) _
    refine st15 _ ?_
    show Steps p.tables e below (T15.setTop (mkF m 17 #[.val (.ref a1), .val (.ref a2), .val (.ref a3), .val (.ref a4)] [(.ref a3)])) _
    refine XS.pop X15.here hx rfl (hb hby d14_17) rfl rfl ?_
    show Steps p.tables e below (T15.setTop (mkF m 18 #[.val (.ref a1), .val (.ref a2), .val (.ref a3), .val (.ref a4)] [])) _
    refine XS.aloadN X15.here hx rfl (hb hby d14_18) rfl rfl ?_
    show Steps p.tables e below (T15.setTop (mkF m 19 #[.val (.ref a1), .val (.ref a2), .val (.ref a3), .val (.ref a4)] [(.ref a1)])) _
    refine XS.aloadN X15.here hx rfl (hb hby d14_19) rfl rfl ?_
    show Steps p.tables e below (T15.setTop (mkF m 20 #[.val (.ref a1), .val (.ref a2), .val (.ref a3), .val (.ref a4)] [(.ref a2), (.ref a1)])) _
    refine st25 _ ?_
    show Steps p.tables e below (T25.setTop (mkF m 23 #[.val (.ref a1), .val (.ref a2), .val (.ref a3), .val (.ref a4)] [])) _
    refine XS.aloadN X25.here hx rfl (hb hby d14_23) rfl rfl ?_
    show Steps p.tables e below (T25.setTop (mkF m 24 #[.val (.ref a1), .val (.ref a2), .val (.ref a3), .val (.ref a4)] [(.ref a1)])) _
    refine XS.aloadN X25.here hx rfl (hb hby d14_24) rfl rfl ?_
    show Steps p.tables e below (T25.setTop (mkF m 25 #[.val (.ref a1), .val (.ref a2), .val (.ref a3), .val (.ref a4)] [(.ref a3), (.ref a1)])) _
    refine st28 _ ?_
    show Steps p.tables e below (T28.setTop (mkF m 28 #[.val (.ref a1), .val (.ref a2), .val (.ref a3), .val (.ref a4)] [])) _
    refine XS.aloadN X28.here hx rfl (hb hby d14_28) rfl rfl ?_
    show Steps p.tables e below (T28.setTop (mkF m 29 #[.val (.ref a1), .val (.ref a2), .val (.ref a3), .val (.ref a4)] [(.ref a1)])) _
    refine XS.aloadN X28.here hx rfl (hb hby d14_29) rfl rfl ?_
    show Steps p.tables e below (T28.setTop (mkF m 30 #[.val (.ref a1), .val (.ref a2), .val (.ref a3), .val (.ref a4)] [(.ref a4), (.ref a1)])) _
    refine st31 _ ?_
    show Steps p.tables e below (T31.setTop (mkF m 33 #[.val (.ref a1), .val (.ref a2), .val (.ref a3), .val (.ref a4)] [])) _
    exact X31.returnOut hx Bd.returns (hb hby d14_33) hr
  · show Q14_25 Z _ _ _ _ h0 n0 _ T31.heap _
    rw [e31]
    exact ⟨rfl, N31, ((((((Keep.refl h0 [a1]).ext E9).ext E14).wr W25 (Or.inl (List.mem_of_getElem? (i := 0) rfl))).wr W28 (Or.inl (List.mem_of_getElem? (i := 0) rfl))).wr W31 (Or.inl (List.mem_of_getElem? (i := 0) rfl))), f32, f33, Fw31, f34⟩
theorem ef_rm0 (m : MethodId) (x0 : Int32) (x1 : Int32) (x2 : Int32) (x3 : Int32) (x4 : Int32) (x5 : Int32) : entryFrame m #[(.int x0), (.int x1), (.int x2), (.int x3), (.int x4), (.int x5)] maxLocals = mkF m 0 #[.val (.int x0), .val (.int x1), .val (.int x2), .val (.int x3), .val (.int x4), .val (.int x5), .unset, .unset, .unset, .unset, .unset, .unset, .unset, .unset, .unset, .unset, .unset] [] := by first | (simp [entryFrame, mkF, argsToLocals, Value.category, maxLocals]; done) | rfl
def Q0 (Z : State) (p1 : Int32) (p2 : Int32) (p3 : Int32) (p4 : Int32) (p5 : Int32) (p6 : Int32) (p24 : Int32) (a127 : Addr) (a355 : Addr) (a581 : Addr) (h0 : Heap) (n0 : Nat) (v : Option Value) (h : Heap) (L : List Loc) : Prop := v = some (.int 1) ∧ Fr n0 L
set_option maxRecDepth 65536 in
set_option maxHeartbeats 40000000 in
theorem rm0 (l : Launch) (Z : State) (a0 : Array Value) (hw : ∀ d ∈ own_ws, d.before a0 Z = true) (ws : List Jvm.Cond) (p1 : Int32) (p2 : Int32) (p3 : Int32) (p4 : Int32) (p5 : Int32) (p6 : Int32) (p24 : Int32) (a127 : Addr) (a355 : Addr) (a581 : Addr) (h0 : Heap) (n0 : Nat) (O0 : Old Z n0 h0) (S_25 : Sta Z Z.heap "java/lang/String" "COMPACT_STRINGS" "Z" (.int p24)) (hk26 : ¬ (p24 = (0 : Int32))) (S_128 : Sta Z Z.heap "com/example/stemline/stemline/model/SourceKind" "IDENTITY" "Lcom/example/stemline/stemline/model/SourceKind;" (.ref a127)) (S_356 : Sta Z Z.heap "com/example/stemline/stemline/model/SourceKind" "TRANSFORMATION" "Lcom/example/stemline/stemline/model/SourceKind;" (.ref a355)) (S_582 : Sta Z Z.heap "com/example/stemline/stemline/model/SourceKind" "AGGREGATION" "Lcom/example/stemline/stemline/model/SourceKind;" (.ref a581)) :
    MetFree l x (head1 (Jvm.Cond.code x code maxLocals ret :: ws) room_1) (fun a U => a = #[(.int p1), (.int p2), (.int p3), (.int p4), (.int p5), (.int p6)] ∧ Z.Warmed39 U.vm ∧ U.heap = h0) (fun _ _ _ _ _ => True) (fun _ U o U' => ∃ v L, o = .returned v ∧ Q0 Z p1 p2 p3 p4 p5 p6 p24 a127 a355 a581 h0 n0 v U'.heap L ∧ ReturnedEndW U o U' L room_1.cells room_1.slots) := by
  refine MetFree.of_bodySF (plainFor_of_name pn_8) hisR ?_
  intro p e s m args below meth c s₁ Bd hml0 hP hK
  obtain ⟨rfl, hZ, hh⟩ := hP
  have hx := Bd.exec
  have hby := Bd.bytes
  have hml : c.maxLocals = 17 := hml0
  have hown : s.vm.findClass "com/example/stemline/stemline/graph/EdgeSourceColumnPinLaw" = some m.cls := findClass_of_methodNamed Bd.named
  have hnm := (name_of_methodNamed Bd.named Bd.method).1
  have X0 : Stand p l e room_1 s m #[(.int p1), (.int p2), (.int p3), (.int p4), (.int p5), (.int p6)] below meth c s₁ [] 0 0 := Stand.of_body Bd
  have e0 : s₁.heap = h0 := by rw [← hh, Bd.state]; rfl
  have N0 := Fr.nil n0
  have Y0 : h0.size ≤ h0.size := Nat.le_refl _
  have hS0 : s.Since s.vm h0.size := (State.WarmedH.refl s).since _
  have pre0 : ∀ t, Steps p.tables e below (s₁.setTop (mkF m 0 #[.val (.int p1), .val (.int p2), .val (.int p3), .val (.int p4), .val (.int p5), .val (.int p6), .unset, .unset, .unset, .unset, .unset, .unset, .unset, .unset, .unset, .unset, .unset] [])) t → Steps p.tables e below (s₁.setTop (entryFrame m #[(.int p1), (.int p2), (.int p3), (.int p4), (.int p5), (.int p6)] maxLocals)) t := fun t k => castTop (ef_rm0 m p1 p2 p3 p4 p5 p6) k
  obtain ⟨T7, h7, k7, X7, e7, E7, A7, Ex7, st7⟩ := newPE X0 hx hZ (hw _ (gw 0 rfl)) e0 (g := (mkF m 1 #[.val (.int p1), .val (.int p2), .val (.int p3), .val (.int p4), .val (.int p5), .val (.int p6), .unset, .unset, .unset, .unset, .unset, .unset, .unset, .unset, .unset, .unset, .unset] [(.int (2 : Int32))])) rfl (hb hby at_1) rfl (by decide +kernel) (cap := 2) (by decide +kernel) (by decide) (by decide) (by decide) (ad := "[C") (by decide +kernel)
  obtain ⟨b7, g7⟩ : ∃ z, z = h0.size := ⟨_, rfl⟩
  rw [← g7] at A7 Ex7 st7
  have O7 : Old Z n0 h7 := O0.ext E7
  have bd_b7 : h0.size ≤ b7 := Nat.le_of_eq g7.symm
  have g_b7 : n0 ≤ b7 := Nat.le_trans (own_z O0) bd_b7
  have sz_b7 : h0.size ≤ b7 := Nat.le_trans (Nat.le_refl _) bd_b7
  have lt_b7 : b7 < h7.size := A7.lt
  have V7 : Arv Z h7 b7 k7 .char (2 : Int32) [] (.int (0 : Int32)) := Arv.new A7 (by decide +kernel)
  obtain ⟨i8, hi8⟩ : ∃ z, z = (p1 &&& (255 : Int32)) := ⟨_, rfl⟩
  have Vp9 : Arv Z h7 b7 k7 .char (2 : Int32) [(.int (0 : Int32))] (.int (0 : Int32)) := V7.pad (pad_rep [] (.int (0 : Int32)) 1)
  obtain ⟨cl10, Ar10, qk10, Sz10, Nn10, Hh10, Gg10⟩ := id Vp9
  have hin10 : ¬ ((0 : Int32) < 0 ∨ cl10.slots.size ≤ ((0 : Int32)).toNatClampNeg) := inb_of Sz10 ⟨by decide +kernel, by decide +kernel⟩
  obtain ⟨T11, h11, X11, e11, W11, st11⟩ := stC X7 hx hZ e7 Ar10 (j := (0 : Int32)) hin10 (g := (mkF m 11 #[.val (.int p1), .val (.int p2), .val (.int p3), .val (.int p4), .val (.int p5), .val (.int p6), .unset, .unset, .unset, .unset, .unset, .unset, .unset, .unset, .unset, .unset, .unset] [(.int i8), (.int (0 : Int32)), (.ref b7), (.ref b7)])) rfl rfl (hb hby at_11)
  rw [show (nar .char i8) = i8 from (own_nar255 hi8)] at W11
  have O11 : Old Z n0 h11 := O7.wr W11 g_b7
  have V11 : Arv Z h11 b7 k7 .char (2 : Int32) [(.int i8)] (.int (0 : Int32)) := Arv.set Ar10 qk10 Sz10 Nn10 Hh10 Gg10 ((own_nar255 hi8) ▸ fits_nar_char _) W11 0 rfl (Nat.le_of_ble_eq_true rfl)
  have N11 := Fr.snoc X11 N0 g_b7
  obtain ⟨i12, hi12⟩ : ∃ z, z = ((p1.toUInt32 >>> ((8 : Int32) &&& 31).toUInt32).toInt32) := ⟨_, rfl⟩
  obtain ⟨i13, hi13⟩ : ∃ z, z = (i12 &&& (255 : Int32)) := ⟨_, rfl⟩
  have Vp14 : Arv Z h11 b7 k7 .char (2 : Int32) [(.int i8), (.int (0 : Int32))] (.int (0 : Int32)) := V11.pad (pad_rep [(.int i8)] (.int (0 : Int32)) 1)
  obtain ⟨cl15, Ar15, qk15, Sz15, Nn15, Hh15, Gg15⟩ := id Vp14
  have hin15 : ¬ ((1 : Int32) < 0 ∨ cl15.slots.size ≤ ((1 : Int32)).toNatClampNeg) := inb_of Sz15 ⟨by decide +kernel, by decide +kernel⟩
  obtain ⟨T16, h16, X16, e16, W16, st16⟩ := stC X11 hx hZ e11 Ar15 (j := (1 : Int32)) hin15 (g := (mkF m 23 #[.val (.int p1), .val (.int p2), .val (.int p3), .val (.int p4), .val (.int p5), .val (.int p6), .unset, .unset, .unset, .unset, .unset, .unset, .unset, .unset, .unset, .unset, .unset] [(.int i13), (.int (1 : Int32)), (.ref b7), (.ref b7)])) rfl rfl (hb hby at_23)
  rw [show (nar .char i13) = i13 from (own_nar255 hi13)] at W16
  have O16 : Old Z n0 h16 := O11.wr W16 g_b7
  have V16 : Arv Z h16 b7 k7 .char (2 : Int32) [(.int i8), (.int i13)] (.int (0 : Int32)) := Arv.set Ar15 qk15 Sz15 Nn15 Hh15 Gg15 ((own_nar255 hi13) ▸ fits_nar_char _) W16 1 rfl (Nat.le_of_ble_eq_true rfl)
  have N16 := Fr.snoc X16 N11 g_b7
  obtain ⟨T17, h17, k17, X17, e17, E17, A17, Ex17, st17⟩ := newPE X16 hx hZ (hw _ (gw 0 rfl)) e16 (g := (mkF m 27 #[.val (.int p1), .val (.int p2), .val (.int p3), .val (.int p4), .val (.int p5), .val (.int p6), .val (.ref b7), .unset, .unset, .unset, .unset, .unset, .unset, .unset, .unset, .unset, .unset] [(.int (1 : Int32))])) rfl (hb hby at_27) rfl (by decide +kernel) (cap := 1) (by decide +kernel) (by decide) (by decide) (by decide) (ad := "[C") (by decide +kernel)
  obtain ⟨b17, g17⟩ : ∃ z, z = h16.size := ⟨_, rfl⟩
  rw [← g17] at A17 Ex17 st17
  have O17 : Old Z n0 h17 := O16.ext E17
  have bd_b17 : h16.size ≤ b17 := Nat.le_of_eq g17.symm
  have g_b17 : n0 ≤ b17 := Nat.le_trans (own_z O16) bd_b17
  have sz_b17 : h0.size ≤ b17 := Nat.le_trans (Nat.le_trans (Nat.le_trans E7.1 (Keep.of_wr W11).1) (Keep.of_wr W16).1) bd_b17
  have lt_b17 : b17 < h17.size := A17.lt
  have V17 : Arv Z h17 b17 k17 .char (1 : Int32) [] (.int (0 : Int32)) := Arv.new A17 (by decide +kernel)
  obtain ⟨i18, hi18⟩ : ∃ z, z = (p2 &&& (255 : Int32)) := ⟨_, rfl⟩
  have Vp19 : Arv Z h17 b17 k17 .char (1 : Int32) [(.int (0 : Int32))] (.int (0 : Int32)) := V17.pad (pad_rep [] (.int (0 : Int32)) 1)
  obtain ⟨cl20, Ar20, qk20, Sz20, Nn20, Hh20, Gg20⟩ := id Vp19
  have hin20 : ¬ ((0 : Int32) < 0 ∨ cl20.slots.size ≤ ((0 : Int32)).toNatClampNeg) := inb_of Sz20 ⟨by decide +kernel, by decide +kernel⟩
  obtain ⟨T21, h21, X21, e21, W21, st21⟩ := stC X17 hx hZ e17 Ar20 (j := (0 : Int32)) hin20 (g := (mkF m 37 #[.val (.int p1), .val (.int p2), .val (.int p3), .val (.int p4), .val (.int p5), .val (.int p6), .val (.ref b7), .unset, .unset, .unset, .unset, .unset, .unset, .unset, .unset, .unset, .unset] [(.int i18), (.int (0 : Int32)), (.ref b17), (.ref b17)])) rfl rfl (hb hby at_37)
  rw [show (nar .char i18) = i18 from (own_nar255 hi18)] at W21
  have O21 : Old Z n0 h21 := O17.wr W21 g_b17
  have V21 : Arv Z h21 b17 k17 .char (1 : Int32) [(.int i18)] (.int (0 : Int32)) := Arv.set Ar20 qk20 Sz20 Nn20 Hh20 Gg20 ((own_nar255 hi18) ▸ fits_nar_char _) W21 0 rfl (Nat.le_of_ble_eq_true rfl)
  have N21 := Fr.snoc X21 N16 g_b17
  obtain ⟨T22, h22, X22, e22, E22, A22, D22, -, st22⟩ := newO X21 hx hZ hown (hw _ (gw 1 rfl)) (hw _ (gw 2 rfl)) (hw _ (gw 3 rfl)) e21 (g := (mkF m 40 #[.val (.int p1), .val (.int p2), .val (.int p3), .val (.int p4), .val (.int p5), .val (.int p6), .val (.ref b7), .val (.ref b17), .unset, .unset, .unset, .unset, .unset, .unset, .unset, .unset, .unset] [])) rfl (hb hby at_40) (by decide) (by decide)
  obtain ⟨b22, g22⟩ : ∃ z, z = h21.size := ⟨_, rfl⟩
  rw [← g22] at A22 D22 st22
  have O22 : Old Z n0 h22 := O21.ext E22
  have bd_b22 : h21.size ≤ b22 := Nat.le_of_eq g22.symm
  have g_b22 : n0 ≤ b22 := Nat.le_trans (own_z O21) bd_b22
  have sz_b22 : h0.size ≤ b22 := Nat.le_trans (Nat.le_trans (Nat.le_trans (Nat.le_trans (Nat.le_trans E7.1 (Keep.of_wr W11).1) (Keep.of_wr W16).1) E17.1) (Keep.of_wr W21).1) bd_b22
  have lt_b22 : b22 < h22.size := A22.lt
  have D22_51 : Fld Z h22 b22 "com/example/stemline/stemline/model/TableColumn" "table" "Ljava/lang/String;" .null := D22 (Or.inr (hw _ (gw 51 rfl))) (ty := (.object "java/lang/String")) (by decide)
  have D22_53 : Fld Z h22 b22 "com/example/stemline/stemline/model/TableColumn" "name" "Ljava/lang/String;" .null := D22 (Or.inr (hw _ (gw 53 rfl))) (ty := (.object "java/lang/String")) (by decide)
  obtain ⟨T23, h23, X23, e23, E23, A23, D23, -, st23⟩ := newO X22 hx hZ hown (hw _ (gw 4 rfl)) (hw _ (gw 5 rfl)) (hw _ (gw 6 rfl)) e22 (g := (mkF m 44 #[.val (.int p1), .val (.int p2), .val (.int p3), .val (.int p4), .val (.int p5), .val (.int p6), .val (.ref b7), .val (.ref b17), .unset, .unset, .unset, .unset, .unset, .unset, .unset, .unset, .unset] [(.ref b22), (.ref b22)])) rfl (hb hby at_44) (by decide) (by decide)
  obtain ⟨b23, g23⟩ : ∃ z, z = h22.size := ⟨_, rfl⟩
  rw [← g23] at A23 D23 st23
  have O23 : Old Z n0 h23 := O22.ext E23
  have bd_b23 : h22.size ≤ b23 := Nat.le_of_eq g23.symm
  have g_b23 : n0 ≤ b23 := Nat.le_trans (own_z O22) bd_b23
  have sz_b23 : h0.size ≤ b23 := Nat.le_trans (Nat.le_trans (Nat.le_trans (Nat.le_trans (Nat.le_trans (Nat.le_trans E7.1 (Keep.of_wr W11).1) (Keep.of_wr W16).1) E17.1) (Keep.of_wr W21).1) E22.1) bd_b23
  have lt_b23 : b23 < h23.size := A23.lt
  have D23_30 : Fld Z h23 b23 "java/lang/String" "coder" "B" (.int (0 : Int32)) := D23 (Or.inr (hw _ (gw 30 rfl))) (ty := .byte) (by decide)
  have D23_32 : Fld Z h23 b23 "java/lang/String" "value" "[B" .null := D23 (Or.inr (hw _ (gw 32 rfl))) (ty := (.array .byte)) (by decide)
  have f27 : Arv Z h23 b7 k7 .char (2 : Int32) [(.int i8), (.int i13)] (.int (0 : Int32)) := ((((V16.ext E17).other W21 (Nat.ne_of_lt (Nat.lt_of_lt_of_le (Nat.lt_of_lt_of_le (Nat.lt_of_lt_of_le lt_b7 (Keep.of_wr W11).1) (Keep.of_wr W16).1) bd_b17))).ext E22).ext E23)
  obtain ⟨_, _, ⟨T28, L28, k28, n28⟩, -, X28, ⟨Lc28, hQ28, l28, y28, z28⟩, st28⟩ := X23.specialBack hx (y := M_4) rfl hown (mvT hZ (hw _ (gw 7 rfl))) (mvT hZ (hw _ (gw 8 rfl))) (mvT hZ (hw _ (gw 9 rfl))) (by decide) (backOf (W := 3) (rm1_2 l Z a0 hw [] b23 b7 i8 i13 k7 p24 h23 n0  O23 f27 S_25 hk26 (own_lt255 hi8) (own_lt255 hi13) A23 D23_30 D23_32 (Nat.lt_of_lt_of_le (Nat.lt_of_lt_of_le (Nat.lt_of_lt_of_le (Nat.lt_of_lt_of_le (Nat.lt_of_lt_of_le (Nat.lt_of_lt_of_le lt_b7 (Keep.of_wr W11).1) (Keep.of_wr W16).1) E17.1) (Keep.of_wr W21).1) E22.1) E23.1) g_b23 lt_b23) hZ (hw _ (gw 9 rfl)) (hw _ (gw 6 rfl)) (by decide) (by decide)) (g := (mkF m 50 #[.val (.int p1), .val (.int p2), .val (.int p3), .val (.int p4), .val (.int p5), .val (.int p6), .val (.ref b7), .val (.ref b17), .unset, .unset, .unset, .unset, .unset, .unset, .unset, .unset, .unset] [(.ref b7), (.ref b23), (.ref b23), (.ref b22), (.ref b22)])) rfl (by rw [hml]; rfl) (Steps.refl _) (a := b23) (argsL := [(.ref b7)]) (rest := [(.ref b23), (.ref b22), (.ref b22)]) (lenOf pd_4 rfl) rfl (by show 2 * 0 + _ ≤ _; exact Nat.le_of_eq rfl) (hb hby at_50) (fun _ _ => ⟨rfl, e23, (by decide : 4 + 1 ≤ _), (by decide : 9 + 2 ≤ _)⟩)
  dsimp only [Pt.U, Pt.locs, Pt.cells, Pt.slots] at X28 l28 y28 z28 st28 hQ28
  subst l28 y28 z28
  obtain ⟨i29, i30, b31, k32, u33, u34, rfl, u36, u37, u38, Ku39, u40, u41, u42, u43, u44⟩ := hQ28
  have Ou39 : Old Z n0 T28.heap := O23.keep Ku39 (allS g_b23 all0)
  have g_b31 : n0 ≤ b31 := Nat.le_trans (own_z O23) u37
  have sz_b31 : h0.size ≤ b31 := Nat.le_trans (Nat.le_trans (Nat.le_trans (Nat.le_trans (Nat.le_trans (Nat.le_trans (Nat.le_trans E7.1 (Keep.of_wr W11).1) (Keep.of_wr W16).1) E17.1) (Keep.of_wr W21).1) E22.1) E23.1) u37
  have N28 := Fr.app N21 u36
  obtain ⟨T45, h45, X45, e45, E45, A45, D45, -, st45⟩ := newO X28 hx hZ hown (hw _ (gw 4 rfl)) (hw _ (gw 5 rfl)) (hw _ (gw 6 rfl)) rfl (g := (mkF m 53 #[.val (.int p1), .val (.int p2), .val (.int p3), .val (.int p4), .val (.int p5), .val (.int p6), .val (.ref b7), .val (.ref b17), .unset, .unset, .unset, .unset, .unset, .unset, .unset, .unset, .unset] [(.ref b23), (.ref b22), (.ref b22)])) rfl (hb hby at_53) (by decide) (by decide)
  obtain ⟨b45, g45⟩ : ∃ z, z = T28.heap.size := ⟨_, rfl⟩
  rw [← g45] at A45 D45 st45
  have O45 : Old Z n0 h45 := Ou39.ext E45
  have bd_b45 : T28.heap.size ≤ b45 := Nat.le_of_eq g45.symm
  have g_b45 : n0 ≤ b45 := Nat.le_trans (own_z Ou39) bd_b45
  have sz_b45 : h0.size ≤ b45 := Nat.le_trans (Nat.le_trans (Nat.le_trans (Nat.le_trans (Nat.le_trans (Nat.le_trans (Nat.le_trans (Nat.le_trans E7.1 (Keep.of_wr W11).1) (Keep.of_wr W16).1) E17.1) (Keep.of_wr W21).1) E22.1) E23.1) Ku39.1) bd_b45
  have lt_b45 : b45 < h45.size := A45.lt
  have D45_30 : Fld Z h45 b45 "java/lang/String" "coder" "B" (.int (0 : Int32)) := D45 (Or.inr (hw _ (gw 30 rfl))) (ty := .byte) (by decide)
  have D45_32 : Fld Z h45 b45 "java/lang/String" "value" "[B" .null := D45 (Or.inr (hw _ (gw 32 rfl))) (ty := (.array .byte)) (by decide)
  have f46 : Arv Z h45 b17 k17 .char (1 : Int32) [(.int i18)] (.int (0 : Int32)) := ((((V21.ext E22).ext E23).keep Ku39 (ninS (Nat.ne_of_lt (Nat.lt_of_lt_of_le (Nat.lt_of_lt_of_le (Nat.lt_of_lt_of_le lt_b17 (Keep.of_wr W21).1) E22.1) bd_b23)) nin0)).ext E45)
  obtain ⟨_, _, ⟨T47, L47, k47, n47⟩, -, X47, ⟨Lc47, hQ47, l47, y47, z47⟩, st47⟩ := X45.specialBack hx (y := M_4) rfl hown (mvT hZ (hw _ (gw 7 rfl))) (mvT hZ (hw _ (gw 8 rfl))) (mvT hZ (hw _ (gw 9 rfl))) (by decide) (backOf (W := 4) (rm1_7 l Z a0 hw [] b45 b17 i18 k17 p24 h45 n0  O45 f46 S_25 hk26 (own_lt255 hi18) A45 D45_30 D45_32 g_b45 lt_b45) hZ (hw _ (gw 9 rfl)) (hw _ (gw 6 rfl)) (by decide) (by decide)) (g := (mkF m 59 #[.val (.int p1), .val (.int p2), .val (.int p3), .val (.int p4), .val (.int p5), .val (.int p6), .val (.ref b7), .val (.ref b17), .unset, .unset, .unset, .unset, .unset, .unset, .unset, .unset, .unset] [(.ref b17), (.ref b45), (.ref b45), (.ref b23), (.ref b22), (.ref b22)])) rfl (by rw [hml]; rfl) (Steps.refl _) (a := b45) (argsL := [(.ref b17)]) (rest := [(.ref b45), (.ref b23), (.ref b22), (.ref b22)]) (lenOf pd_4 rfl) rfl (by show 2 * 0 + _ ≤ _; exact Nat.le_of_eq rfl) (hb hby at_59) (fun _ _ => ⟨rfl, e45, (by decide : 6 + 1 ≤ _), (by decide : 15 + 1 ≤ _)⟩)
  dsimp only [Pt.U, Pt.locs, Pt.cells, Pt.slots] at X47 l47 y47 z47 st47 hQ47
  subst l47 y47 z47
  obtain ⟨i48, b49, k50, u51, rfl, u53, u54, u55, Ku56, u57, u58, u59, u60, u61⟩ := hQ47
  have Ou56 : Old Z n0 T47.heap := O45.keep Ku56 (allS g_b45 all0)
  have g_b49 : n0 ≤ b49 := Nat.le_trans (own_z O45) u54
  have sz_b49 : h0.size ≤ b49 := Nat.le_trans (Nat.le_trans (Nat.le_trans (Nat.le_trans (Nat.le_trans (Nat.le_trans (Nat.le_trans (Nat.le_trans (Nat.le_trans E7.1 (Keep.of_wr W11).1) (Keep.of_wr W16).1) E17.1) (Keep.of_wr W21).1) E22.1) E23.1) Ku39.1) E45.1) u54
  have N47 := Fr.app N28 u53
  have f62 : Exa Z T47.heap b22 "com/example/stemline/stemline/model/TableColumn" := ((Exa.ext E45 ((Exa.ext E23 A22).keep Ku39)).keep Ku56)
  have f63 : Fld Z T47.heap b22 "com/example/stemline/stemline/model/TableColumn" "name" "Ljava/lang/String;" .null := ((Fld.ext E45 ((Fld.ext E23 D22_53).keep Ku39 (ninS (Nat.ne_of_lt (Nat.lt_of_lt_of_le lt_b22 bd_b23)) nin0))).keep Ku56 (ninS (Nat.ne_of_lt (Nat.lt_of_lt_of_le (Nat.lt_of_lt_of_le (Nat.lt_of_lt_of_le lt_b22 E23.1) Ku39.1) bd_b45)) nin0))
  have f64 : Fld Z T47.heap b22 "com/example/stemline/stemline/model/TableColumn" "table" "Ljava/lang/String;" .null := ((Fld.ext E45 ((Fld.ext E23 D22_51).keep Ku39 (ninS (Nat.ne_of_lt (Nat.lt_of_lt_of_le lt_b22 bd_b23)) nin0))).keep Ku56 (ninS (Nat.ne_of_lt (Nat.lt_of_lt_of_le (Nat.lt_of_lt_of_le (Nat.lt_of_lt_of_le lt_b22 E23.1) Ku39.1) bd_b45)) nin0))
  obtain ⟨_, _, ⟨T65, L65, k65, n65⟩, -, X65, sn65, gr65, ⟨Lc65, hQ65, l65, y65, z65⟩, st65⟩ := X47.specialBackS hx (y := M_7) rfl hown (mvT hZ (hw _ (gw 33 rfl))) (mvT hZ (hw _ (gw 34 rfl))) (mvT hZ (hw _ (gw 35 rfl))) (by decide) (backOfS (W := 1) (rm7_12 l Z a0 hw [] b22 b23 b45 T47.heap n0  Ou56 f62 f63 f64 g_b22) hZ (hw _ (gw 35 rfl)) (hw _ (gw 3 rfl)) (by decide) (by decide)) (g := (mkF m 62 #[.val (.int p1), .val (.int p2), .val (.int p3), .val (.int p4), .val (.int p5), .val (.int p6), .val (.ref b7), .val (.ref b17), .unset, .unset, .unset, .unset, .unset, .unset, .unset, .unset, .unset] [(.ref b45), (.ref b23), (.ref b22), (.ref b22)])) rfl (by rw [hml]; rfl) (Steps.refl _) (a := b22) (argsL := [(.ref b23), (.ref b45)]) (rest := [(.ref b22)]) (lenOf pd_7 rfl) rfl (by show 2 * 0 + _ ≤ _; exact Nat.le_of_eq rfl) (hb hby at_62) (fun _ _ => ⟨rfl, rfl, (by decide : 7 + 4 ≤ _), (by decide : 16 + 44 ≤ _)⟩)
  dsimp only [Pt.U, Pt.locs, Pt.cells, Pt.slots] at X65 l65 y65 z65 st65 hQ65 sn65 gr65
  subst l65 y65 z65
  have gs65 : T47.heap.size ≤ T65.heap.size := gr65
  have hS65 : s.Since T65.vm T65.heap.size := hS0.trans sn65 (Nat.le_trans (Nat.le_trans (Nat.le_trans (Nat.le_trans (Nat.le_trans (Nat.le_trans (Nat.le_trans (Nat.le_trans (Nat.le_trans (Nat.le_trans (Nat.le_trans Y0 E7.1) (Keep.of_wr W11).1) (Keep.of_wr W16).1) E17.1) (Keep.of_wr W21).1) E22.1) E23.1) Ku39.1) E45.1) Ku56.1) gs65)
  have hZ65 : Z.Warmed39 (s.setVm T65.vm).vm := State.Warmed39.trans (t := s) hZ sn65.1
  have hown65 : (s.setVm T65.vm).vm.findClass "com/example/stemline/stemline/graph/EdgeSourceColumnPinLaw" = some m.cls := by rw [show (s.setVm T65.vm).vm = T65.vm from rfl, sn65.1.alike.findClass]; exact hown
  obtain ⟨rfl, u67, Ku68, u69, u70, u71⟩ := hQ65
  have Ou68 : Old Z n0 T65.heap := Ou56.keep Ku68 (allS g_b22 all0)
  have N65 := Fr.app N47 u67
  obtain ⟨T72, h72, X72, e72, E72, A72, D72, -, st72⟩ := newO X65 hx hZ65 hown65 (hw _ (gw 1 rfl)) (hw _ (gw 2 rfl)) (hw _ (gw 3 rfl)) rfl (g := (mkF m 67 #[.val (.int p1), .val (.int p2), .val (.int p3), .val (.int p4), .val (.int p5), .val (.int p6), .val (.ref b7), .val (.ref b17), .val (.ref b22), .unset, .unset, .unset, .unset, .unset, .unset, .unset, .unset] [])) rfl (hb hby at_67) (by decide) (by decide)
  obtain ⟨b72, g72⟩ : ∃ z, z = T65.heap.size := ⟨_, rfl⟩
  rw [← g72] at A72 D72 st72
  have O72 : Old Z n0 h72 := Ou68.ext E72
  have bd_b72 : T65.heap.size ≤ b72 := Nat.le_of_eq g72.symm
  have g_b72 : n0 ≤ b72 := Nat.le_trans (own_z Ou68) bd_b72
  have sz_b72 : h0.size ≤ b72 := Nat.le_trans (Nat.le_trans (Nat.le_trans (Nat.le_trans (Nat.le_trans (Nat.le_trans (Nat.le_trans (Nat.le_trans (Nat.le_trans (Nat.le_trans (Nat.le_trans E7.1 (Keep.of_wr W11).1) (Keep.of_wr W16).1) E17.1) (Keep.of_wr W21).1) E22.1) E23.1) Ku39.1) E45.1) Ku56.1) Ku68.1) bd_b72
  have lt_b72 : b72 < h72.size := A72.lt
  have D72_51 : Fld Z h72 b72 "com/example/stemline/stemline/model/TableColumn" "table" "Ljava/lang/String;" .null := D72 (Or.inr (hw _ (gw 51 rfl))) (ty := (.object "java/lang/String")) (by decide)
  have D72_53 : Fld Z h72 b72 "com/example/stemline/stemline/model/TableColumn" "name" "Ljava/lang/String;" .null := D72 (Or.inr (hw _ (gw 53 rfl))) (ty := (.object "java/lang/String")) (by decide)
  obtain ⟨i73, hi73⟩ : ∃ z, z = (p3 &&& (255 : Int32)) := ⟨_, rfl⟩
  obtain ⟨_, _, ⟨T74, L74, k74, n74⟩, -, X74, ⟨Lc74, hQ74, l74, y74, z74⟩, st74⟩ := Jvm.LawKit.callS X72 hx (y := M_11) hown65 (mvT hZ65 (hw _ (gw 54 rfl))) (mvT hZ65 (hw _ (gw 55 rfl))) (mvT hZ65 (hw _ (gw 6 rfl))) (mvT hZ65 (hw _ (gw 56 rfl))) (by decide) (backOf (W := 2) (rm10_15 l Z a0 hw [] i73 p24 h72 n0  O72 S_25 hk26 (own_lt255 hi73)) hZ65 (hw _ (gw 56 rfl)) (hw _ (gw 6 rfl)) (by decide) (by decide)) (g := (mkF m 77 #[.val (.int p1), .val (.int p2), .val (.int p3), .val (.int p4), .val (.int p5), .val (.int p6), .val (.ref b7), .val (.ref b17), .val (.ref b22), .unset, .unset, .unset, .unset, .unset, .unset, .unset, .unset] [(.int i73), (.ref b72), (.ref b72)])) rfl (by rw [hml]; rfl) (argsL := [(.int i73)]) (rest := [(.ref b72), (.ref b72)]) (lenOf pd_11 rfl) rfl (by show 2 * 0 + _ ≤ _; exact Nat.le_of_eq rfl) (hb hby at_77) (fun _ _ => ⟨rfl, e72, (by decide : 12 + 2 ≤ _), (by decide : 62 + 5 ≤ _)⟩)
  dsimp only [Pt.U, Pt.locs, Pt.cells, Pt.slots] at X74 l74 y74 z74 st74 hQ74
  subst l74 y74 z74
  obtain ⟨i75, b76, b77, k78, u79, rfl, u81, u82, u83, u84, u85, u86, Ku87, u88, u89, u90, u91, u92⟩ := hQ74
  have Ou87 : Old Z n0 T74.heap := O72.keep Ku87 all0
  have g_b76 : n0 ≤ b76 := Nat.le_trans (own_z O72) u82
  have sz_b76 : h0.size ≤ b76 := Nat.le_trans (Nat.le_trans (Nat.le_trans (Nat.le_trans (Nat.le_trans (Nat.le_trans (Nat.le_trans (Nat.le_trans (Nat.le_trans (Nat.le_trans (Nat.le_trans (Nat.le_trans E7.1 (Keep.of_wr W11).1) (Keep.of_wr W16).1) E17.1) (Keep.of_wr W21).1) E22.1) E23.1) Ku39.1) E45.1) Ku56.1) Ku68.1) E72.1) u82
  have g_b77 : n0 ≤ b77 := Nat.le_trans (own_z O72) u84
  have sz_b77 : h0.size ≤ b77 := Nat.le_trans (Nat.le_trans (Nat.le_trans (Nat.le_trans (Nat.le_trans (Nat.le_trans (Nat.le_trans (Nat.le_trans (Nat.le_trans (Nat.le_trans (Nat.le_trans (Nat.le_trans E7.1 (Keep.of_wr W11).1) (Keep.of_wr W16).1) E17.1) (Keep.of_wr W21).1) E22.1) E23.1) Ku39.1) E45.1) Ku56.1) Ku68.1) E72.1) u84
  have N74 := Fr.app N65 u81
  obtain ⟨i93, hi93⟩ : ∃ z, z = (p4 &&& (255 : Int32)) := ⟨_, rfl⟩
  obtain ⟨_, _, ⟨T94, L94, k94, n94⟩, -, X94, ⟨Lc94, hQ94, l94, y94, z94⟩, st94⟩ := Jvm.LawKit.callS X74 hx (y := M_11) hown65 (mvT hZ65 (hw _ (gw 54 rfl))) (mvT hZ65 (hw _ (gw 55 rfl))) (mvT hZ65 (hw _ (gw 6 rfl))) (mvT hZ65 (hw _ (gw 56 rfl))) (by decide) (backOf (W := 3) (rm10_15 l Z a0 hw [] i93 p24 T74.heap n0  Ou87 S_25 hk26 (own_lt255 hi93)) hZ65 (hw _ (gw 56 rfl)) (hw _ (gw 6 rfl)) (by decide) (by decide)) (g := (mkF m 86 #[.val (.int p1), .val (.int p2), .val (.int p3), .val (.int p4), .val (.int p5), .val (.int p6), .val (.ref b7), .val (.ref b17), .val (.ref b22), .unset, .unset, .unset, .unset, .unset, .unset, .unset, .unset] [(.int i93), (.ref b76), (.ref b72), (.ref b72)])) rfl (by rw [hml]; rfl) (argsL := [(.int i93)]) (rest := [(.ref b76), (.ref b72), (.ref b72)]) (lenOf pd_11 rfl) rfl (by show 2 * 0 + _ ≤ _; exact Nat.le_of_eq rfl) (hb hby at_86) (fun _ _ => ⟨rfl, rfl, (by decide : 14 + 2 ≤ _), (by decide : 67 + 5 ≤ _)⟩)
  dsimp only [Pt.U, Pt.locs, Pt.cells, Pt.slots] at X94 l94 y94 z94 st94 hQ94
  subst l94 y94 z94
  obtain ⟨i95, b96, b97, k98, u99, rfl, u101, u102, u103, u104, u105, u106, Ku107, u108, u109, u110, u111, u112⟩ := hQ94
  have Ou107 : Old Z n0 T94.heap := Ou87.keep Ku107 all0
  have g_b96 : n0 ≤ b96 := Nat.le_trans (own_z Ou87) u102
  have sz_b96 : h0.size ≤ b96 := Nat.le_trans (Nat.le_trans (Nat.le_trans (Nat.le_trans (Nat.le_trans (Nat.le_trans (Nat.le_trans (Nat.le_trans (Nat.le_trans (Nat.le_trans (Nat.le_trans (Nat.le_trans (Nat.le_trans E7.1 (Keep.of_wr W11).1) (Keep.of_wr W16).1) E17.1) (Keep.of_wr W21).1) E22.1) E23.1) Ku39.1) E45.1) Ku56.1) Ku68.1) E72.1) Ku87.1) u102
  have g_b97 : n0 ≤ b97 := Nat.le_trans (own_z Ou87) u104
  have sz_b97 : h0.size ≤ b97 := Nat.le_trans (Nat.le_trans (Nat.le_trans (Nat.le_trans (Nat.le_trans (Nat.le_trans (Nat.le_trans (Nat.le_trans (Nat.le_trans (Nat.le_trans (Nat.le_trans (Nat.le_trans (Nat.le_trans E7.1 (Keep.of_wr W11).1) (Keep.of_wr W16).1) E17.1) (Keep.of_wr W21).1) E22.1) E23.1) Ku39.1) E45.1) Ku56.1) Ku68.1) E72.1) Ku87.1) u104
  have N94 := Fr.app N74 u101
  have f113 : Exa Z T94.heap b72 "com/example/stemline/stemline/model/TableColumn" := ((A72.keep Ku87).keep Ku107)
  have f114 : Fld Z T94.heap b72 "com/example/stemline/stemline/model/TableColumn" "name" "Ljava/lang/String;" .null := ((D72_53.keep Ku87 nin0).keep Ku107 nin0)
  have f115 : Fld Z T94.heap b72 "com/example/stemline/stemline/model/TableColumn" "table" "Ljava/lang/String;" .null := ((D72_51.keep Ku87 nin0).keep Ku107 nin0)
  obtain ⟨_, _, ⟨T116, L116, k116, n116⟩, -, X116, sn116, gr116, ⟨Lc116, hQ116, l116, y116, z116⟩, st116⟩ := X94.specialBackS hx (y := M_7) rfl hown65 (mvT hZ65 (hw _ (gw 33 rfl))) (mvT hZ65 (hw _ (gw 34 rfl))) (mvT hZ65 (hw _ (gw 35 rfl))) (by decide) (backOfS (W := 1) (rm7_12 l Z a0 hw [] b72 b76 b96 T94.heap n0  Ou107 f113 f114 f115 g_b72) hZ65 (hw _ (gw 35 rfl)) (hw _ (gw 3 rfl)) (by decide) (by decide)) (g := (mkF m 89 #[.val (.int p1), .val (.int p2), .val (.int p3), .val (.int p4), .val (.int p5), .val (.int p6), .val (.ref b7), .val (.ref b17), .val (.ref b22), .unset, .unset, .unset, .unset, .unset, .unset, .unset, .unset] [(.ref b96), (.ref b76), (.ref b72), (.ref b72)])) rfl (by rw [hml]; rfl) (Steps.refl _) (a := b72) (argsL := [(.ref b76), (.ref b96)]) (rest := [(.ref b72)]) (lenOf pd_7 rfl) rfl (by show 2 * 0 + _ ≤ _; exact Nat.le_of_eq rfl) (hb hby at_89) (fun _ _ => ⟨rfl, rfl, (by decide : 16 + 4 ≤ _), (by decide : 72 + 44 ≤ _)⟩)
  dsimp only [Pt.U, Pt.locs, Pt.cells, Pt.slots] at X116 l116 y116 z116 st116 hQ116 sn116 gr116
  subst l116 y116 z116
  have gs116 : T94.heap.size ≤ T116.heap.size := gr116
  have hS116 : s.Since T116.vm T116.heap.size := hS65.trans sn116 (Nat.le_trans (Nat.le_trans (Nat.le_trans (Nat.le_trans (Nat.le_refl _) E72.1) Ku87.1) Ku107.1) gs116)
  have hZ116 : Z.Warmed39 (s.setVm T116.vm).vm := State.Warmed39.trans (t := (s.setVm T65.vm)) hZ65 sn116.1
  have hown116 : (s.setVm T116.vm).vm.findClass "com/example/stemline/stemline/graph/EdgeSourceColumnPinLaw" = some m.cls := by rw [show (s.setVm T116.vm).vm = T116.vm from rfl, sn116.1.alike.findClass]; exact hown65
  obtain ⟨rfl, u118, Ku119, u120, u121, u122⟩ := hQ116
  have Ou119 : Old Z n0 T116.heap := Ou107.keep Ku119 (allS g_b72 all0)
  have N116 := Fr.app N94 u118
  obtain ⟨i123, hi123⟩ : ∃ z, z = ((p6.toUInt32 >>> ((1 : Int32) &&& 31).toUInt32).toInt32) := ⟨_, rfl⟩
  obtain ⟨i124, hi124⟩ : ∃ z, z = (i123 % (3 : Int32)) := ⟨_, rfl⟩
  have pre125 : ∀ t, Steps p.tables e below (T116.setTop (mkF m 104 #[.val (.int p1), .val (.int p2), .val (.int p3), .val (.int p4), .val (.int p5), .val (.int p6), .val (.ref b7), .val (.ref b17), .val (.ref b22), .val (.ref b72), .val (.int i124), .unset, .unset, .unset, .unset, .unset, .unset] [(.int i124)])) t → Steps p.tables e below (s₁.setTop (entryFrame m #[(.int p1), (.int p2), (.int p3), (.int p4), (.int p5), (.int p6)] maxLocals)) t := by
    intro t kt
    refine pre0 t ?_
    show Steps p.tables e below (s₁.setTop (mkF m 0 #[.val (.int p1), .val (.int p2), .val (.int p3), .val (.int p4), .val (.int p5), .val (.int p6), .unset, .unset, .unset, .unset, .unset, .unset, .unset, .unset, .unset, .unset, .unset] [])) _
    refine XS.iconst X0.here hx rfl (hb hby at_0) ?_
    show Steps p.tables e below (s₁.setTop (mkF m 1 #[.val (.int p1), .val (.int p2), .val (.int p3), .val (.int p4), .val (.int p5), .val (.int p6), .unset, .unset, .unset, .unset, .unset, .unset, .unset, .unset, .unset, .unset, .unset] [(.int (2 : Int32))])) _
    refine st7 _ ?_
    show Steps p.tables e below (T7.setTop (mkF m 3 #[.val (.int p1), .val (.int p2), .val (.int p3), .val (.int p4), .val (.int p5), .val (.int p6), .unset, .unset, .unset, .unset, .unset, .unset, .unset, .unset, .unset, .unset, .unset] [(.ref b7)])) _
    refine XS.dup X7.here hx rfl (hb hby at_3) rfl rfl ?_
    show Steps p.tables e below (T7.setTop (mkF m 4 #[.val (.int p1), .val (.int p2), .val (.int p3), .val (.int p4), .val (.int p5), .val (.int p6), .unset, .unset, .unset, .unset, .unset, .unset, .unset, .unset, .unset, .unset, .unset] [(.ref b7), (.ref b7)])) _
    refine XS.iconst X7.here hx rfl (hb hby at_4) ?_
    show Steps p.tables e below (T7.setTop (mkF m 5 #[.val (.int p1), .val (.int p2), .val (.int p3), .val (.int p4), .val (.int p5), .val (.int p6), .unset, .unset, .unset, .unset, .unset, .unset, .unset, .unset, .unset, .unset, .unset] [(.int (0 : Int32)), (.ref b7), (.ref b7)])) _
    refine XS.iloadN X7.here hx rfl (hb hby at_5) rfl ?_
    show Steps p.tables e below (T7.setTop (mkF m 6 #[.val (.int p1), .val (.int p2), .val (.int p3), .val (.int p4), .val (.int p5), .val (.int p6), .unset, .unset, .unset, .unset, .unset, .unset, .unset, .unset, .unset, .unset, .unset] [(.int p1), (.int (0 : Int32)), (.ref b7), (.ref b7)])) _
    refine XS.sipush X7.here hx rfl (hb hby at_6) ?_
    show Steps p.tables e below (T7.setTop (mkF m 9 #[.val (.int p1), .val (.int p2), .val (.int p3), .val (.int p4), .val (.int p5), .val (.int p6), .unset, .unset, .unset, .unset, .unset, .unset, .unset, .unset, .unset, .unset, .unset] [(.int (255 : Int32)), (.int p1), (.int (0 : Int32)), (.ref b7), (.ref b7)])) _
    refine XS.iand X7.here hx rfl (hb hby at_9) rfl ?_
    show Steps p.tables e below (T7.setTop (mkF m 10 #[.val (.int p1), .val (.int p2), .val (.int p3), .val (.int p4), .val (.int p5), .val (.int p6), .unset, .unset, .unset, .unset, .unset, .unset, .unset, .unset, .unset, .unset, .unset] [(.int (p1 &&& (255 : Int32))), (.int (0 : Int32)), (.ref b7), (.ref b7)])) _
    rw [← hi8]
    show Steps p.tables e below (T7.setTop (mkF m 10 #[.val (.int p1), .val (.int p2), .val (.int p3), .val (.int p4), .val (.int p5), .val (.int p6), .unset, .unset, .unset, .unset, .unset, .unset, .unset, .unset, .unset, .unset, .unset] [(.int i8), (.int (0 : Int32)), (.ref b7), (.ref b7)])) _
    refine XS.i2c X7.here hx rfl (hb hby at_10) rfl ?_
    show Steps p.tables e below (T7.setTop (mkF m 11 #[.val (.int p1), .val (.int p2), .val (.int p3), .val (.int p4), .val (.int p5), .val (.int p6), .unset, .unset, .unset, .unset, .unset, .unset, .unset, .unset, .unset, .unset, .unset] [(.int (i8.toUInt32.toUInt16.toUInt32.toInt32)), (.int (0 : Int32)), (.ref b7), (.ref b7)])) _
    rw [(own_i2c255 hi8)]
    show Steps p.tables e below (T7.setTop (mkF m 11 #[.val (.int p1), .val (.int p2), .val (.int p3), .val (.int p4), .val (.int p5), .val (.int p6), .unset, .unset, .unset, .unset, .unset, .unset, .unset, .unset, .unset, .unset, .unset] [(.int i8), (.int (0 : Int32)), (.ref b7), (.ref b7)])) _
    refine st11 _ ?_
    show Steps p.tables e below (T11.setTop (mkF m 12 #[.val (.int p1), .val (.int p2), .val (.int p3), .val (.int p4), .val (.int p5), .val (.int p6), .unset, .unset, .unset, .unset, .unset, .unset, .unset, .unset, .unset, .unset, .unset] [(.ref b7)])) _
    refine XS.dup X11.here hx rfl (hb hby at_12) rfl rfl ?_
    show Steps p.tables e below (T11.setTop (mkF m 13 #[.val (.int p1), .val (.int p2), .val (.int p3), .val (.int p4), .val (.int p5), .val (.int p6), .unset, .unset, .unset, .unset, .unset, .unset, .unset, .unset, .unset, .unset, .unset] [(.ref b7), (.ref b7)])) _
    refine XS.iconst X11.here hx rfl (hb hby at_13) ?_
    show Steps p.tables e below (T11.setTop (mkF m 14 #[.val (.int p1), .val (.int p2), .val (.int p3), .val (.int p4), .val (.int p5), .val (.int p6), .unset, .unset, .unset, .unset, .unset, .unset, .unset, .unset, .unset, .unset, .unset] [(.int (1 : Int32)), (.ref b7), (.ref b7)])) _
    refine XS.iloadN X11.here hx rfl (hb hby at_14) rfl ?_
    show Steps p.tables e below (T11.setTop (mkF m 15 #[.val (.int p1), .val (.int p2), .val (.int p3), .val (.int p4), .val (.int p5), .val (.int p6), .unset, .unset, .unset, .unset, .unset, .unset, .unset, .unset, .unset, .unset, .unset] [(.int p1), (.int (1 : Int32)), (.ref b7), (.ref b7)])) _
    refine XS.bipush X11.here hx rfl (hb hby at_15) ?_
    show Steps p.tables e below (T11.setTop (mkF m 17 #[.val (.int p1), .val (.int p2), .val (.int p3), .val (.int p4), .val (.int p5), .val (.int p6), .unset, .unset, .unset, .unset, .unset, .unset, .unset, .unset, .unset, .unset, .unset] [(.int (8 : Int32)), (.int p1), (.int (1 : Int32)), (.ref b7), (.ref b7)])) _
    refine XS.iushr X11.here hx rfl (hb hby at_17) rfl ?_
    show Steps p.tables e below (T11.setTop (mkF m 18 #[.val (.int p1), .val (.int p2), .val (.int p3), .val (.int p4), .val (.int p5), .val (.int p6), .unset, .unset, .unset, .unset, .unset, .unset, .unset, .unset, .unset, .unset, .unset] [(.int ((p1.toUInt32 >>> ((8 : Int32) &&& 31).toUInt32).toInt32)), (.int (1 : Int32)), (.ref b7), (.ref b7)])) _
    rw [← hi12]
    show Steps p.tables e below (T11.setTop (mkF m 18 #[.val (.int p1), .val (.int p2), .val (.int p3), .val (.int p4), .val (.int p5), .val (.int p6), .unset, .unset, .unset, .unset, .unset, .unset, .unset, .unset, .unset, .unset, .unset] [(.int i12), (.int (1 : Int32)), (.ref b7), (.ref b7)])) _
    refine XS.sipush X11.here hx rfl (hb hby at_18) ?_
    show Steps p.tables e below (T11.setTop (mkF m 21 #[.val (.int p1), .val (.int p2), .val (.int p3), .val (.int p4), .val (.int p5), .val (.int p6), .unset, .unset, .unset, .unset, .unset, .unset, .unset, .unset, .unset, .unset, .unset] [(.int (255 : Int32)), (.int i12), (.int (1 : Int32)), (.ref b7), (.ref b7)])) _
    refine XS.iand X11.here hx rfl (hb hby at_21) rfl ?_
    show Steps p.tables e below (T11.setTop (mkF m 22 #[.val (.int p1), .val (.int p2), .val (.int p3), .val (.int p4), .val (.int p5), .val (.int p6), .unset, .unset, .unset, .unset, .unset, .unset, .unset, .unset, .unset, .unset, .unset] [(.int (i12 &&& (255 : Int32))), (.int (1 : Int32)), (.ref b7), (.ref b7)])) _
    rw [← hi13]
    show Steps p.tables e below (T11.setTop (mkF m 22 #[.val (.int p1), .val (.int p2), .val (.int p3), .val (.int p4), .val (.int p5), .val (.int p6), .unset, .unset, .unset, .unset, .unset, .unset, .unset, .unset, .unset, .unset, .unset] [(.int i13), (.int (1 : Int32)), (.ref b7), (.ref b7)])) _
    refine XS.i2c X11.here hx rfl (hb hby at_22) rfl ?_
    show Steps p.tables e below (T11.setTop (mkF m 23 #[.val (.int p1), .val (.int p2), .val (.int p3), .val (.int p4), .val (.int p5), .val (.int p6), .unset, .unset, .unset, .unset, .unset, .unset, .unset, .unset, .unset, .unset, .unset] [(.int (i13.toUInt32.toUInt16.toUInt32.toInt32)), (.int (1 : Int32)), (.ref b7), (.ref b7)])) _
    rw [(own_i2c255 hi13)]
    show Steps p.tables e below (T11.setTop (mkF m 23 #[.val (.int p1), .val (.int p2), .val (.int p3), .val (.int p4), .val (.int p5), .val (.int p6), .unset, .unset, .unset, .unset, .unset, .unset, .unset, .unset, .unset, .unset, .unset] [(.int i13), (.int (1 : Int32)), (.ref b7), (.ref b7)])) _
    refine st16 _ ?_
    show Steps p.tables e below (T16.setTop (mkF m 24 #[.val (.int p1), .val (.int p2), .val (.int p3), .val (.int p4), .val (.int p5), .val (.int p6), .unset, .unset, .unset, .unset, .unset, .unset, .unset, .unset, .unset, .unset, .unset] [(.ref b7)])) _
    refine XS.astore X16.here hx rfl (hb hby at_24) rfl rfl (l' := #[.val (.int p1), .val (.int p2), .val (.int p3), .val (.int p4), .val (.int p5), .val (.int p6), .val (.ref b7), .unset, .unset, .unset, .unset, .unset, .unset, .unset, .unset, .unset, .unset]) rfl ?_
    show Steps p.tables e below (T16.setTop (mkF m 26 #[.val (.int p1), .val (.int p2), .val (.int p3), .val (.int p4), .val (.int p5), .val (.int p6), .val (.ref b7), .unset, .unset, .unset, .unset, .unset, .unset, .unset, .unset, .unset, .unset] [])) _
    refine XS.iconst X16.here hx rfl (hb hby at_26) ?_
    show Steps p.tables e below (T16.setTop (mkF m 27 #[.val (.int p1), .val (.int p2), .val (.int p3), .val (.int p4), .val (.int p5), .val (.int p6), .val (.ref b7), .unset, .unset, .unset, .unset, .unset, .unset, .unset, .unset, .unset, .unset] [(.int (1 : Int32))])) _
    refine st17 _ ?_
    show Steps p.tables e below (T17.setTop (mkF m 29 #[.val (.int p1), .val (.int p2), .val (.int p3), .val (.int p4), .val (.int p5), .val (.int p6), .val (.ref b7), .unset, .unset, .unset, .unset, .unset, .unset, .unset, .unset, .unset, .unset] [(.ref b17)])) _
    refine XS.dup X17.here hx rfl (hb hby at_29) rfl rfl ?_
    show Steps p.tables e below (T17.setTop (mkF m 30 #[.val (.int p1), .val (.int p2), .val (.int p3), .val (.int p4), .val (.int p5), .val (.int p6), .val (.ref b7), .unset, .unset, .unset, .unset, .unset, .unset, .unset, .unset, .unset, .unset] [(.ref b17), (.ref b17)])) _
    refine XS.iconst X17.here hx rfl (hb hby at_30) ?_
    show Steps p.tables e below (T17.setTop (mkF m 31 #[.val (.int p1), .val (.int p2), .val (.int p3), .val (.int p4), .val (.int p5), .val (.int p6), .val (.ref b7), .unset, .unset, .unset, .unset, .unset, .unset, .unset, .unset, .unset, .unset] [(.int (0 : Int32)), (.ref b17), (.ref b17)])) _
    refine XS.iloadN X17.here hx rfl (hb hby at_31) rfl ?_
    show Steps p.tables e below (T17.setTop (mkF m 32 #[.val (.int p1), .val (.int p2), .val (.int p3), .val (.int p4), .val (.int p5), .val (.int p6), .val (.ref b7), .unset, .unset, .unset, .unset, .unset, .unset, .unset, .unset, .unset, .unset] [(.int p2), (.int (0 : Int32)), (.ref b17), (.ref b17)])) _
    refine XS.sipush X17.here hx rfl (hb hby at_32) ?_
    show Steps p.tables e below (T17.setTop (mkF m 35 #[.val (.int p1), .val (.int p2), .val (.int p3), .val (.int p4), .val (.int p5), .val (.int p6), .val (.ref b7), .unset, .unset, .unset, .unset, .unset, .unset, .unset, .unset, .unset, .unset] [(.int (255 : Int32)), (.int p2), (.int (0 : Int32)), (.ref b17), (.ref b17)])) _
    refine XS.iand X17.here hx rfl (hb hby at_35) rfl ?_
    show Steps p.tables e below (T17.setTop (mkF m 36 #[.val (.int p1), .val (.int p2), .val (.int p3), .val (.int p4), .val (.int p5), .val (.int p6), .val (.ref b7), .unset, .unset, .unset, .unset, .unset, .unset, .unset, .unset, .unset, .unset] [(.int (p2 &&& (255 : Int32))), (.int (0 : Int32)), (.ref b17), (.ref b17)])) _
    rw [← hi18]
    show Steps p.tables e below (T17.setTop (mkF m 36 #[.val (.int p1), .val (.int p2), .val (.int p3), .val (.int p4), .val (.int p5), .val (.int p6), .val (.ref b7), .unset, .unset, .unset, .unset, .unset, .unset, .unset, .unset, .unset, .unset] [(.int i18), (.int (0 : Int32)), (.ref b17), (.ref b17)])) _
    refine XS.i2c X17.here hx rfl (hb hby at_36) rfl ?_
    show Steps p.tables e below (T17.setTop (mkF m 37 #[.val (.int p1), .val (.int p2), .val (.int p3), .val (.int p4), .val (.int p5), .val (.int p6), .val (.ref b7), .unset, .unset, .unset, .unset, .unset, .unset, .unset, .unset, .unset, .unset] [(.int (i18.toUInt32.toUInt16.toUInt32.toInt32)), (.int (0 : Int32)), (.ref b17), (.ref b17)])) _
    rw [(own_i2c255 hi18)]
    show Steps p.tables e below (T17.setTop (mkF m 37 #[.val (.int p1), .val (.int p2), .val (.int p3), .val (.int p4), .val (.int p5), .val (.int p6), .val (.ref b7), .unset, .unset, .unset, .unset, .unset, .unset, .unset, .unset, .unset, .unset] [(.int i18), (.int (0 : Int32)), (.ref b17), (.ref b17)])) _
    refine st21 _ ?_
    show Steps p.tables e below (T21.setTop (mkF m 38 #[.val (.int p1), .val (.int p2), .val (.int p3), .val (.int p4), .val (.int p5), .val (.int p6), .val (.ref b7), .unset, .unset, .unset, .unset, .unset, .unset, .unset, .unset, .unset, .unset] [(.ref b17)])) _
    refine XS.astore X21.here hx rfl (hb hby at_38) rfl rfl (l' := #[.val (.int p1), .val (.int p2), .val (.int p3), .val (.int p4), .val (.int p5), .val (.int p6), .val (.ref b7), .val (.ref b17), .unset, .unset, .unset, .unset, .unset, .unset, .unset, .unset, .unset]) rfl ?_
    show Steps p.tables e below (T21.setTop (mkF m 40 #[.val (.int p1), .val (.int p2), .val (.int p3), .val (.int p4), .val (.int p5), .val (.int p6), .val (.ref b7), .val (.ref b17), .unset, .unset, .unset, .unset, .unset, .unset, .unset, .unset, .unset] [])) _
    refine st22 _ ?_
    show Steps p.tables e below (T22.setTop (mkF m 43 #[.val (.int p1), .val (.int p2), .val (.int p3), .val (.int p4), .val (.int p5), .val (.int p6), .val (.ref b7), .val (.ref b17), .unset, .unset, .unset, .unset, .unset, .unset, .unset, .unset, .unset] [(.ref b22)])) _
    refine XS.dup X22.here hx rfl (hb hby at_43) rfl rfl ?_
    show Steps p.tables e below (T22.setTop (mkF m 44 #[.val (.int p1), .val (.int p2), .val (.int p3), .val (.int p4), .val (.int p5), .val (.int p6), .val (.ref b7), .val (.ref b17), .unset, .unset, .unset, .unset, .unset, .unset, .unset, .unset, .unset] [(.ref b22), (.ref b22)])) _
    refine st23 _ ?_
    show Steps p.tables e below (T23.setTop (mkF m 47 #[.val (.int p1), .val (.int p2), .val (.int p3), .val (.int p4), .val (.int p5), .val (.int p6), .val (.ref b7), .val (.ref b17), .unset, .unset, .unset, .unset, .unset, .unset, .unset, .unset, .unset] [(.ref b23), (.ref b22), (.ref b22)])) _
    refine XS.dup X23.here hx rfl (hb hby at_47) rfl rfl ?_
    show Steps p.tables e below (T23.setTop (mkF m 48 #[.val (.int p1), .val (.int p2), .val (.int p3), .val (.int p4), .val (.int p5), .val (.int p6), .val (.ref b7), .val (.ref b17), .unset, .unset, .unset, .unset, .unset, .unset, .unset, .unset, .unset] [(.ref b23), (.ref b23), (.ref b22), (.ref b22)])) _
    refine XS.aload X23.here hx rfl (hb hby at_48) rfl rfl ?_
    show Steps p.tables e below (T23.setTop (mkF m 50 #[.val (.int p1), .val (.int p2), .val (.int p3), .val (.int p4), .val (.int p5), .val (.int p6), .val (.ref b7), .val (.ref b17), .unset, .unset, .unset, .unset, .unset, .unset, .unset, .unset, .unset] [(.ref b7), (.ref b23), (.ref b23), (.ref b22), (.ref b22)])) _
    refine st28.trans ?_
    show Steps p.tables e below (T28.setTop (mkF m 53 #[.val (.int p1), .val (.int p2), .val (.int p3), .val (.int p4), .val (.int p5), .val (.int p6), .val (.ref b7), .val (.ref b17), .unset, .unset, .unset, .unset, .unset, .unset, .unset, .unset, .unset] [(.ref b23), (.ref b22), (.ref b22)])) _
    refine st45 _ ?_
    show Steps p.tables e below (T45.setTop (mkF m 56 #[.val (.int p1), .val (.int p2), .val (.int p3), .val (.int p4), .val (.int p5), .val (.int p6), .val (.ref b7), .val (.ref b17), .unset, .unset, .unset, .unset, .unset, .unset, .unset, .unset, .unset] [(.ref b45), (.ref b23), (.ref b22), (.ref b22)])) _
    refine XS.dup X45.here hx rfl (hb hby at_56) rfl rfl ?_
    show Steps p.tables e below (T45.setTop (mkF m 57 #[.val (.int p1), .val (.int p2), .val (.int p3), .val (.int p4), .val (.int p5), .val (.int p6), .val (.ref b7), .val (.ref b17), .unset, .unset, .unset, .unset, .unset, .unset, .unset, .unset, .unset] [(.ref b45), (.ref b45), (.ref b23), (.ref b22), (.ref b22)])) _
    refine XS.aload X45.here hx rfl (hb hby at_57) rfl rfl ?_
    show Steps p.tables e below (T45.setTop (mkF m 59 #[.val (.int p1), .val (.int p2), .val (.int p3), .val (.int p4), .val (.int p5), .val (.int p6), .val (.ref b7), .val (.ref b17), .unset, .unset, .unset, .unset, .unset, .unset, .unset, .unset, .unset] [(.ref b17), (.ref b45), (.ref b45), (.ref b23), (.ref b22), (.ref b22)])) _
    refine st47.trans ?_
    show Steps p.tables e below (T47.setTop (mkF m 62 #[.val (.int p1), .val (.int p2), .val (.int p3), .val (.int p4), .val (.int p5), .val (.int p6), .val (.ref b7), .val (.ref b17), .unset, .unset, .unset, .unset, .unset, .unset, .unset, .unset, .unset] [(.ref b45), (.ref b23), (.ref b22), (.ref b22)])) _
    refine st65.trans ?_
    show Steps p.tables e below (T65.setTop (mkF m 65 #[.val (.int p1), .val (.int p2), .val (.int p3), .val (.int p4), .val (.int p5), .val (.int p6), .val (.ref b7), .val (.ref b17), .unset, .unset, .unset, .unset, .unset, .unset, .unset, .unset, .unset] [(.ref b22)])) _
    refine XS.astore X65.here hx rfl (hb hby at_65) rfl rfl (l' := #[.val (.int p1), .val (.int p2), .val (.int p3), .val (.int p4), .val (.int p5), .val (.int p6), .val (.ref b7), .val (.ref b17), .val (.ref b22), .unset, .unset, .unset, .unset, .unset, .unset, .unset, .unset]) rfl ?_
    show Steps p.tables e below (T65.setTop (mkF m 67 #[.val (.int p1), .val (.int p2), .val (.int p3), .val (.int p4), .val (.int p5), .val (.int p6), .val (.ref b7), .val (.ref b17), .val (.ref b22), .unset, .unset, .unset, .unset, .unset, .unset, .unset, .unset] [])) _
    refine st72 _ ?_
    show Steps p.tables e below (T72.setTop (mkF m 70 #[.val (.int p1), .val (.int p2), .val (.int p3), .val (.int p4), .val (.int p5), .val (.int p6), .val (.ref b7), .val (.ref b17), .val (.ref b22), .unset, .unset, .unset, .unset, .unset, .unset, .unset, .unset] [(.ref b72)])) _
    refine XS.dup X72.here hx rfl (hb hby at_70) rfl rfl ?_
    show Steps p.tables e below (T72.setTop (mkF m 71 #[.val (.int p1), .val (.int p2), .val (.int p3), .val (.int p4), .val (.int p5), .val (.int p6), .val (.ref b7), .val (.ref b17), .val (.ref b22), .unset, .unset, .unset, .unset, .unset, .unset, .unset, .unset] [(.ref b72), (.ref b72)])) _
    refine XS.iloadN X72.here hx rfl (hb hby at_71) rfl ?_
    show Steps p.tables e below (T72.setTop (mkF m 72 #[.val (.int p1), .val (.int p2), .val (.int p3), .val (.int p4), .val (.int p5), .val (.int p6), .val (.ref b7), .val (.ref b17), .val (.ref b22), .unset, .unset, .unset, .unset, .unset, .unset, .unset, .unset] [(.int p3), (.ref b72), (.ref b72)])) _
    refine XS.sipush X72.here hx rfl (hb hby at_72) ?_
    show Steps p.tables e below (T72.setTop (mkF m 75 #[.val (.int p1), .val (.int p2), .val (.int p3), .val (.int p4), .val (.int p5), .val (.int p6), .val (.ref b7), .val (.ref b17), .val (.ref b22), .unset, .unset, .unset, .unset, .unset, .unset, .unset, .unset] [(.int (255 : Int32)), (.int p3), (.ref b72), (.ref b72)])) _
    refine XS.iand X72.here hx rfl (hb hby at_75) rfl ?_
    show Steps p.tables e below (T72.setTop (mkF m 76 #[.val (.int p1), .val (.int p2), .val (.int p3), .val (.int p4), .val (.int p5), .val (.int p6), .val (.ref b7), .val (.ref b17), .val (.ref b22), .unset, .unset, .unset, .unset, .unset, .unset, .unset, .unset] [(.int (p3 &&& (255 : Int32))), (.ref b72), (.ref b72)])) _
    rw [← hi73]
    show Steps p.tables e below (T72.setTop (mkF m 76 #[.val (.int p1), .val (.int p2), .val (.int p3), .val (.int p4), .val (.int p5), .val (.int p6), .val (.ref b7), .val (.ref b17), .val (.ref b22), .unset, .unset, .unset, .unset, .unset, .unset, .unset, .unset] [(.int i73), (.ref b72), (.ref b72)])) _
    refine XS.i2c X72.here hx rfl (hb hby at_76) rfl ?_
    show Steps p.tables e below (T72.setTop (mkF m 77 #[.val (.int p1), .val (.int p2), .val (.int p3), .val (.int p4), .val (.int p5), .val (.int p6), .val (.ref b7), .val (.ref b17), .val (.ref b22), .unset, .unset, .unset, .unset, .unset, .unset, .unset, .unset] [(.int (i73.toUInt32.toUInt16.toUInt32.toInt32)), (.ref b72), (.ref b72)])) _
    rw [(own_i2c255 hi73)]
    show Steps p.tables e below (T72.setTop (mkF m 77 #[.val (.int p1), .val (.int p2), .val (.int p3), .val (.int p4), .val (.int p5), .val (.int p6), .val (.ref b7), .val (.ref b17), .val (.ref b22), .unset, .unset, .unset, .unset, .unset, .unset, .unset, .unset] [(.int i73), (.ref b72), (.ref b72)])) _
    refine st74 _ ?_
    show Steps p.tables e below (T74.setTop (mkF m 80 #[.val (.int p1), .val (.int p2), .val (.int p3), .val (.int p4), .val (.int p5), .val (.int p6), .val (.ref b7), .val (.ref b17), .val (.ref b22), .unset, .unset, .unset, .unset, .unset, .unset, .unset, .unset] [(.ref b76), (.ref b72), (.ref b72)])) _
    refine XS.iloadN X74.here hx rfl (hb hby at_80) rfl ?_
    show Steps p.tables e below (T74.setTop (mkF m 81 #[.val (.int p1), .val (.int p2), .val (.int p3), .val (.int p4), .val (.int p5), .val (.int p6), .val (.ref b7), .val (.ref b17), .val (.ref b22), .unset, .unset, .unset, .unset, .unset, .unset, .unset, .unset] [(.int p4), (.ref b76), (.ref b72), (.ref b72)])) _
    refine XS.sipush X74.here hx rfl (hb hby at_81) ?_
    show Steps p.tables e below (T74.setTop (mkF m 84 #[.val (.int p1), .val (.int p2), .val (.int p3), .val (.int p4), .val (.int p5), .val (.int p6), .val (.ref b7), .val (.ref b17), .val (.ref b22), .unset, .unset, .unset, .unset, .unset, .unset, .unset, .unset] [(.int (255 : Int32)), (.int p4), (.ref b76), (.ref b72), (.ref b72)])) _
    refine XS.iand X74.here hx rfl (hb hby at_84) rfl ?_
    show Steps p.tables e below (T74.setTop (mkF m 85 #[.val (.int p1), .val (.int p2), .val (.int p3), .val (.int p4), .val (.int p5), .val (.int p6), .val (.ref b7), .val (.ref b17), .val (.ref b22), .unset, .unset, .unset, .unset, .unset, .unset, .unset, .unset] [(.int (p4 &&& (255 : Int32))), (.ref b76), (.ref b72), (.ref b72)])) _
    rw [← hi93]
    show Steps p.tables e below (T74.setTop (mkF m 85 #[.val (.int p1), .val (.int p2), .val (.int p3), .val (.int p4), .val (.int p5), .val (.int p6), .val (.ref b7), .val (.ref b17), .val (.ref b22), .unset, .unset, .unset, .unset, .unset, .unset, .unset, .unset] [(.int i93), (.ref b76), (.ref b72), (.ref b72)])) _
    refine XS.i2c X74.here hx rfl (hb hby at_85) rfl ?_
    show Steps p.tables e below (T74.setTop (mkF m 86 #[.val (.int p1), .val (.int p2), .val (.int p3), .val (.int p4), .val (.int p5), .val (.int p6), .val (.ref b7), .val (.ref b17), .val (.ref b22), .unset, .unset, .unset, .unset, .unset, .unset, .unset, .unset] [(.int (i93.toUInt32.toUInt16.toUInt32.toInt32)), (.ref b76), (.ref b72), (.ref b72)])) _
    rw [(own_i2c255 hi93)]
    show Steps p.tables e below (T74.setTop (mkF m 86 #[.val (.int p1), .val (.int p2), .val (.int p3), .val (.int p4), .val (.int p5), .val (.int p6), .val (.ref b7), .val (.ref b17), .val (.ref b22), .unset, .unset, .unset, .unset, .unset, .unset, .unset, .unset] [(.int i93), (.ref b76), (.ref b72), (.ref b72)])) _
    refine st94 _ ?_
    show Steps p.tables e below (T94.setTop (mkF m 89 #[.val (.int p1), .val (.int p2), .val (.int p3), .val (.int p4), .val (.int p5), .val (.int p6), .val (.ref b7), .val (.ref b17), .val (.ref b22), .unset, .unset, .unset, .unset, .unset, .unset, .unset, .unset] [(.ref b96), (.ref b76), (.ref b72), (.ref b72)])) _
    refine st116.trans ?_
    show Steps p.tables e below (T116.setTop (mkF m 92 #[.val (.int p1), .val (.int p2), .val (.int p3), .val (.int p4), .val (.int p5), .val (.int p6), .val (.ref b7), .val (.ref b17), .val (.ref b22), .unset, .unset, .unset, .unset, .unset, .unset, .unset, .unset] [(.ref b72)])) _
    refine XS.astore X116.here hx rfl (hb hby at_92) rfl rfl (l' := #[.val (.int p1), .val (.int p2), .val (.int p3), .val (.int p4), .val (.int p5), .val (.int p6), .val (.ref b7), .val (.ref b17), .val (.ref b22), .val (.ref b72), .unset, .unset, .unset, .unset, .unset, .unset, .unset]) rfl ?_
    show Steps p.tables e below (T116.setTop (mkF m 94 #[.val (.int p1), .val (.int p2), .val (.int p3), .val (.int p4), .val (.int p5), .val (.int p6), .val (.ref b7), .val (.ref b17), .val (.ref b22), .val (.ref b72), .unset, .unset, .unset, .unset, .unset, .unset, .unset] [])) _
    refine XS.iload X116.here hx rfl (hb hby at_94) rfl ?_
    show Steps p.tables e below (T116.setTop (mkF m 96 #[.val (.int p1), .val (.int p2), .val (.int p3), .val (.int p4), .val (.int p5), .val (.int p6), .val (.ref b7), .val (.ref b17), .val (.ref b22), .val (.ref b72), .unset, .unset, .unset, .unset, .unset, .unset, .unset] [(.int p6)])) _
    refine XS.iconst X116.here hx rfl (hb hby at_96) ?_
    show Steps p.tables e below (T116.setTop (mkF m 97 #[.val (.int p1), .val (.int p2), .val (.int p3), .val (.int p4), .val (.int p5), .val (.int p6), .val (.ref b7), .val (.ref b17), .val (.ref b22), .val (.ref b72), .unset, .unset, .unset, .unset, .unset, .unset, .unset] [(.int (1 : Int32)), (.int p6)])) _
    refine XS.iushr X116.here hx rfl (hb hby at_97) rfl ?_
    show Steps p.tables e below (T116.setTop (mkF m 98 #[.val (.int p1), .val (.int p2), .val (.int p3), .val (.int p4), .val (.int p5), .val (.int p6), .val (.ref b7), .val (.ref b17), .val (.ref b22), .val (.ref b72), .unset, .unset, .unset, .unset, .unset, .unset, .unset] [(.int ((p6.toUInt32 >>> ((1 : Int32) &&& 31).toUInt32).toInt32))])) _
    rw [← hi123]
    show Steps p.tables e below (T116.setTop (mkF m 98 #[.val (.int p1), .val (.int p2), .val (.int p3), .val (.int p4), .val (.int p5), .val (.int p6), .val (.ref b7), .val (.ref b17), .val (.ref b22), .val (.ref b72), .unset, .unset, .unset, .unset, .unset, .unset, .unset] [(.int i123)])) _
    refine XS.iconst X116.here hx rfl (hb hby at_98) ?_
    show Steps p.tables e below (T116.setTop (mkF m 99 #[.val (.int p1), .val (.int p2), .val (.int p3), .val (.int p4), .val (.int p5), .val (.int p6), .val (.ref b7), .val (.ref b17), .val (.ref b22), .val (.ref b72), .unset, .unset, .unset, .unset, .unset, .unset, .unset] [(.int (3 : Int32)), (.int i123)])) _
    refine Jvm.RoadKit.iremM (g := (mkF m 99 #[.val (.int p1), .val (.int p2), .val (.int p3), .val (.int p4), .val (.int p5), .val (.int p6), .val (.ref b7), .val (.ref b17), .val (.ref b22), .val (.ref b72), .unset, .unset, .unset, .unset, .unset, .unset, .unset] [(.int (3 : Int32)), (.int i123)])) X116 hx rfl (hb hby at_99) rfl (by decide +kernel : ¬ ((3 : Int32) = (0 : Int32))) ?_
    show Steps p.tables e below (T116.setTop (mkF m 100 #[.val (.int p1), .val (.int p2), .val (.int p3), .val (.int p4), .val (.int p5), .val (.int p6), .val (.ref b7), .val (.ref b17), .val (.ref b22), .val (.ref b72), .unset, .unset, .unset, .unset, .unset, .unset, .unset] [(.int (i123 % (3 : Int32)))])) _
    rw [← hi124]
    show Steps p.tables e below (T116.setTop (mkF m 100 #[.val (.int p1), .val (.int p2), .val (.int p3), .val (.int p4), .val (.int p5), .val (.int p6), .val (.ref b7), .val (.ref b17), .val (.ref b22), .val (.ref b72), .unset, .unset, .unset, .unset, .unset, .unset, .unset] [(.int i124)])) _
    refine XS.istore X116.here hx rfl (hb hby at_100) rfl (l' := #[.val (.int p1), .val (.int p2), .val (.int p3), .val (.int p4), .val (.int p5), .val (.int p6), .val (.ref b7), .val (.ref b17), .val (.ref b22), .val (.ref b72), .val (.int i124), .unset, .unset, .unset, .unset, .unset, .unset]) rfl ?_
    show Steps p.tables e below (T116.setTop (mkF m 102 #[.val (.int p1), .val (.int p2), .val (.int p3), .val (.int p4), .val (.int p5), .val (.int p6), .val (.ref b7), .val (.ref b17), .val (.ref b22), .val (.ref b72), .val (.int i124), .unset, .unset, .unset, .unset, .unset, .unset] [])) _
    refine XS.iload X116.here hx rfl (hb hby at_102) rfl ?_
    exact kt
  by_cases hc126 : i124 = (0 : Int32)
  · skip
    subst hc126
    obtain ⟨T129, X129, e129, st129⟩ := getS2 X116 hx hZ116 hown116 (host := "") (Or.inl (hw _ (gw 115 rfl))) Via.refl rfl (Sta.ext Ou119.2 S_128) (g := (mkF m 107 #[.val (.int p1), .val (.int p2), .val (.int p3), .val (.int p4), .val (.int p5), .val (.int p6), .val (.ref b7), .val (.ref b17), .val (.ref b22), .val (.ref b72), .val (.int (0 : Int32)), .unset, .unset, .unset, .unset, .unset, .unset] [])) rfl (hb hby at_107)
    obtain ⟨i130, hi130⟩ : ∃ z, z = (p6 &&& (1 : Int32)) := ⟨_, rfl⟩
    have pre131 : ∀ t, Steps p.tables e below (T129.setTop (mkF m 134 #[.val (.int p1), .val (.int p2), .val (.int p3), .val (.int p4), .val (.int p5), .val (.int p6), .val (.ref b7), .val (.ref b17), .val (.ref b22), .val (.ref b72), .val (.int (0 : Int32)), .val (.ref a127), .unset, .unset, .unset, .unset, .unset] [(.int i130)])) t → Steps p.tables e below (s₁.setTop (entryFrame m #[(.int p1), (.int p2), (.int p3), (.int p4), (.int p5), (.int p6)] maxLocals)) t := by
      intro t kt
      refine pre125 t ?_
      show Steps p.tables e below (T116.setTop (mkF m 104 #[.val (.int p1), .val (.int p2), .val (.int p3), .val (.int p4), .val (.int p5), .val (.int p6), .val (.ref b7), .val (.ref b17), .val (.ref b22), .val (.ref b72), .val (.int (0 : Int32)), .unset, .unset, .unset, .unset, .unset, .unset] [(.int (0 : Int32))])) _
      refine XS.ifNo X116.here hx rfl (hb hby at_104) rfl ((if0 _ _).trans (teq (by decide +kernel : (0 : Int32) = (0 : Int32))).2) ?_
      show Steps p.tables e below (T116.setTop (mkF m 107 #[.val (.int p1), .val (.int p2), .val (.int p3), .val (.int p4), .val (.int p5), .val (.int p6), .val (.ref b7), .val (.ref b17), .val (.ref b22), .val (.ref b72), .val (.int (0 : Int32)), .unset, .unset, .unset, .unset, .unset, .unset] [])) _
      refine st129 _ ?_
      show Steps p.tables e below (T129.setTop (mkF m 110 #[.val (.int p1), .val (.int p2), .val (.int p3), .val (.int p4), .val (.int p5), .val (.int p6), .val (.ref b7), .val (.ref b17), .val (.ref b22), .val (.ref b72), .val (.int (0 : Int32)), .unset, .unset, .unset, .unset, .unset, .unset] [(.ref a127)])) _
      refine XS.goto X129.here hx rfl (pc0 := 110) (pc' := 128) rfl (hb hby at_110) (by decide) (by decide) ?_
      show Steps p.tables e below (T129.setTop (mkF m 128 #[.val (.int p1), .val (.int p2), .val (.int p3), .val (.int p4), .val (.int p5), .val (.int p6), .val (.ref b7), .val (.ref b17), .val (.ref b22), .val (.ref b72), .val (.int (0 : Int32)), .unset, .unset, .unset, .unset, .unset, .unset] [(.ref a127)])) _
      refine XS.astore X129.here hx rfl (hb hby at_128) rfl rfl (l' := #[.val (.int p1), .val (.int p2), .val (.int p3), .val (.int p4), .val (.int p5), .val (.int p6), .val (.ref b7), .val (.ref b17), .val (.ref b22), .val (.ref b72), .val (.int (0 : Int32)), .val (.ref a127), .unset, .unset, .unset, .unset, .unset]) rfl ?_
      show Steps p.tables e below (T129.setTop (mkF m 130 #[.val (.int p1), .val (.int p2), .val (.int p3), .val (.int p4), .val (.int p5), .val (.int p6), .val (.ref b7), .val (.ref b17), .val (.ref b22), .val (.ref b72), .val (.int (0 : Int32)), .val (.ref a127), .unset, .unset, .unset, .unset, .unset] [])) _
      refine XS.iload X129.here hx rfl (hb hby at_130) rfl ?_
      show Steps p.tables e below (T129.setTop (mkF m 132 #[.val (.int p1), .val (.int p2), .val (.int p3), .val (.int p4), .val (.int p5), .val (.int p6), .val (.ref b7), .val (.ref b17), .val (.ref b22), .val (.ref b72), .val (.int (0 : Int32)), .val (.ref a127), .unset, .unset, .unset, .unset, .unset] [(.int p6)])) _
      refine XS.iconst X129.here hx rfl (hb hby at_132) ?_
      show Steps p.tables e below (T129.setTop (mkF m 133 #[.val (.int p1), .val (.int p2), .val (.int p3), .val (.int p4), .val (.int p5), .val (.int p6), .val (.ref b7), .val (.ref b17), .val (.ref b22), .val (.ref b72), .val (.int (0 : Int32)), .val (.ref a127), .unset, .unset, .unset, .unset, .unset] [(.int (1 : Int32)), (.int p6)])) _
      refine XS.iand X129.here hx rfl (hb hby at_133) rfl ?_
      show Steps p.tables e below (T129.setTop (mkF m 134 #[.val (.int p1), .val (.int p2), .val (.int p3), .val (.int p4), .val (.int p5), .val (.int p6), .val (.ref b7), .val (.ref b17), .val (.ref b22), .val (.ref b72), .val (.int (0 : Int32)), .val (.ref a127), .unset, .unset, .unset, .unset, .unset] [(.int (p6 &&& (1 : Int32)))])) _
      rw [← hi130]
      exact kt
    by_cases hc132 : i130 = (0 : Int32)
    · skip
      subst hc132
      obtain ⟨i133, hi133⟩ : ∃ z, z = (p6 &&& (8 : Int32)) := ⟨_, rfl⟩
      have pre134 : ∀ t, Steps p.tables e below (T129.setTop (mkF m 149 #[.val (.int p1), .val (.int p2), .val (.int p3), .val (.int p4), .val (.int p5), .val (.int p6), .val (.ref b7), .val (.ref b17), .val (.ref b22), .val (.ref b72), .val (.int (0 : Int32)), .val (.ref a127), .val (.int (0 : Int32)), .unset, .unset, .unset, .unset] [(.int i133)])) t → Steps p.tables e below (s₁.setTop (entryFrame m #[(.int p1), (.int p2), (.int p3), (.int p4), (.int p5), (.int p6)] maxLocals)) t := by
        intro t kt
        refine pre131 t ?_
        show Steps p.tables e below (T129.setTop (mkF m 134 #[.val (.int p1), .val (.int p2), .val (.int p3), .val (.int p4), .val (.int p5), .val (.int p6), .val (.ref b7), .val (.ref b17), .val (.ref b22), .val (.ref b72), .val (.int (0 : Int32)), .val (.ref a127), .unset, .unset, .unset, .unset, .unset] [(.int (0 : Int32))])) _
        refine XS.ifYes X129.here hx rfl (pc0 := 134) (pc' := 141) rfl (hb hby at_134) rfl ((if0 _ _).trans (teq (by decide +kernel : (0 : Int32) = (0 : Int32))).1) (by decide) (by decide) ?_
        show Steps p.tables e below (T129.setTop (mkF m 141 #[.val (.int p1), .val (.int p2), .val (.int p3), .val (.int p4), .val (.int p5), .val (.int p6), .val (.ref b7), .val (.ref b17), .val (.ref b22), .val (.ref b72), .val (.int (0 : Int32)), .val (.ref a127), .unset, .unset, .unset, .unset, .unset] [])) _
        refine XS.iconst X129.here hx rfl (hb hby at_141) ?_
        show Steps p.tables e below (T129.setTop (mkF m 142 #[.val (.int p1), .val (.int p2), .val (.int p3), .val (.int p4), .val (.int p5), .val (.int p6), .val (.ref b7), .val (.ref b17), .val (.ref b22), .val (.ref b72), .val (.int (0 : Int32)), .val (.ref a127), .unset, .unset, .unset, .unset, .unset] [(.int (0 : Int32))])) _
        refine XS.istore X129.here hx rfl (hb hby at_142) rfl (l' := #[.val (.int p1), .val (.int p2), .val (.int p3), .val (.int p4), .val (.int p5), .val (.int p6), .val (.ref b7), .val (.ref b17), .val (.ref b22), .val (.ref b72), .val (.int (0 : Int32)), .val (.ref a127), .val (.int (0 : Int32)), .unset, .unset, .unset, .unset]) rfl ?_
        show Steps p.tables e below (T129.setTop (mkF m 144 #[.val (.int p1), .val (.int p2), .val (.int p3), .val (.int p4), .val (.int p5), .val (.int p6), .val (.ref b7), .val (.ref b17), .val (.ref b22), .val (.ref b72), .val (.int (0 : Int32)), .val (.ref a127), .val (.int (0 : Int32)), .unset, .unset, .unset, .unset] [])) _
        refine XS.iload X129.here hx rfl (hb hby at_144) rfl ?_
        show Steps p.tables e below (T129.setTop (mkF m 146 #[.val (.int p1), .val (.int p2), .val (.int p3), .val (.int p4), .val (.int p5), .val (.int p6), .val (.ref b7), .val (.ref b17), .val (.ref b22), .val (.ref b72), .val (.int (0 : Int32)), .val (.ref a127), .val (.int (0 : Int32)), .unset, .unset, .unset, .unset] [(.int p6)])) _
        refine XS.bipush X129.here hx rfl (hb hby at_146) ?_
        show Steps p.tables e below (T129.setTop (mkF m 148 #[.val (.int p1), .val (.int p2), .val (.int p3), .val (.int p4), .val (.int p5), .val (.int p6), .val (.ref b7), .val (.ref b17), .val (.ref b22), .val (.ref b72), .val (.int (0 : Int32)), .val (.ref a127), .val (.int (0 : Int32)), .unset, .unset, .unset, .unset] [(.int (8 : Int32)), (.int p6)])) _
        refine XS.iand X129.here hx rfl (hb hby at_148) rfl ?_
        show Steps p.tables e below (T129.setTop (mkF m 149 #[.val (.int p1), .val (.int p2), .val (.int p3), .val (.int p4), .val (.int p5), .val (.int p6), .val (.ref b7), .val (.ref b17), .val (.ref b22), .val (.ref b72), .val (.int (0 : Int32)), .val (.ref a127), .val (.int (0 : Int32)), .unset, .unset, .unset, .unset] [(.int (p6 &&& (8 : Int32)))])) _
        rw [← hi133]
        exact kt
      by_cases hc135 : i133 = (0 : Int32)
      · skip
        subst hc135
        obtain ⟨T136, h136, X136, e136, E136, A136, D136, -, st136⟩ := newO X129 hx hZ116 hown116 (hw _ (gw 87 rfl)) (hw _ (gw 88 rfl)) (hw _ (gw 89 rfl)) e129 (g := (mkF m 191 #[.val (.int p1), .val (.int p2), .val (.int p3), .val (.int p4), .val (.int p5), .val (.int p6), .val (.ref b7), .val (.ref b17), .val (.ref b22), .val (.ref b72), .val (.int (0 : Int32)), .val (.ref a127), .val (.int (0 : Int32)), .val .null, .val .null, .unset, .unset] [])) rfl (hb hby at_191) (by decide) (by decide)
        obtain ⟨b136, g136⟩ : ∃ z, z = T116.heap.size := ⟨_, rfl⟩
        rw [← g136] at A136 D136 st136
        have O136 : Old Z n0 h136 := Ou119.ext E136
        have bd_b136 : T116.heap.size ≤ b136 := Nat.le_of_eq g136.symm
        have g_b136 : n0 ≤ b136 := Nat.le_trans (own_z Ou119) bd_b136
        have sz_b136 : h0.size ≤ b136 := Nat.le_trans (Nat.le_trans (Nat.le_trans (Nat.le_trans (Nat.le_trans (Nat.le_trans (Nat.le_trans (Nat.le_trans (Nat.le_trans (Nat.le_trans (Nat.le_trans (Nat.le_trans (Nat.le_trans (Nat.le_trans (Nat.le_trans E7.1 (Keep.of_wr W11).1) (Keep.of_wr W16).1) E17.1) (Keep.of_wr W21).1) E22.1) E23.1) Ku39.1) E45.1) Ku56.1) Ku68.1) E72.1) Ku87.1) Ku107.1) Ku119.1) bd_b136
        have lt_b136 : b136 < h136.size := A136.lt
        have D136_98 : Fld Z h136 b136 "com/example/stemline/stemline/graph/Edge" "source" "Lcom/example/stemline/stemline/model/ColumnSource;" .null := D136 (Or.inr (hw _ (gw 98 rfl))) (ty := (.object "com/example/stemline/stemline/model/ColumnSource")) (by decide)
        have D136_100 : Fld Z h136 b136 "com/example/stemline/stemline/graph/Edge" "target" "Lcom/example/stemline/stemline/model/TableColumn;" .null := D136 (Or.inr (hw _ (gw 100 rfl))) (ty := (.object "com/example/stemline/stemline/model/TableColumn")) (by decide)
        have D136_102 : Fld Z h136 b136 "com/example/stemline/stemline/graph/Edge" "file" "Ljava/lang/String;" .null := D136 (Or.inr (hw _ (gw 102 rfl))) (ty := (.object "java/lang/String")) (by decide)
        have D136_104 : Fld Z h136 b136 "com/example/stemline/stemline/graph/Edge" "line" "I" (.int (0 : Int32)) := D136 (Or.inr (hw _ (gw 104 rfl))) (ty := .int) (by decide)
        obtain ⟨T137, h137, X137, e137, E137, A137, D137, -, st137⟩ := newO X136 hx hZ116 hown116 (hw _ (gw 4 rfl)) (hw _ (gw 5 rfl)) (hw _ (gw 6 rfl)) e136 (g := (mkF m 199 #[.val (.int p1), .val (.int p2), .val (.int p3), .val (.int p4), .val (.int p5), .val (.int p6), .val (.ref b7), .val (.ref b17), .val (.ref b22), .val (.ref b72), .val (.int (0 : Int32)), .val (.ref a127), .val (.int (0 : Int32)), .val .null, .val .null, .unset, .unset] [(.ref b72), .null, (.ref b136), (.ref b136)])) rfl (hb hby at_199) (by decide) (by decide)
        obtain ⟨b137, g137⟩ : ∃ z, z = h136.size := ⟨_, rfl⟩
        rw [← g137] at A137 D137 st137
        have O137 : Old Z n0 h137 := O136.ext E137
        have bd_b137 : h136.size ≤ b137 := Nat.le_of_eq g137.symm
        have g_b137 : n0 ≤ b137 := Nat.le_trans (own_z O136) bd_b137
        have sz_b137 : h0.size ≤ b137 := Nat.le_trans (Nat.le_trans (Nat.le_trans (Nat.le_trans (Nat.le_trans (Nat.le_trans (Nat.le_trans (Nat.le_trans (Nat.le_trans (Nat.le_trans (Nat.le_trans (Nat.le_trans (Nat.le_trans (Nat.le_trans (Nat.le_trans (Nat.le_trans E7.1 (Keep.of_wr W11).1) (Keep.of_wr W16).1) E17.1) (Keep.of_wr W21).1) E22.1) E23.1) Ku39.1) E45.1) Ku56.1) Ku68.1) E72.1) Ku87.1) Ku107.1) Ku119.1) E136.1) bd_b137
        have lt_b137 : b137 < h137.size := A137.lt
        have D137_30 : Fld Z h137 b137 "java/lang/String" "coder" "B" (.int (0 : Int32)) := D137 (Or.inr (hw _ (gw 30 rfl))) (ty := .byte) (by decide)
        have D137_32 : Fld Z h137 b137 "java/lang/String" "value" "[B" .null := D137 (Or.inr (hw _ (gw 32 rfl))) (ty := (.array .byte)) (by decide)
        have f138 : Arv Z h137 b7 k7 .char (2 : Int32) [(.int i8), (.int i13)] (.int (0 : Int32)) := ((((((((((f27.keep Ku39 (ninS (Nat.ne_of_lt (Nat.lt_of_lt_of_le (Nat.lt_of_lt_of_le (Nat.lt_of_lt_of_le (Nat.lt_of_lt_of_le (Nat.lt_of_lt_of_le (Nat.lt_of_lt_of_le lt_b7 (Keep.of_wr W11).1) (Keep.of_wr W16).1) E17.1) (Keep.of_wr W21).1) E22.1) bd_b23)) nin0)).ext E45).keep Ku56 (ninS (Nat.ne_of_lt (Nat.lt_of_lt_of_le (Nat.lt_of_lt_of_le (Nat.lt_of_lt_of_le (Nat.lt_of_lt_of_le (Nat.lt_of_lt_of_le (Nat.lt_of_lt_of_le (Nat.lt_of_lt_of_le (Nat.lt_of_lt_of_le lt_b7 (Keep.of_wr W11).1) (Keep.of_wr W16).1) E17.1) (Keep.of_wr W21).1) E22.1) E23.1) Ku39.1) bd_b45)) nin0)).keep Ku68 (ninS (Nat.ne_of_lt (Nat.lt_of_lt_of_le (Nat.lt_of_lt_of_le (Nat.lt_of_lt_of_le (Nat.lt_of_lt_of_le (Nat.lt_of_lt_of_le lt_b7 (Keep.of_wr W11).1) (Keep.of_wr W16).1) E17.1) (Keep.of_wr W21).1) bd_b22)) nin0)).ext E72).keep Ku87 nin0).keep Ku107 nin0).keep Ku119 (ninS (Nat.ne_of_lt (Nat.lt_of_lt_of_le (Nat.lt_of_lt_of_le (Nat.lt_of_lt_of_le (Nat.lt_of_lt_of_le (Nat.lt_of_lt_of_le (Nat.lt_of_lt_of_le (Nat.lt_of_lt_of_le (Nat.lt_of_lt_of_le (Nat.lt_of_lt_of_le (Nat.lt_of_lt_of_le (Nat.lt_of_lt_of_le lt_b7 (Keep.of_wr W11).1) (Keep.of_wr W16).1) E17.1) (Keep.of_wr W21).1) E22.1) E23.1) Ku39.1) E45.1) Ku56.1) Ku68.1) bd_b72)) nin0)).ext E136).ext E137)
        obtain ⟨_, _, ⟨T139, L139, k139, n139⟩, -, X139, ⟨Lc139, hQ139, l139, y139, z139⟩, st139⟩ := X137.specialBack hx (y := M_4) rfl hown116 (mvT hZ116 (hw _ (gw 7 rfl))) (mvT hZ116 (hw _ (gw 8 rfl))) (mvT hZ116 (hw _ (gw 9 rfl))) (by decide) (backOf (W := 5) (rm1_2 l Z a0 hw [] b137 b7 i8 i13 k7 p24 h137 n0  O137 f138 S_25 hk26 (own_lt255 hi8) (own_lt255 hi13) A137 D137_30 D137_32 (Nat.lt_of_lt_of_le (Nat.lt_of_lt_of_le (Nat.lt_of_lt_of_le (Nat.lt_of_lt_of_le (Nat.lt_of_lt_of_le (Nat.lt_of_lt_of_le (Nat.lt_of_lt_of_le (Nat.lt_of_lt_of_le (Nat.lt_of_lt_of_le (Nat.lt_of_lt_of_le (Nat.lt_of_lt_of_le (Nat.lt_of_lt_of_le (Nat.lt_of_lt_of_le (Nat.lt_of_lt_of_le (Nat.lt_of_lt_of_le (Nat.lt_of_lt_of_le lt_b7 (Keep.of_wr W11).1) (Keep.of_wr W16).1) E17.1) (Keep.of_wr W21).1) E22.1) E23.1) Ku39.1) E45.1) Ku56.1) Ku68.1) E72.1) Ku87.1) Ku107.1) Ku119.1) E136.1) E137.1) g_b137 lt_b137) hZ116 (hw _ (gw 9 rfl)) (hw _ (gw 6 rfl)) (by decide) (by decide)) (g := (mkF m 205 #[.val (.int p1), .val (.int p2), .val (.int p3), .val (.int p4), .val (.int p5), .val (.int p6), .val (.ref b7), .val (.ref b17), .val (.ref b22), .val (.ref b72), .val (.int (0 : Int32)), .val (.ref a127), .val (.int (0 : Int32)), .val .null, .val .null, .unset, .unset] [(.ref b7), (.ref b137), (.ref b137), (.ref b72), .null, (.ref b136), (.ref b136)])) rfl (by rw [hml]; rfl) (Steps.refl _) (a := b137) (argsL := [(.ref b7)]) (rest := [(.ref b137), (.ref b72), .null, (.ref b136), (.ref b136)]) (lenOf pd_4 rfl) rfl (by show 2 * 0 + _ ≤ _; exact Nat.le_of_eq rfl) (hb hby at_205) (fun _ _ => ⟨rfl, e137, (by decide : 22 + 1 ≤ _), (by decide : 124 + 2 ≤ _)⟩)
        dsimp only [Pt.U, Pt.locs, Pt.cells, Pt.slots] at X139 l139 y139 z139 st139 hQ139
        subst l139 y139 z139
        obtain ⟨i140, i141, b142, k143, u144, u145, rfl, u147, u148, u149, Ku150, u151, u152, u153, u154, u155⟩ := hQ139
        have Ou150 : Old Z n0 T139.heap := O137.keep Ku150 (allS g_b137 all0)
        have g_b142 : n0 ≤ b142 := Nat.le_trans (own_z O137) u148
        have sz_b142 : h0.size ≤ b142 := Nat.le_trans (Nat.le_trans (Nat.le_trans (Nat.le_trans (Nat.le_trans (Nat.le_trans (Nat.le_trans (Nat.le_trans (Nat.le_trans (Nat.le_trans (Nat.le_trans (Nat.le_trans (Nat.le_trans (Nat.le_trans (Nat.le_trans (Nat.le_trans (Nat.le_trans E7.1 (Keep.of_wr W11).1) (Keep.of_wr W16).1) E17.1) (Keep.of_wr W21).1) E22.1) E23.1) Ku39.1) E45.1) Ku56.1) Ku68.1) E72.1) Ku87.1) Ku107.1) Ku119.1) E136.1) E137.1) u148
        have N139 := Fr.app N116 u147
        have pre156 : ∀ t, Steps p.tables e below (T139.setTop (mkF m 208 #[.val (.int p1), .val (.int p2), .val (.int p3), .val (.int p4), .val (.int p5), .val (.int p6), .val (.ref b7), .val (.ref b17), .val (.ref b22), .val (.ref b72), .val (.int (0 : Int32)), .val (.ref a127), .val (.int (0 : Int32)), .val .null, .val .null, .unset, .unset] [(.ref b137), (.ref b72), .null, (.ref b136), (.ref b136)])) t → Steps p.tables e below (s₁.setTop (entryFrame m #[(.int p1), (.int p2), (.int p3), (.int p4), (.int p5), (.int p6)] maxLocals)) t := by
          intro t kt
          refine pre134 t ?_
          show Steps p.tables e below (T129.setTop (mkF m 149 #[.val (.int p1), .val (.int p2), .val (.int p3), .val (.int p4), .val (.int p5), .val (.int p6), .val (.ref b7), .val (.ref b17), .val (.ref b22), .val (.ref b72), .val (.int (0 : Int32)), .val (.ref a127), .val (.int (0 : Int32)), .unset, .unset, .unset, .unset] [(.int (0 : Int32))])) _
          refine XS.ifYes X129.here hx rfl (pc0 := 149) (pc' := 164) rfl (hb hby at_149) rfl ((if0 _ _).trans (teq (by decide +kernel : (0 : Int32) = (0 : Int32))).1) (by decide) (by decide) ?_
          show Steps p.tables e below (T129.setTop (mkF m 164 #[.val (.int p1), .val (.int p2), .val (.int p3), .val (.int p4), .val (.int p5), .val (.int p6), .val (.ref b7), .val (.ref b17), .val (.ref b22), .val (.ref b72), .val (.int (0 : Int32)), .val (.ref a127), .val (.int (0 : Int32)), .unset, .unset, .unset, .unset] [])) _
          refine XS.aconstNull X129.here hx rfl (hb hby at_164) ?_
          show Steps p.tables e below (T129.setTop (mkF m 165 #[.val (.int p1), .val (.int p2), .val (.int p3), .val (.int p4), .val (.int p5), .val (.int p6), .val (.ref b7), .val (.ref b17), .val (.ref b22), .val (.ref b72), .val (.int (0 : Int32)), .val (.ref a127), .val (.int (0 : Int32)), .unset, .unset, .unset, .unset] [.null])) _
          refine XS.astore X129.here hx rfl (hb hby at_165) rfl rfl (l' := #[.val (.int p1), .val (.int p2), .val (.int p3), .val (.int p4), .val (.int p5), .val (.int p6), .val (.ref b7), .val (.ref b17), .val (.ref b22), .val (.ref b72), .val (.int (0 : Int32)), .val (.ref a127), .val (.int (0 : Int32)), .val .null, .unset, .unset, .unset]) rfl ?_
          show Steps p.tables e below (T129.setTop (mkF m 167 #[.val (.int p1), .val (.int p2), .val (.int p3), .val (.int p4), .val (.int p5), .val (.int p6), .val (.ref b7), .val (.ref b17), .val (.ref b22), .val (.ref b72), .val (.int (0 : Int32)), .val (.ref a127), .val (.int (0 : Int32)), .val .null, .unset, .unset, .unset] [])) _
          refine XS.iload X129.here hx rfl (hb hby at_167) rfl ?_
          show Steps p.tables e below (T129.setTop (mkF m 169 #[.val (.int p1), .val (.int p2), .val (.int p3), .val (.int p4), .val (.int p5), .val (.int p6), .val (.ref b7), .val (.ref b17), .val (.ref b22), .val (.ref b72), .val (.int (0 : Int32)), .val (.ref a127), .val (.int (0 : Int32)), .val .null, .unset, .unset, .unset] [(.int (0 : Int32))])) _
          refine XS.ifYes X129.here hx rfl (pc0 := 169) (pc' := 188) rfl (hb hby at_169) rfl ((if0 _ _).trans (teq (by decide +kernel : (0 : Int32) = (0 : Int32))).1) (by decide) (by decide) ?_
          show Steps p.tables e below (T129.setTop (mkF m 188 #[.val (.int p1), .val (.int p2), .val (.int p3), .val (.int p4), .val (.int p5), .val (.int p6), .val (.ref b7), .val (.ref b17), .val (.ref b22), .val (.ref b72), .val (.int (0 : Int32)), .val (.ref a127), .val (.int (0 : Int32)), .val .null, .unset, .unset, .unset] [])) _
          refine XS.aconstNull X129.here hx rfl (hb hby at_188) ?_
          show Steps p.tables e below (T129.setTop (mkF m 189 #[.val (.int p1), .val (.int p2), .val (.int p3), .val (.int p4), .val (.int p5), .val (.int p6), .val (.ref b7), .val (.ref b17), .val (.ref b22), .val (.ref b72), .val (.int (0 : Int32)), .val (.ref a127), .val (.int (0 : Int32)), .val .null, .unset, .unset, .unset] [.null])) _
          refine XS.astore X129.here hx rfl (hb hby at_189) rfl rfl (l' := #[.val (.int p1), .val (.int p2), .val (.int p3), .val (.int p4), .val (.int p5), .val (.int p6), .val (.ref b7), .val (.ref b17), .val (.ref b22), .val (.ref b72), .val (.int (0 : Int32)), .val (.ref a127), .val (.int (0 : Int32)), .val .null, .val .null, .unset, .unset]) rfl ?_
          show Steps p.tables e below (T129.setTop (mkF m 191 #[.val (.int p1), .val (.int p2), .val (.int p3), .val (.int p4), .val (.int p5), .val (.int p6), .val (.ref b7), .val (.ref b17), .val (.ref b22), .val (.ref b72), .val (.int (0 : Int32)), .val (.ref a127), .val (.int (0 : Int32)), .val .null, .val .null, .unset, .unset] [])) _
          refine st136 _ ?_
          show Steps p.tables e below (T136.setTop (mkF m 194 #[.val (.int p1), .val (.int p2), .val (.int p3), .val (.int p4), .val (.int p5), .val (.int p6), .val (.ref b7), .val (.ref b17), .val (.ref b22), .val (.ref b72), .val (.int (0 : Int32)), .val (.ref a127), .val (.int (0 : Int32)), .val .null, .val .null, .unset, .unset] [(.ref b136)])) _
          refine XS.dup X136.here hx rfl (hb hby at_194) rfl rfl ?_
          show Steps p.tables e below (T136.setTop (mkF m 195 #[.val (.int p1), .val (.int p2), .val (.int p3), .val (.int p4), .val (.int p5), .val (.int p6), .val (.ref b7), .val (.ref b17), .val (.ref b22), .val (.ref b72), .val (.int (0 : Int32)), .val (.ref a127), .val (.int (0 : Int32)), .val .null, .val .null, .unset, .unset] [(.ref b136), (.ref b136)])) _
          refine XS.aload X136.here hx rfl (hb hby at_195) rfl rfl ?_
          show Steps p.tables e below (T136.setTop (mkF m 197 #[.val (.int p1), .val (.int p2), .val (.int p3), .val (.int p4), .val (.int p5), .val (.int p6), .val (.ref b7), .val (.ref b17), .val (.ref b22), .val (.ref b72), .val (.int (0 : Int32)), .val (.ref a127), .val (.int (0 : Int32)), .val .null, .val .null, .unset, .unset] [.null, (.ref b136), (.ref b136)])) _
          refine XS.aload X136.here hx rfl (hb hby at_197) rfl rfl ?_
          show Steps p.tables e below (T136.setTop (mkF m 199 #[.val (.int p1), .val (.int p2), .val (.int p3), .val (.int p4), .val (.int p5), .val (.int p6), .val (.ref b7), .val (.ref b17), .val (.ref b22), .val (.ref b72), .val (.int (0 : Int32)), .val (.ref a127), .val (.int (0 : Int32)), .val .null, .val .null, .unset, .unset] [(.ref b72), .null, (.ref b136), (.ref b136)])) _
          refine st137 _ ?_
          show Steps p.tables e below (T137.setTop (mkF m 202 #[.val (.int p1), .val (.int p2), .val (.int p3), .val (.int p4), .val (.int p5), .val (.int p6), .val (.ref b7), .val (.ref b17), .val (.ref b22), .val (.ref b72), .val (.int (0 : Int32)), .val (.ref a127), .val (.int (0 : Int32)), .val .null, .val .null, .unset, .unset] [(.ref b137), (.ref b72), .null, (.ref b136), (.ref b136)])) _
          refine XS.dup X137.here hx rfl (hb hby at_202) rfl rfl ?_
          show Steps p.tables e below (T137.setTop (mkF m 203 #[.val (.int p1), .val (.int p2), .val (.int p3), .val (.int p4), .val (.int p5), .val (.int p6), .val (.ref b7), .val (.ref b17), .val (.ref b22), .val (.ref b72), .val (.int (0 : Int32)), .val (.ref a127), .val (.int (0 : Int32)), .val .null, .val .null, .unset, .unset] [(.ref b137), (.ref b137), (.ref b72), .null, (.ref b136), (.ref b136)])) _
          refine XS.aload X137.here hx rfl (hb hby at_203) rfl rfl ?_
          show Steps p.tables e below (T137.setTop (mkF m 205 #[.val (.int p1), .val (.int p2), .val (.int p3), .val (.int p4), .val (.int p5), .val (.int p6), .val (.ref b7), .val (.ref b17), .val (.ref b22), .val (.ref b72), .val (.int (0 : Int32)), .val (.ref a127), .val (.int (0 : Int32)), .val .null, .val .null, .unset, .unset] [(.ref b7), (.ref b137), (.ref b137), (.ref b72), .null, (.ref b136), (.ref b136)])) _
          refine st139.trans ?_
          exact kt
        obtain rfl : i30 = i141 := (u144.trans u33.symm).symm
        obtain rfl : i29 = i140 := (u145.trans u34.symm).symm
        have f157 : Exa Z T139.heap b136 "com/example/stemline/stemline/graph/Edge" := ((Exa.ext E137 A136).keep Ku150)
        have f158 : Fld Z T139.heap b136 "com/example/stemline/stemline/graph/Edge" "file" "Ljava/lang/String;" .null := ((Fld.ext E137 D136_102).keep Ku150 (ninS (Nat.ne_of_lt (Nat.lt_of_lt_of_le lt_b136 bd_b137)) nin0))
        have f159 : Fld Z T139.heap b136 "com/example/stemline/stemline/graph/Edge" "line" "I" (.int (0 : Int32)) := ((Fld.ext E137 D136_104).keep Ku150 (ninS (Nat.ne_of_lt (Nat.lt_of_lt_of_le lt_b136 bd_b137)) nin0))
        have f160 : Fld Z T139.heap b136 "com/example/stemline/stemline/graph/Edge" "source" "Lcom/example/stemline/stemline/model/ColumnSource;" .null := ((Fld.ext E137 D136_98).keep Ku150 (ninS (Nat.ne_of_lt (Nat.lt_of_lt_of_le lt_b136 bd_b137)) nin0))
        have f161 : Fld Z T139.heap b136 "com/example/stemline/stemline/graph/Edge" "target" "Lcom/example/stemline/stemline/model/TableColumn;" .null := ((Fld.ext E137 D136_100).keep Ku150 (ninS (Nat.ne_of_lt (Nat.lt_of_lt_of_le lt_b136 bd_b137)) nin0))
        obtain ⟨_, _, ⟨T162, L162, k162, n162⟩, -, X162, sn162, gr162, ⟨Lc162, hQ162, l162, y162, z162⟩, st162⟩ := X139.specialBackS hx (y := M_12) rfl hown116 (mvT hZ116 (hw _ (gw 90 rfl))) (mvT hZ116 (hw _ (gw 91 rfl))) (mvT hZ116 (hw _ (gw 92 rfl))) (by decide) (backOfS (W := 1) (rm15_19 l Z a0 hw [] b136 b72 b137 p5 T139.heap n0  Ou150 f157 f158 f159 f160 f161 g_b136) hZ116 (hw _ (gw 92 rfl)) (hw _ (gw 89 rfl)) (by decide) (by decide)) (g := (mkF m 210 #[.val (.int p1), .val (.int p2), .val (.int p3), .val (.int p4), .val (.int p5), .val (.int p6), .val (.ref b7), .val (.ref b17), .val (.ref b22), .val (.ref b72), .val (.int (0 : Int32)), .val (.ref a127), .val (.int (0 : Int32)), .val .null, .val .null, .unset, .unset] [(.int p5), (.ref b137), (.ref b72), .null, (.ref b136), (.ref b136)])) rfl (by rw [hml]; rfl) (Steps.refl _) (a := b136) (argsL := [.null, (.ref b72), (.ref b137), (.int p5)]) (rest := [(.ref b136)]) (lenOf pd_12 rfl) rfl (by show 2 * 0 + _ ≤ _; exact Nat.le_of_eq rfl) (hb hby at_210) (fun _ _ => ⟨rfl, rfl, (by decide : 23 + 4 ≤ _), (by decide : 126 + 48 ≤ _)⟩)
        dsimp only [Pt.U, Pt.locs, Pt.cells, Pt.slots] at X162 l162 y162 z162 st162 hQ162 sn162 gr162
        subst l162 y162 z162
        have gs162 : T139.heap.size ≤ T162.heap.size := gr162
        have hS162 : s.Since T162.vm T162.heap.size := hS116.trans sn162 (Nat.le_trans (Nat.le_trans (Nat.le_trans (Nat.le_trans (Nat.le_refl _) E136.1) E137.1) Ku150.1) gs162)
        have hZ162 : Z.Warmed39 (s.setVm T162.vm).vm := State.Warmed39.trans (t := (s.setVm T116.vm)) hZ116 sn162.1
        have hown162 : (s.setVm T162.vm).vm.findClass "com/example/stemline/stemline/graph/EdgeSourceColumnPinLaw" = some m.cls := by rw [show (s.setVm T162.vm).vm = T162.vm from rfl, sn162.1.alike.findClass]; exact hown116
        obtain ⟨rfl, u164, Ku165, u166, u167, u168, u169, u170⟩ := hQ162
        have Ou165 : Old Z n0 T162.heap := Ou150.keep Ku165 (allS g_b136 all0)
        have N162 := Fr.app N139 u164
        obtain ⟨cq171, kq171, q171a, q171b, q171c⟩ := isOf hZ162 rfl u166
        obtain ⟨_, _, ⟨T171, L171, k171, n171⟩, -, X171, ⟨Lc171, hQ171, l171, y171, z171⟩, st171⟩ := X162.virtualBack hx (y := M_13) (z := M_13) hown162 (mvT hZ162 (hw _ (gw 105 rfl))) (mvT hZ162 (hw _ (gw 106 rfl))) (notFace_of_selects (args := #[]) (mvT hZ162 (hw _ (gw 108 rfl)))) (mvT hZ162 (hw _ (gw 108 rfl))) (mvT hZ162 (hw _ (gw 107 rfl))) (by decide) (backOf (W := 0) (rm16_20 l Z a0 hw [] b136 T162.heap n0  Ou165 u169) hZ162 (hw _ (gw 109 rfl)) (hw _ (gw 89 rfl)) (by decide) (by decide)) q171a q171c (g := (mkF m 217 #[.val (.int p1), .val (.int p2), .val (.int p3), .val (.int p4), .val (.int p5), .val (.int p6), .val (.ref b7), .val (.ref b17), .val (.ref b22), .val (.ref b72), .val (.int (0 : Int32)), .val (.ref a127), .val (.int (0 : Int32)), .val .null, .val .null, .val (.ref b136), .unset] [(.ref b136)])) rfl (by rw [hml]; rfl) (Steps.refl _) (argsL := []) (rest := []) (lenOf pd_13 rfl) rfl (by show 2 * 0 + _ ≤ _; exact Nat.le_of_eq rfl) (hb hby at_217) (fun _ _ => ⟨rfl, rfl, (by decide : 27 + 0 ≤ _), (by decide : 174 + 0 ≤ _)⟩)
        dsimp only [Pt.U, Pt.locs, Pt.cells, Pt.slots] at X171 l171 y171 z171 st171 hQ171
        subst l171 y171 z171
        obtain ⟨rfl, u173, u174⟩ := hQ171
        have N171 := Fr.app N162 u173
        obtain ⟨fs, hr, hrun, hended, hEnd⟩ := X171.leaveW (s := s) (vm₁ := T162.vm) hS162 (by rw [u174]; exact (Nat.le_refl _)) (v := some (.int (1 : Int32))) (fun h => by rw [Bd.returns] at h; cases h)
        refine ⟨_, _, pre156 _ ?_, hrun, hended, _, _, rfl, ?_, hEnd.1, hEnd.2.1, hEnd.2.2.1, hEnd.2.2.2.mono (by decide) (by decide)⟩
        · show Steps p.tables e below (T139.setTop (mkF m 208 #[.val (.int p1), .val (.int p2), .val (.int p3), .val (.int p4), .val (.int p5), .val (.int p6), .val (.ref b7), .val (.ref b17), .val (.ref b22), .val (.ref b72), .val (.int (0 : Int32)), .val (.ref a127), .val (.int (0 : Int32)), .val .null, .val .null, .unset, .unset] [(.ref b137), (.ref b72), .null, (.ref b136), (.ref b136)])) _
          refine XS.iload X139.here hx rfl (hb hby at_208) rfl ?_
          show Steps p.tables e below (T139.setTop (mkF m 210 #[.val (.int p1), .val (.int p2), .val (.int p3), .val (.int p4), .val (.int p5), .val (.int p6), .val (.ref b7), .val (.ref b17), .val (.ref b22), .val (.ref b72), .val (.int (0 : Int32)), .val (.ref a127), .val (.int (0 : Int32)), .val .null, .val .null, .unset, .unset] [(.int p5), (.ref b137), (.ref b72), .null, (.ref b136), (.ref b136)])) _
          refine st162.trans ?_
          show Steps p.tables e below (T162.setTop (mkF m 213 #[.val (.int p1), .val (.int p2), .val (.int p3), .val (.int p4), .val (.int p5), .val (.int p6), .val (.ref b7), .val (.ref b17), .val (.ref b22), .val (.ref b72), .val (.int (0 : Int32)), .val (.ref a127), .val (.int (0 : Int32)), .val .null, .val .null, .unset, .unset] [(.ref b136)])) _
          refine XS.astore X162.here hx rfl (hb hby at_213) rfl rfl (l' := #[.val (.int p1), .val (.int p2), .val (.int p3), .val (.int p4), .val (.int p5), .val (.int p6), .val (.ref b7), .val (.ref b17), .val (.ref b22), .val (.ref b72), .val (.int (0 : Int32)), .val (.ref a127), .val (.int (0 : Int32)), .val .null, .val .null, .val (.ref b136), .unset]) rfl ?_
          show Steps p.tables e below (T162.setTop (mkF m 215 #[.val (.int p1), .val (.int p2), .val (.int p3), .val (.int p4), .val (.int p5), .val (.int p6), .val (.ref b7), .val (.ref b17), .val (.ref b22), .val (.ref b72), .val (.int (0 : Int32)), .val (.ref a127), .val (.int (0 : Int32)), .val .null, .val .null, .val (.ref b136), .unset] [])) _
          refine XS.aload X162.here hx rfl (hb hby at_215) rfl rfl ?_
          show Steps p.tables e below (T162.setTop (mkF m 217 #[.val (.int p1), .val (.int p2), .val (.int p3), .val (.int p4), .val (.int p5), .val (.int p6), .val (.ref b7), .val (.ref b17), .val (.ref b22), .val (.ref b72), .val (.int (0 : Int32)), .val (.ref a127), .val (.int (0 : Int32)), .val .null, .val .null, .val (.ref b136), .unset] [(.ref b136)])) _
          refine st171.trans ?_
          show Steps p.tables e below (T171.setTop (mkF m 220 #[.val (.int p1), .val (.int p2), .val (.int p3), .val (.int p4), .val (.int p5), .val (.int p6), .val (.ref b7), .val (.ref b17), .val (.ref b22), .val (.ref b72), .val (.int (0 : Int32)), .val (.ref a127), .val (.int (0 : Int32)), .val .null, .val .null, .val (.ref b136), .unset] [.null])) _
          refine XS.astore X171.here hx rfl (hb hby at_220) rfl rfl (l' := #[.val (.int p1), .val (.int p2), .val (.int p3), .val (.int p4), .val (.int p5), .val (.int p6), .val (.ref b7), .val (.ref b17), .val (.ref b22), .val (.ref b72), .val (.int (0 : Int32)), .val (.ref a127), .val (.int (0 : Int32)), .val .null, .val .null, .val (.ref b136), .val .null]) rfl ?_
          show Steps p.tables e below (T171.setTop (mkF m 222 #[.val (.int p1), .val (.int p2), .val (.int p3), .val (.int p4), .val (.int p5), .val (.int p6), .val (.ref b7), .val (.ref b17), .val (.ref b22), .val (.ref b72), .val (.int (0 : Int32)), .val (.ref a127), .val (.int (0 : Int32)), .val .null, .val .null, .val (.ref b136), .val .null] [])) _
          refine XS.iload X171.here hx rfl (hb hby at_222) rfl ?_
          show Steps p.tables e below (T171.setTop (mkF m 224 #[.val (.int p1), .val (.int p2), .val (.int p3), .val (.int p4), .val (.int p5), .val (.int p6), .val (.ref b7), .val (.ref b17), .val (.ref b22), .val (.ref b72), .val (.int (0 : Int32)), .val (.ref a127), .val (.int (0 : Int32)), .val .null, .val .null, .val (.ref b136), .val .null] [(.int (0 : Int32))])) _
          refine XS.ifNo X171.here hx rfl (hb hby at_224) rfl ((if0 _ _).trans (teq (by decide +kernel : (0 : Int32) = (0 : Int32))).2) ?_
          show Steps p.tables e below (T171.setTop (mkF m 227 #[.val (.int p1), .val (.int p2), .val (.int p3), .val (.int p4), .val (.int p5), .val (.int p6), .val (.ref b7), .val (.ref b17), .val (.ref b22), .val (.ref b72), .val (.int (0 : Int32)), .val (.ref a127), .val (.int (0 : Int32)), .val .null, .val .null, .val (.ref b136), .val .null] [])) _
          refine XS.aload X171.here hx rfl (hb hby at_227) rfl rfl ?_
          show Steps p.tables e below (T171.setTop (mkF m 229 #[.val (.int p1), .val (.int p2), .val (.int p3), .val (.int p4), .val (.int p5), .val (.int p6), .val (.ref b7), .val (.ref b17), .val (.ref b22), .val (.ref b72), .val (.int (0 : Int32)), .val (.ref a127), .val (.int (0 : Int32)), .val .null, .val .null, .val (.ref b136), .val .null] [.null])) _
          refine XS.ifnonnullNo X171.here hx rfl (hb hby at_229) rfl ?_
          show Steps p.tables e below (T171.setTop (mkF m 232 #[.val (.int p1), .val (.int p2), .val (.int p3), .val (.int p4), .val (.int p5), .val (.int p6), .val (.ref b7), .val (.ref b17), .val (.ref b22), .val (.ref b72), .val (.int (0 : Int32)), .val (.ref a127), .val (.int (0 : Int32)), .val .null, .val .null, .val (.ref b136), .val .null] [])) _
          refine XS.iconst X171.here hx rfl (hb hby at_232) ?_
          show Steps p.tables e below (T171.setTop (mkF m 233 #[.val (.int p1), .val (.int p2), .val (.int p3), .val (.int p4), .val (.int p5), .val (.int p6), .val (.ref b7), .val (.ref b17), .val (.ref b22), .val (.ref b72), .val (.int (0 : Int32)), .val (.ref a127), .val (.int (0 : Int32)), .val .null, .val .null, .val (.ref b136), .val .null] [(.int (1 : Int32))])) _
          refine XS.goto X171.here hx rfl (pc0 := 233) (pc' := 237) rfl (hb hby at_233) (by decide) (by decide) ?_
          show Steps p.tables e below (T171.setTop (mkF m 237 #[.val (.int p1), .val (.int p2), .val (.int p3), .val (.int p4), .val (.int p5), .val (.int p6), .val (.ref b7), .val (.ref b17), .val (.ref b22), .val (.ref b72), .val (.int (0 : Int32)), .val (.ref a127), .val (.int (0 : Int32)), .val .null, .val .null, .val (.ref b136), .val .null] [(.int (1 : Int32))])) _
          exact retN X171 hx (t := .boolean) Bd.returns (by simp) (hb hby at_237) hr
        · show Q0 Z _ _ _ _ _ _ _ _ _ _ h0 n0 _ T171.heap _
          rw [u174]
          exact ⟨rfl, N171⟩
      · skip
        obtain ⟨T175, h175, X175, e175, E175, A175, D175, -, st175⟩ := newO X129 hx hZ116 hown116 (hw _ (gw 4 rfl)) (hw _ (gw 5 rfl)) (hw _ (gw 6 rfl)) e129 (g := (mkF m 152 #[.val (.int p1), .val (.int p2), .val (.int p3), .val (.int p4), .val (.int p5), .val (.int p6), .val (.ref b7), .val (.ref b17), .val (.ref b22), .val (.ref b72), .val (.int (0 : Int32)), .val (.ref a127), .val (.int (0 : Int32)), .unset, .unset, .unset, .unset] [])) rfl (hb hby at_152) (by decide) (by decide)
        obtain ⟨b175, g175⟩ : ∃ z, z = T116.heap.size := ⟨_, rfl⟩
        rw [← g175] at A175 D175 st175
        have O175 : Old Z n0 h175 := Ou119.ext E175
        have bd_b175 : T116.heap.size ≤ b175 := Nat.le_of_eq g175.symm
        have g_b175 : n0 ≤ b175 := Nat.le_trans (own_z Ou119) bd_b175
        have sz_b175 : h0.size ≤ b175 := Nat.le_trans (Nat.le_trans (Nat.le_trans (Nat.le_trans (Nat.le_trans (Nat.le_trans (Nat.le_trans (Nat.le_trans (Nat.le_trans (Nat.le_trans (Nat.le_trans (Nat.le_trans (Nat.le_trans (Nat.le_trans (Nat.le_trans E7.1 (Keep.of_wr W11).1) (Keep.of_wr W16).1) E17.1) (Keep.of_wr W21).1) E22.1) E23.1) Ku39.1) E45.1) Ku56.1) Ku68.1) E72.1) Ku87.1) Ku107.1) Ku119.1) bd_b175
        have lt_b175 : b175 < h175.size := A175.lt
        have D175_30 : Fld Z h175 b175 "java/lang/String" "coder" "B" (.int (0 : Int32)) := D175 (Or.inr (hw _ (gw 30 rfl))) (ty := .byte) (by decide)
        have D175_32 : Fld Z h175 b175 "java/lang/String" "value" "[B" .null := D175 (Or.inr (hw _ (gw 32 rfl))) (ty := (.array .byte)) (by decide)
        have f176 : Arv Z h175 b17 k17 .char (1 : Int32) [(.int i18)] (.int (0 : Int32)) := (((((((f46.keep Ku56 (ninS (Nat.ne_of_lt (Nat.lt_of_lt_of_le (Nat.lt_of_lt_of_le (Nat.lt_of_lt_of_le (Nat.lt_of_lt_of_le (Nat.lt_of_lt_of_le lt_b17 (Keep.of_wr W21).1) E22.1) E23.1) Ku39.1) bd_b45)) nin0)).keep Ku68 (ninS (Nat.ne_of_lt (Nat.lt_of_lt_of_le (Nat.lt_of_lt_of_le lt_b17 (Keep.of_wr W21).1) bd_b22)) nin0)).ext E72).keep Ku87 nin0).keep Ku107 nin0).keep Ku119 (ninS (Nat.ne_of_lt (Nat.lt_of_lt_of_le (Nat.lt_of_lt_of_le (Nat.lt_of_lt_of_le (Nat.lt_of_lt_of_le (Nat.lt_of_lt_of_le (Nat.lt_of_lt_of_le (Nat.lt_of_lt_of_le (Nat.lt_of_lt_of_le lt_b17 (Keep.of_wr W21).1) E22.1) E23.1) Ku39.1) E45.1) Ku56.1) Ku68.1) bd_b72)) nin0)).ext E175)
        obtain ⟨_, _, ⟨T177, L177, k177, n177⟩, -, X177, ⟨Lc177, hQ177, l177, y177, z177⟩, st177⟩ := X175.specialBack hx (y := M_4) rfl hown116 (mvT hZ116 (hw _ (gw 7 rfl))) (mvT hZ116 (hw _ (gw 8 rfl))) (mvT hZ116 (hw _ (gw 9 rfl))) (by decide) (backOf (W := 1) (rm1_7 l Z a0 hw [] b175 b17 i18 k17 p24 h175 n0  O175 f176 S_25 hk26 (own_lt255 hi18) A175 D175_30 D175_32 g_b175 lt_b175) hZ116 (hw _ (gw 9 rfl)) (hw _ (gw 6 rfl)) (by decide) (by decide)) (g := (mkF m 158 #[.val (.int p1), .val (.int p2), .val (.int p3), .val (.int p4), .val (.int p5), .val (.int p6), .val (.ref b7), .val (.ref b17), .val (.ref b22), .val (.ref b72), .val (.int (0 : Int32)), .val (.ref a127), .val (.int (0 : Int32)), .unset, .unset, .unset, .unset] [(.ref b17), (.ref b175), (.ref b175)])) rfl (by rw [hml]; rfl) (Steps.refl _) (a := b175) (argsL := [(.ref b17)]) (rest := [(.ref b175)]) (lenOf pd_4 rfl) rfl (by show 2 * 0 + _ ≤ _; exact Nat.le_of_eq rfl) (hb hby at_158) (fun _ _ => ⟨rfl, e175, (by decide : 21 + 1 ≤ _), (by decide : 120 + 1 ≤ _)⟩)
        dsimp only [Pt.U, Pt.locs, Pt.cells, Pt.slots] at X177 l177 y177 z177 st177 hQ177
        subst l177 y177 z177
        obtain ⟨i178, b179, k180, u181, rfl, u183, u184, u185, Ku186, u187, u188, u189, u190, u191⟩ := hQ177
        have Ou186 : Old Z n0 T177.heap := O175.keep Ku186 (allS g_b175 all0)
        have g_b179 : n0 ≤ b179 := Nat.le_trans (own_z O175) u184
        have sz_b179 : h0.size ≤ b179 := Nat.le_trans (Nat.le_trans (Nat.le_trans (Nat.le_trans (Nat.le_trans (Nat.le_trans (Nat.le_trans (Nat.le_trans (Nat.le_trans (Nat.le_trans (Nat.le_trans (Nat.le_trans (Nat.le_trans (Nat.le_trans (Nat.le_trans (Nat.le_trans E7.1 (Keep.of_wr W11).1) (Keep.of_wr W16).1) E17.1) (Keep.of_wr W21).1) E22.1) E23.1) Ku39.1) E45.1) Ku56.1) Ku68.1) E72.1) Ku87.1) Ku107.1) Ku119.1) E175.1) u184
        have N177 := Fr.app N116 u183
        have pre192 : ∀ t, Steps p.tables e below (T177.setTop (mkF m 161 #[.val (.int p1), .val (.int p2), .val (.int p3), .val (.int p4), .val (.int p5), .val (.int p6), .val (.ref b7), .val (.ref b17), .val (.ref b22), .val (.ref b72), .val (.int (0 : Int32)), .val (.ref a127), .val (.int (0 : Int32)), .unset, .unset, .unset, .unset] [(.ref b175)])) t → Steps p.tables e below (s₁.setTop (entryFrame m #[(.int p1), (.int p2), (.int p3), (.int p4), (.int p5), (.int p6)] maxLocals)) t := by
          intro t kt
          refine pre134 t ?_
          show Steps p.tables e below (T129.setTop (mkF m 149 #[.val (.int p1), .val (.int p2), .val (.int p3), .val (.int p4), .val (.int p5), .val (.int p6), .val (.ref b7), .val (.ref b17), .val (.ref b22), .val (.ref b72), .val (.int (0 : Int32)), .val (.ref a127), .val (.int (0 : Int32)), .unset, .unset, .unset, .unset] [(.int i133)])) _
          refine XS.ifNo X129.here hx rfl (hb hby at_149) rfl ((if0 _ _).trans (feq hc135).1) ?_
          show Steps p.tables e below (T129.setTop (mkF m 152 #[.val (.int p1), .val (.int p2), .val (.int p3), .val (.int p4), .val (.int p5), .val (.int p6), .val (.ref b7), .val (.ref b17), .val (.ref b22), .val (.ref b72), .val (.int (0 : Int32)), .val (.ref a127), .val (.int (0 : Int32)), .unset, .unset, .unset, .unset] [])) _
          refine st175 _ ?_
          show Steps p.tables e below (T175.setTop (mkF m 155 #[.val (.int p1), .val (.int p2), .val (.int p3), .val (.int p4), .val (.int p5), .val (.int p6), .val (.ref b7), .val (.ref b17), .val (.ref b22), .val (.ref b72), .val (.int (0 : Int32)), .val (.ref a127), .val (.int (0 : Int32)), .unset, .unset, .unset, .unset] [(.ref b175)])) _
          refine XS.dup X175.here hx rfl (hb hby at_155) rfl rfl ?_
          show Steps p.tables e below (T175.setTop (mkF m 156 #[.val (.int p1), .val (.int p2), .val (.int p3), .val (.int p4), .val (.int p5), .val (.int p6), .val (.ref b7), .val (.ref b17), .val (.ref b22), .val (.ref b72), .val (.int (0 : Int32)), .val (.ref a127), .val (.int (0 : Int32)), .unset, .unset, .unset, .unset] [(.ref b175), (.ref b175)])) _
          refine XS.aload X175.here hx rfl (hb hby at_156) rfl rfl ?_
          show Steps p.tables e below (T175.setTop (mkF m 158 #[.val (.int p1), .val (.int p2), .val (.int p3), .val (.int p4), .val (.int p5), .val (.int p6), .val (.ref b7), .val (.ref b17), .val (.ref b22), .val (.ref b72), .val (.int (0 : Int32)), .val (.ref a127), .val (.int (0 : Int32)), .unset, .unset, .unset, .unset] [(.ref b17), (.ref b175), (.ref b175)])) _
          refine st177.trans ?_
          exact kt
        obtain rfl : i48 = i178 := (u181.trans u51.symm).symm
        obtain ⟨T193, h193, X193, e193, E193, A193, D193, -, st193⟩ := newO X177 hx hZ116 hown116 (hw _ (gw 87 rfl)) (hw _ (gw 88 rfl)) (hw _ (gw 89 rfl)) rfl (g := (mkF m 191 #[.val (.int p1), .val (.int p2), .val (.int p3), .val (.int p4), .val (.int p5), .val (.int p6), .val (.ref b7), .val (.ref b17), .val (.ref b22), .val (.ref b72), .val (.int (0 : Int32)), .val (.ref a127), .val (.int (0 : Int32)), .val (.ref b175), .val .null, .unset, .unset] [])) rfl (hb hby at_191) (by decide) (by decide)
        obtain ⟨b193, g193⟩ : ∃ z, z = T177.heap.size := ⟨_, rfl⟩
        rw [← g193] at A193 D193 st193
        have O193 : Old Z n0 h193 := Ou186.ext E193
        have bd_b193 : T177.heap.size ≤ b193 := Nat.le_of_eq g193.symm
        have g_b193 : n0 ≤ b193 := Nat.le_trans (own_z Ou186) bd_b193
        have sz_b193 : h0.size ≤ b193 := Nat.le_trans (Nat.le_trans (Nat.le_trans (Nat.le_trans (Nat.le_trans (Nat.le_trans (Nat.le_trans (Nat.le_trans (Nat.le_trans (Nat.le_trans (Nat.le_trans (Nat.le_trans (Nat.le_trans (Nat.le_trans (Nat.le_trans (Nat.le_trans (Nat.le_trans E7.1 (Keep.of_wr W11).1) (Keep.of_wr W16).1) E17.1) (Keep.of_wr W21).1) E22.1) E23.1) Ku39.1) E45.1) Ku56.1) Ku68.1) E72.1) Ku87.1) Ku107.1) Ku119.1) E175.1) Ku186.1) bd_b193
        have lt_b193 : b193 < h193.size := A193.lt
        have D193_98 : Fld Z h193 b193 "com/example/stemline/stemline/graph/Edge" "source" "Lcom/example/stemline/stemline/model/ColumnSource;" .null := D193 (Or.inr (hw _ (gw 98 rfl))) (ty := (.object "com/example/stemline/stemline/model/ColumnSource")) (by decide)
        have D193_100 : Fld Z h193 b193 "com/example/stemline/stemline/graph/Edge" "target" "Lcom/example/stemline/stemline/model/TableColumn;" .null := D193 (Or.inr (hw _ (gw 100 rfl))) (ty := (.object "com/example/stemline/stemline/model/TableColumn")) (by decide)
        have D193_102 : Fld Z h193 b193 "com/example/stemline/stemline/graph/Edge" "file" "Ljava/lang/String;" .null := D193 (Or.inr (hw _ (gw 102 rfl))) (ty := (.object "java/lang/String")) (by decide)
        have D193_104 : Fld Z h193 b193 "com/example/stemline/stemline/graph/Edge" "line" "I" (.int (0 : Int32)) := D193 (Or.inr (hw _ (gw 104 rfl))) (ty := .int) (by decide)
        obtain ⟨T194, h194, X194, e194, E194, A194, D194, -, st194⟩ := newO X193 hx hZ116 hown116 (hw _ (gw 4 rfl)) (hw _ (gw 5 rfl)) (hw _ (gw 6 rfl)) e193 (g := (mkF m 199 #[.val (.int p1), .val (.int p2), .val (.int p3), .val (.int p4), .val (.int p5), .val (.int p6), .val (.ref b7), .val (.ref b17), .val (.ref b22), .val (.ref b72), .val (.int (0 : Int32)), .val (.ref a127), .val (.int (0 : Int32)), .val (.ref b175), .val .null, .unset, .unset] [(.ref b72), .null, (.ref b193), (.ref b193)])) rfl (hb hby at_199) (by decide) (by decide)
        obtain ⟨b194, g194⟩ : ∃ z, z = h193.size := ⟨_, rfl⟩
        rw [← g194] at A194 D194 st194
        have O194 : Old Z n0 h194 := O193.ext E194
        have bd_b194 : h193.size ≤ b194 := Nat.le_of_eq g194.symm
        have g_b194 : n0 ≤ b194 := Nat.le_trans (own_z O193) bd_b194
        have sz_b194 : h0.size ≤ b194 := Nat.le_trans (Nat.le_trans (Nat.le_trans (Nat.le_trans (Nat.le_trans (Nat.le_trans (Nat.le_trans (Nat.le_trans (Nat.le_trans (Nat.le_trans (Nat.le_trans (Nat.le_trans (Nat.le_trans (Nat.le_trans (Nat.le_trans (Nat.le_trans (Nat.le_trans (Nat.le_trans E7.1 (Keep.of_wr W11).1) (Keep.of_wr W16).1) E17.1) (Keep.of_wr W21).1) E22.1) E23.1) Ku39.1) E45.1) Ku56.1) Ku68.1) E72.1) Ku87.1) Ku107.1) Ku119.1) E175.1) Ku186.1) E193.1) bd_b194
        have lt_b194 : b194 < h194.size := A194.lt
        have D194_30 : Fld Z h194 b194 "java/lang/String" "coder" "B" (.int (0 : Int32)) := D194 (Or.inr (hw _ (gw 30 rfl))) (ty := .byte) (by decide)
        have D194_32 : Fld Z h194 b194 "java/lang/String" "value" "[B" .null := D194 (Or.inr (hw _ (gw 32 rfl))) (ty := (.array .byte)) (by decide)
        have f195 : Arv Z h194 b7 k7 .char (2 : Int32) [(.int i8), (.int i13)] (.int (0 : Int32)) := ((((((((((((f27.keep Ku39 (ninS (Nat.ne_of_lt (Nat.lt_of_lt_of_le (Nat.lt_of_lt_of_le (Nat.lt_of_lt_of_le (Nat.lt_of_lt_of_le (Nat.lt_of_lt_of_le (Nat.lt_of_lt_of_le lt_b7 (Keep.of_wr W11).1) (Keep.of_wr W16).1) E17.1) (Keep.of_wr W21).1) E22.1) bd_b23)) nin0)).ext E45).keep Ku56 (ninS (Nat.ne_of_lt (Nat.lt_of_lt_of_le (Nat.lt_of_lt_of_le (Nat.lt_of_lt_of_le (Nat.lt_of_lt_of_le (Nat.lt_of_lt_of_le (Nat.lt_of_lt_of_le (Nat.lt_of_lt_of_le (Nat.lt_of_lt_of_le lt_b7 (Keep.of_wr W11).1) (Keep.of_wr W16).1) E17.1) (Keep.of_wr W21).1) E22.1) E23.1) Ku39.1) bd_b45)) nin0)).keep Ku68 (ninS (Nat.ne_of_lt (Nat.lt_of_lt_of_le (Nat.lt_of_lt_of_le (Nat.lt_of_lt_of_le (Nat.lt_of_lt_of_le (Nat.lt_of_lt_of_le lt_b7 (Keep.of_wr W11).1) (Keep.of_wr W16).1) E17.1) (Keep.of_wr W21).1) bd_b22)) nin0)).ext E72).keep Ku87 nin0).keep Ku107 nin0).keep Ku119 (ninS (Nat.ne_of_lt (Nat.lt_of_lt_of_le (Nat.lt_of_lt_of_le (Nat.lt_of_lt_of_le (Nat.lt_of_lt_of_le (Nat.lt_of_lt_of_le (Nat.lt_of_lt_of_le (Nat.lt_of_lt_of_le (Nat.lt_of_lt_of_le (Nat.lt_of_lt_of_le (Nat.lt_of_lt_of_le (Nat.lt_of_lt_of_le lt_b7 (Keep.of_wr W11).1) (Keep.of_wr W16).1) E17.1) (Keep.of_wr W21).1) E22.1) E23.1) Ku39.1) E45.1) Ku56.1) Ku68.1) bd_b72)) nin0)).ext E175).keep Ku186 (ninS (Nat.ne_of_lt (Nat.lt_of_lt_of_le (Nat.lt_of_lt_of_le (Nat.lt_of_lt_of_le (Nat.lt_of_lt_of_le (Nat.lt_of_lt_of_le (Nat.lt_of_lt_of_le (Nat.lt_of_lt_of_le (Nat.lt_of_lt_of_le (Nat.lt_of_lt_of_le (Nat.lt_of_lt_of_le (Nat.lt_of_lt_of_le (Nat.lt_of_lt_of_le (Nat.lt_of_lt_of_le (Nat.lt_of_lt_of_le (Nat.lt_of_lt_of_le lt_b7 (Keep.of_wr W11).1) (Keep.of_wr W16).1) E17.1) (Keep.of_wr W21).1) E22.1) E23.1) Ku39.1) E45.1) Ku56.1) Ku68.1) E72.1) Ku87.1) Ku107.1) Ku119.1) bd_b175)) nin0)).ext E193).ext E194)
        obtain ⟨_, _, ⟨T196, L196, k196, n196⟩, -, X196, ⟨Lc196, hQ196, l196, y196, z196⟩, st196⟩ := X194.specialBack hx (y := M_4) rfl hown116 (mvT hZ116 (hw _ (gw 7 rfl))) (mvT hZ116 (hw _ (gw 8 rfl))) (mvT hZ116 (hw _ (gw 9 rfl))) (by decide) (backOf (W := 5) (rm1_2 l Z a0 hw [] b194 b7 i8 i13 k7 p24 h194 n0  O194 f195 S_25 hk26 (own_lt255 hi8) (own_lt255 hi13) A194 D194_30 D194_32 (Nat.lt_of_lt_of_le (Nat.lt_of_lt_of_le (Nat.lt_of_lt_of_le (Nat.lt_of_lt_of_le (Nat.lt_of_lt_of_le (Nat.lt_of_lt_of_le (Nat.lt_of_lt_of_le (Nat.lt_of_lt_of_le (Nat.lt_of_lt_of_le (Nat.lt_of_lt_of_le (Nat.lt_of_lt_of_le (Nat.lt_of_lt_of_le (Nat.lt_of_lt_of_le (Nat.lt_of_lt_of_le (Nat.lt_of_lt_of_le (Nat.lt_of_lt_of_le (Nat.lt_of_lt_of_le (Nat.lt_of_lt_of_le lt_b7 (Keep.of_wr W11).1) (Keep.of_wr W16).1) E17.1) (Keep.of_wr W21).1) E22.1) E23.1) Ku39.1) E45.1) Ku56.1) Ku68.1) E72.1) Ku87.1) Ku107.1) Ku119.1) E175.1) Ku186.1) E193.1) E194.1) g_b194 lt_b194) hZ116 (hw _ (gw 9 rfl)) (hw _ (gw 6 rfl)) (by decide) (by decide)) (g := (mkF m 205 #[.val (.int p1), .val (.int p2), .val (.int p3), .val (.int p4), .val (.int p5), .val (.int p6), .val (.ref b7), .val (.ref b17), .val (.ref b22), .val (.ref b72), .val (.int (0 : Int32)), .val (.ref a127), .val (.int (0 : Int32)), .val (.ref b175), .val .null, .unset, .unset] [(.ref b7), (.ref b194), (.ref b194), (.ref b72), .null, (.ref b193), (.ref b193)])) rfl (by rw [hml]; rfl) (Steps.refl _) (a := b194) (argsL := [(.ref b7)]) (rest := [(.ref b194), (.ref b72), .null, (.ref b193), (.ref b193)]) (lenOf pd_4 rfl) rfl (by show 2 * 0 + _ ≤ _; exact Nat.le_of_eq rfl) (hb hby at_205) (fun _ _ => ⟨rfl, e194, (by decide : 24 + 1 ≤ _), (by decide : 129 + 2 ≤ _)⟩)
        dsimp only [Pt.U, Pt.locs, Pt.cells, Pt.slots] at X196 l196 y196 z196 st196 hQ196
        subst l196 y196 z196
        obtain ⟨i197, i198, b199, k200, u201, u202, rfl, u204, u205, u206, Ku207, u208, u209, u210, u211, u212⟩ := hQ196
        have Ou207 : Old Z n0 T196.heap := O194.keep Ku207 (allS g_b194 all0)
        have g_b199 : n0 ≤ b199 := Nat.le_trans (own_z O194) u205
        have sz_b199 : h0.size ≤ b199 := Nat.le_trans (Nat.le_trans (Nat.le_trans (Nat.le_trans (Nat.le_trans (Nat.le_trans (Nat.le_trans (Nat.le_trans (Nat.le_trans (Nat.le_trans (Nat.le_trans (Nat.le_trans (Nat.le_trans (Nat.le_trans (Nat.le_trans (Nat.le_trans (Nat.le_trans (Nat.le_trans (Nat.le_trans E7.1 (Keep.of_wr W11).1) (Keep.of_wr W16).1) E17.1) (Keep.of_wr W21).1) E22.1) E23.1) Ku39.1) E45.1) Ku56.1) Ku68.1) E72.1) Ku87.1) Ku107.1) Ku119.1) E175.1) Ku186.1) E193.1) E194.1) u205
        have N196 := Fr.app N177 u204
        have pre213 : ∀ t, Steps p.tables e below (T196.setTop (mkF m 208 #[.val (.int p1), .val (.int p2), .val (.int p3), .val (.int p4), .val (.int p5), .val (.int p6), .val (.ref b7), .val (.ref b17), .val (.ref b22), .val (.ref b72), .val (.int (0 : Int32)), .val (.ref a127), .val (.int (0 : Int32)), .val (.ref b175), .val .null, .unset, .unset] [(.ref b194), (.ref b72), .null, (.ref b193), (.ref b193)])) t → Steps p.tables e below (s₁.setTop (entryFrame m #[(.int p1), (.int p2), (.int p3), (.int p4), (.int p5), (.int p6)] maxLocals)) t := by
          intro t kt
          refine pre192 t ?_
          show Steps p.tables e below (T177.setTop (mkF m 161 #[.val (.int p1), .val (.int p2), .val (.int p3), .val (.int p4), .val (.int p5), .val (.int p6), .val (.ref b7), .val (.ref b17), .val (.ref b22), .val (.ref b72), .val (.int (0 : Int32)), .val (.ref a127), .val (.int (0 : Int32)), .unset, .unset, .unset, .unset] [(.ref b175)])) _
          refine XS.goto X177.here hx rfl (pc0 := 161) (pc' := 165) rfl (hb hby at_161) (by decide) (by decide) ?_
          show Steps p.tables e below (T177.setTop (mkF m 165 #[.val (.int p1), .val (.int p2), .val (.int p3), .val (.int p4), .val (.int p5), .val (.int p6), .val (.ref b7), .val (.ref b17), .val (.ref b22), .val (.ref b72), .val (.int (0 : Int32)), .val (.ref a127), .val (.int (0 : Int32)), .unset, .unset, .unset, .unset] [(.ref b175)])) _
          refine XS.astore X177.here hx rfl (hb hby at_165) rfl rfl (l' := #[.val (.int p1), .val (.int p2), .val (.int p3), .val (.int p4), .val (.int p5), .val (.int p6), .val (.ref b7), .val (.ref b17), .val (.ref b22), .val (.ref b72), .val (.int (0 : Int32)), .val (.ref a127), .val (.int (0 : Int32)), .val (.ref b175), .unset, .unset, .unset]) rfl ?_
          show Steps p.tables e below (T177.setTop (mkF m 167 #[.val (.int p1), .val (.int p2), .val (.int p3), .val (.int p4), .val (.int p5), .val (.int p6), .val (.ref b7), .val (.ref b17), .val (.ref b22), .val (.ref b72), .val (.int (0 : Int32)), .val (.ref a127), .val (.int (0 : Int32)), .val (.ref b175), .unset, .unset, .unset] [])) _
          refine XS.iload X177.here hx rfl (hb hby at_167) rfl ?_
          show Steps p.tables e below (T177.setTop (mkF m 169 #[.val (.int p1), .val (.int p2), .val (.int p3), .val (.int p4), .val (.int p5), .val (.int p6), .val (.ref b7), .val (.ref b17), .val (.ref b22), .val (.ref b72), .val (.int (0 : Int32)), .val (.ref a127), .val (.int (0 : Int32)), .val (.ref b175), .unset, .unset, .unset] [(.int (0 : Int32))])) _
          refine XS.ifYes X177.here hx rfl (pc0 := 169) (pc' := 188) rfl (hb hby at_169) rfl ((if0 _ _).trans (teq (by decide +kernel : (0 : Int32) = (0 : Int32))).1) (by decide) (by decide) ?_
          show Steps p.tables e below (T177.setTop (mkF m 188 #[.val (.int p1), .val (.int p2), .val (.int p3), .val (.int p4), .val (.int p5), .val (.int p6), .val (.ref b7), .val (.ref b17), .val (.ref b22), .val (.ref b72), .val (.int (0 : Int32)), .val (.ref a127), .val (.int (0 : Int32)), .val (.ref b175), .unset, .unset, .unset] [])) _
          refine XS.aconstNull X177.here hx rfl (hb hby at_188) ?_
          show Steps p.tables e below (T177.setTop (mkF m 189 #[.val (.int p1), .val (.int p2), .val (.int p3), .val (.int p4), .val (.int p5), .val (.int p6), .val (.ref b7), .val (.ref b17), .val (.ref b22), .val (.ref b72), .val (.int (0 : Int32)), .val (.ref a127), .val (.int (0 : Int32)), .val (.ref b175), .unset, .unset, .unset] [.null])) _
          refine XS.astore X177.here hx rfl (hb hby at_189) rfl rfl (l' := #[.val (.int p1), .val (.int p2), .val (.int p3), .val (.int p4), .val (.int p5), .val (.int p6), .val (.ref b7), .val (.ref b17), .val (.ref b22), .val (.ref b72), .val (.int (0 : Int32)), .val (.ref a127), .val (.int (0 : Int32)), .val (.ref b175), .val .null, .unset, .unset]) rfl ?_
          show Steps p.tables e below (T177.setTop (mkF m 191 #[.val (.int p1), .val (.int p2), .val (.int p3), .val (.int p4), .val (.int p5), .val (.int p6), .val (.ref b7), .val (.ref b17), .val (.ref b22), .val (.ref b72), .val (.int (0 : Int32)), .val (.ref a127), .val (.int (0 : Int32)), .val (.ref b175), .val .null, .unset, .unset] [])) _
          refine st193 _ ?_
          show Steps p.tables e below (T193.setTop (mkF m 194 #[.val (.int p1), .val (.int p2), .val (.int p3), .val (.int p4), .val (.int p5), .val (.int p6), .val (.ref b7), .val (.ref b17), .val (.ref b22), .val (.ref b72), .val (.int (0 : Int32)), .val (.ref a127), .val (.int (0 : Int32)), .val (.ref b175), .val .null, .unset, .unset] [(.ref b193)])) _
          refine XS.dup X193.here hx rfl (hb hby at_194) rfl rfl ?_
          show Steps p.tables e below (T193.setTop (mkF m 195 #[.val (.int p1), .val (.int p2), .val (.int p3), .val (.int p4), .val (.int p5), .val (.int p6), .val (.ref b7), .val (.ref b17), .val (.ref b22), .val (.ref b72), .val (.int (0 : Int32)), .val (.ref a127), .val (.int (0 : Int32)), .val (.ref b175), .val .null, .unset, .unset] [(.ref b193), (.ref b193)])) _
          refine XS.aload X193.here hx rfl (hb hby at_195) rfl rfl ?_
          show Steps p.tables e below (T193.setTop (mkF m 197 #[.val (.int p1), .val (.int p2), .val (.int p3), .val (.int p4), .val (.int p5), .val (.int p6), .val (.ref b7), .val (.ref b17), .val (.ref b22), .val (.ref b72), .val (.int (0 : Int32)), .val (.ref a127), .val (.int (0 : Int32)), .val (.ref b175), .val .null, .unset, .unset] [.null, (.ref b193), (.ref b193)])) _
          refine XS.aload X193.here hx rfl (hb hby at_197) rfl rfl ?_
          show Steps p.tables e below (T193.setTop (mkF m 199 #[.val (.int p1), .val (.int p2), .val (.int p3), .val (.int p4), .val (.int p5), .val (.int p6), .val (.ref b7), .val (.ref b17), .val (.ref b22), .val (.ref b72), .val (.int (0 : Int32)), .val (.ref a127), .val (.int (0 : Int32)), .val (.ref b175), .val .null, .unset, .unset] [(.ref b72), .null, (.ref b193), (.ref b193)])) _
          refine st194 _ ?_
          show Steps p.tables e below (T194.setTop (mkF m 202 #[.val (.int p1), .val (.int p2), .val (.int p3), .val (.int p4), .val (.int p5), .val (.int p6), .val (.ref b7), .val (.ref b17), .val (.ref b22), .val (.ref b72), .val (.int (0 : Int32)), .val (.ref a127), .val (.int (0 : Int32)), .val (.ref b175), .val .null, .unset, .unset] [(.ref b194), (.ref b72), .null, (.ref b193), (.ref b193)])) _
          refine XS.dup X194.here hx rfl (hb hby at_202) rfl rfl ?_
          show Steps p.tables e below (T194.setTop (mkF m 203 #[.val (.int p1), .val (.int p2), .val (.int p3), .val (.int p4), .val (.int p5), .val (.int p6), .val (.ref b7), .val (.ref b17), .val (.ref b22), .val (.ref b72), .val (.int (0 : Int32)), .val (.ref a127), .val (.int (0 : Int32)), .val (.ref b175), .val .null, .unset, .unset] [(.ref b194), (.ref b194), (.ref b72), .null, (.ref b193), (.ref b193)])) _
          refine XS.aload X194.here hx rfl (hb hby at_203) rfl rfl ?_
          show Steps p.tables e below (T194.setTop (mkF m 205 #[.val (.int p1), .val (.int p2), .val (.int p3), .val (.int p4), .val (.int p5), .val (.int p6), .val (.ref b7), .val (.ref b17), .val (.ref b22), .val (.ref b72), .val (.int (0 : Int32)), .val (.ref a127), .val (.int (0 : Int32)), .val (.ref b175), .val .null, .unset, .unset] [(.ref b7), (.ref b194), (.ref b194), (.ref b72), .null, (.ref b193), (.ref b193)])) _
          refine st196.trans ?_
          exact kt
        obtain rfl : i30 = i198 := (u201.trans u33.symm).symm
        obtain rfl : i29 = i197 := (u202.trans u34.symm).symm
        have f214 : Exa Z T196.heap b193 "com/example/stemline/stemline/graph/Edge" := ((Exa.ext E194 A193).keep Ku207)
        have f215 : Fld Z T196.heap b193 "com/example/stemline/stemline/graph/Edge" "file" "Ljava/lang/String;" .null := ((Fld.ext E194 D193_102).keep Ku207 (ninS (Nat.ne_of_lt (Nat.lt_of_lt_of_le lt_b193 bd_b194)) nin0))
        have f216 : Fld Z T196.heap b193 "com/example/stemline/stemline/graph/Edge" "line" "I" (.int (0 : Int32)) := ((Fld.ext E194 D193_104).keep Ku207 (ninS (Nat.ne_of_lt (Nat.lt_of_lt_of_le lt_b193 bd_b194)) nin0))
        have f217 : Fld Z T196.heap b193 "com/example/stemline/stemline/graph/Edge" "source" "Lcom/example/stemline/stemline/model/ColumnSource;" .null := ((Fld.ext E194 D193_98).keep Ku207 (ninS (Nat.ne_of_lt (Nat.lt_of_lt_of_le lt_b193 bd_b194)) nin0))
        have f218 : Fld Z T196.heap b193 "com/example/stemline/stemline/graph/Edge" "target" "Lcom/example/stemline/stemline/model/TableColumn;" .null := ((Fld.ext E194 D193_100).keep Ku207 (ninS (Nat.ne_of_lt (Nat.lt_of_lt_of_le lt_b193 bd_b194)) nin0))
        obtain ⟨_, _, ⟨T219, L219, k219, n219⟩, -, X219, sn219, gr219, ⟨Lc219, hQ219, l219, y219, z219⟩, st219⟩ := X196.specialBackS hx (y := M_12) rfl hown116 (mvT hZ116 (hw _ (gw 90 rfl))) (mvT hZ116 (hw _ (gw 91 rfl))) (mvT hZ116 (hw _ (gw 92 rfl))) (by decide) (backOfS (W := 1) (rm15_19 l Z a0 hw [] b193 b72 b194 p5 T196.heap n0  Ou207 f214 f215 f216 f217 f218 g_b193) hZ116 (hw _ (gw 92 rfl)) (hw _ (gw 89 rfl)) (by decide) (by decide)) (g := (mkF m 210 #[.val (.int p1), .val (.int p2), .val (.int p3), .val (.int p4), .val (.int p5), .val (.int p6), .val (.ref b7), .val (.ref b17), .val (.ref b22), .val (.ref b72), .val (.int (0 : Int32)), .val (.ref a127), .val (.int (0 : Int32)), .val (.ref b175), .val .null, .unset, .unset] [(.int p5), (.ref b194), (.ref b72), .null, (.ref b193), (.ref b193)])) rfl (by rw [hml]; rfl) (Steps.refl _) (a := b193) (argsL := [.null, (.ref b72), (.ref b194), (.int p5)]) (rest := [(.ref b193)]) (lenOf pd_12 rfl) rfl (by show 2 * 0 + _ ≤ _; exact Nat.le_of_eq rfl) (hb hby at_210) (fun _ _ => ⟨rfl, rfl, (by decide : 25 + 4 ≤ _), (by decide : 131 + 48 ≤ _)⟩)
        dsimp only [Pt.U, Pt.locs, Pt.cells, Pt.slots] at X219 l219 y219 z219 st219 hQ219 sn219 gr219
        subst l219 y219 z219
        have gs219 : T196.heap.size ≤ T219.heap.size := gr219
        have hS219 : s.Since T219.vm T219.heap.size := hS116.trans sn219 (Nat.le_trans (Nat.le_trans (Nat.le_trans (Nat.le_trans (Nat.le_trans (Nat.le_trans (Nat.le_refl _) E175.1) Ku186.1) E193.1) E194.1) Ku207.1) gs219)
        have hZ219 : Z.Warmed39 (s.setVm T219.vm).vm := State.Warmed39.trans (t := (s.setVm T116.vm)) hZ116 sn219.1
        have hown219 : (s.setVm T219.vm).vm.findClass "com/example/stemline/stemline/graph/EdgeSourceColumnPinLaw" = some m.cls := by rw [show (s.setVm T219.vm).vm = T219.vm from rfl, sn219.1.alike.findClass]; exact hown116
        obtain ⟨rfl, u221, Ku222, u223, u224, u225, u226, u227⟩ := hQ219
        have Ou222 : Old Z n0 T219.heap := Ou207.keep Ku222 (allS g_b193 all0)
        have N219 := Fr.app N196 u221
        obtain ⟨cq228, kq228, q228a, q228b, q228c⟩ := isOf hZ219 rfl u223
        obtain ⟨_, _, ⟨T228, L228, k228, n228⟩, -, X228, ⟨Lc228, hQ228, l228, y228, z228⟩, st228⟩ := X219.virtualBack hx (y := M_13) (z := M_13) hown219 (mvT hZ219 (hw _ (gw 105 rfl))) (mvT hZ219 (hw _ (gw 106 rfl))) (notFace_of_selects (args := #[]) (mvT hZ219 (hw _ (gw 108 rfl)))) (mvT hZ219 (hw _ (gw 108 rfl))) (mvT hZ219 (hw _ (gw 107 rfl))) (by decide) (backOf (W := 0) (rm16_20 l Z a0 hw [] b193 T219.heap n0  Ou222 u226) hZ219 (hw _ (gw 109 rfl)) (hw _ (gw 89 rfl)) (by decide) (by decide)) q228a q228c (g := (mkF m 217 #[.val (.int p1), .val (.int p2), .val (.int p3), .val (.int p4), .val (.int p5), .val (.int p6), .val (.ref b7), .val (.ref b17), .val (.ref b22), .val (.ref b72), .val (.int (0 : Int32)), .val (.ref a127), .val (.int (0 : Int32)), .val (.ref b175), .val .null, .val (.ref b193), .unset] [(.ref b193)])) rfl (by rw [hml]; rfl) (Steps.refl _) (argsL := []) (rest := []) (lenOf pd_13 rfl) rfl (by show 2 * 0 + _ ≤ _; exact Nat.le_of_eq rfl) (hb hby at_217) (fun _ _ => ⟨rfl, rfl, (by decide : 29 + 0 ≤ _), (by decide : 179 + 0 ≤ _)⟩)
        dsimp only [Pt.U, Pt.locs, Pt.cells, Pt.slots] at X228 l228 y228 z228 st228 hQ228
        subst l228 y228 z228
        obtain ⟨rfl, u230, u231⟩ := hQ228
        have N228 := Fr.app N219 u230
        obtain ⟨fs, hr, hrun, hended, hEnd⟩ := X228.leaveW (s := s) (vm₁ := T219.vm) hS219 (by rw [u231]; exact (Nat.le_refl _)) (v := some (.int (1 : Int32))) (fun h => by rw [Bd.returns] at h; cases h)
        refine ⟨_, _, pre213 _ ?_, hrun, hended, _, _, rfl, ?_, hEnd.1, hEnd.2.1, hEnd.2.2.1, hEnd.2.2.2.mono (by decide) (by decide)⟩
        · show Steps p.tables e below (T196.setTop (mkF m 208 #[.val (.int p1), .val (.int p2), .val (.int p3), .val (.int p4), .val (.int p5), .val (.int p6), .val (.ref b7), .val (.ref b17), .val (.ref b22), .val (.ref b72), .val (.int (0 : Int32)), .val (.ref a127), .val (.int (0 : Int32)), .val (.ref b175), .val .null, .unset, .unset] [(.ref b194), (.ref b72), .null, (.ref b193), (.ref b193)])) _
          refine XS.iload X196.here hx rfl (hb hby at_208) rfl ?_
          show Steps p.tables e below (T196.setTop (mkF m 210 #[.val (.int p1), .val (.int p2), .val (.int p3), .val (.int p4), .val (.int p5), .val (.int p6), .val (.ref b7), .val (.ref b17), .val (.ref b22), .val (.ref b72), .val (.int (0 : Int32)), .val (.ref a127), .val (.int (0 : Int32)), .val (.ref b175), .val .null, .unset, .unset] [(.int p5), (.ref b194), (.ref b72), .null, (.ref b193), (.ref b193)])) _
          refine st219.trans ?_
          show Steps p.tables e below (T219.setTop (mkF m 213 #[.val (.int p1), .val (.int p2), .val (.int p3), .val (.int p4), .val (.int p5), .val (.int p6), .val (.ref b7), .val (.ref b17), .val (.ref b22), .val (.ref b72), .val (.int (0 : Int32)), .val (.ref a127), .val (.int (0 : Int32)), .val (.ref b175), .val .null, .unset, .unset] [(.ref b193)])) _
          refine XS.astore X219.here hx rfl (hb hby at_213) rfl rfl (l' := #[.val (.int p1), .val (.int p2), .val (.int p3), .val (.int p4), .val (.int p5), .val (.int p6), .val (.ref b7), .val (.ref b17), .val (.ref b22), .val (.ref b72), .val (.int (0 : Int32)), .val (.ref a127), .val (.int (0 : Int32)), .val (.ref b175), .val .null, .val (.ref b193), .unset]) rfl ?_
          show Steps p.tables e below (T219.setTop (mkF m 215 #[.val (.int p1), .val (.int p2), .val (.int p3), .val (.int p4), .val (.int p5), .val (.int p6), .val (.ref b7), .val (.ref b17), .val (.ref b22), .val (.ref b72), .val (.int (0 : Int32)), .val (.ref a127), .val (.int (0 : Int32)), .val (.ref b175), .val .null, .val (.ref b193), .unset] [])) _
          refine XS.aload X219.here hx rfl (hb hby at_215) rfl rfl ?_
          show Steps p.tables e below (T219.setTop (mkF m 217 #[.val (.int p1), .val (.int p2), .val (.int p3), .val (.int p4), .val (.int p5), .val (.int p6), .val (.ref b7), .val (.ref b17), .val (.ref b22), .val (.ref b72), .val (.int (0 : Int32)), .val (.ref a127), .val (.int (0 : Int32)), .val (.ref b175), .val .null, .val (.ref b193), .unset] [(.ref b193)])) _
          refine st228.trans ?_
          show Steps p.tables e below (T228.setTop (mkF m 220 #[.val (.int p1), .val (.int p2), .val (.int p3), .val (.int p4), .val (.int p5), .val (.int p6), .val (.ref b7), .val (.ref b17), .val (.ref b22), .val (.ref b72), .val (.int (0 : Int32)), .val (.ref a127), .val (.int (0 : Int32)), .val (.ref b175), .val .null, .val (.ref b193), .unset] [.null])) _
          refine XS.astore X228.here hx rfl (hb hby at_220) rfl rfl (l' := #[.val (.int p1), .val (.int p2), .val (.int p3), .val (.int p4), .val (.int p5), .val (.int p6), .val (.ref b7), .val (.ref b17), .val (.ref b22), .val (.ref b72), .val (.int (0 : Int32)), .val (.ref a127), .val (.int (0 : Int32)), .val (.ref b175), .val .null, .val (.ref b193), .val .null]) rfl ?_
          show Steps p.tables e below (T228.setTop (mkF m 222 #[.val (.int p1), .val (.int p2), .val (.int p3), .val (.int p4), .val (.int p5), .val (.int p6), .val (.ref b7), .val (.ref b17), .val (.ref b22), .val (.ref b72), .val (.int (0 : Int32)), .val (.ref a127), .val (.int (0 : Int32)), .val (.ref b175), .val .null, .val (.ref b193), .val .null] [])) _
          refine XS.iload X228.here hx rfl (hb hby at_222) rfl ?_
          show Steps p.tables e below (T228.setTop (mkF m 224 #[.val (.int p1), .val (.int p2), .val (.int p3), .val (.int p4), .val (.int p5), .val (.int p6), .val (.ref b7), .val (.ref b17), .val (.ref b22), .val (.ref b72), .val (.int (0 : Int32)), .val (.ref a127), .val (.int (0 : Int32)), .val (.ref b175), .val .null, .val (.ref b193), .val .null] [(.int (0 : Int32))])) _
          refine XS.ifNo X228.here hx rfl (hb hby at_224) rfl ((if0 _ _).trans (teq (by decide +kernel : (0 : Int32) = (0 : Int32))).2) ?_
          show Steps p.tables e below (T228.setTop (mkF m 227 #[.val (.int p1), .val (.int p2), .val (.int p3), .val (.int p4), .val (.int p5), .val (.int p6), .val (.ref b7), .val (.ref b17), .val (.ref b22), .val (.ref b72), .val (.int (0 : Int32)), .val (.ref a127), .val (.int (0 : Int32)), .val (.ref b175), .val .null, .val (.ref b193), .val .null] [])) _
          refine XS.aload X228.here hx rfl (hb hby at_227) rfl rfl ?_
          show Steps p.tables e below (T228.setTop (mkF m 229 #[.val (.int p1), .val (.int p2), .val (.int p3), .val (.int p4), .val (.int p5), .val (.int p6), .val (.ref b7), .val (.ref b17), .val (.ref b22), .val (.ref b72), .val (.int (0 : Int32)), .val (.ref a127), .val (.int (0 : Int32)), .val (.ref b175), .val .null, .val (.ref b193), .val .null] [.null])) _
          refine XS.ifnonnullNo X228.here hx rfl (hb hby at_229) rfl ?_
          show Steps p.tables e below (T228.setTop (mkF m 232 #[.val (.int p1), .val (.int p2), .val (.int p3), .val (.int p4), .val (.int p5), .val (.int p6), .val (.ref b7), .val (.ref b17), .val (.ref b22), .val (.ref b72), .val (.int (0 : Int32)), .val (.ref a127), .val (.int (0 : Int32)), .val (.ref b175), .val .null, .val (.ref b193), .val .null] [])) _
          refine XS.iconst X228.here hx rfl (hb hby at_232) ?_
          show Steps p.tables e below (T228.setTop (mkF m 233 #[.val (.int p1), .val (.int p2), .val (.int p3), .val (.int p4), .val (.int p5), .val (.int p6), .val (.ref b7), .val (.ref b17), .val (.ref b22), .val (.ref b72), .val (.int (0 : Int32)), .val (.ref a127), .val (.int (0 : Int32)), .val (.ref b175), .val .null, .val (.ref b193), .val .null] [(.int (1 : Int32))])) _
          refine XS.goto X228.here hx rfl (pc0 := 233) (pc' := 237) rfl (hb hby at_233) (by decide) (by decide) ?_
          show Steps p.tables e below (T228.setTop (mkF m 237 #[.val (.int p1), .val (.int p2), .val (.int p3), .val (.int p4), .val (.int p5), .val (.int p6), .val (.ref b7), .val (.ref b17), .val (.ref b22), .val (.ref b72), .val (.int (0 : Int32)), .val (.ref a127), .val (.int (0 : Int32)), .val (.ref b175), .val .null, .val (.ref b193), .val .null] [(.int (1 : Int32))])) _
          exact retN X228 hx (t := .boolean) Bd.returns (by simp) (hb hby at_237) hr
        · show Q0 Z _ _ _ _ _ _ _ _ _ _ h0 n0 _ T228.heap _
          rw [u231]
          exact ⟨rfl, N228⟩
    · skip
      obtain ⟨i232, hi232⟩ : ∃ z, z = (p6 &&& (8 : Int32)) := ⟨_, rfl⟩
      have pre233 : ∀ t, Steps p.tables e below (T129.setTop (mkF m 149 #[.val (.int p1), .val (.int p2), .val (.int p3), .val (.int p4), .val (.int p5), .val (.int p6), .val (.ref b7), .val (.ref b17), .val (.ref b22), .val (.ref b72), .val (.int (0 : Int32)), .val (.ref a127), .val (.int (1 : Int32)), .unset, .unset, .unset, .unset] [(.int i232)])) t → Steps p.tables e below (s₁.setTop (entryFrame m #[(.int p1), (.int p2), (.int p3), (.int p4), (.int p5), (.int p6)] maxLocals)) t := by
        intro t kt
        refine pre131 t ?_
        show Steps p.tables e below (T129.setTop (mkF m 134 #[.val (.int p1), .val (.int p2), .val (.int p3), .val (.int p4), .val (.int p5), .val (.int p6), .val (.ref b7), .val (.ref b17), .val (.ref b22), .val (.ref b72), .val (.int (0 : Int32)), .val (.ref a127), .unset, .unset, .unset, .unset, .unset] [(.int i130)])) _
        refine XS.ifNo X129.here hx rfl (hb hby at_134) rfl ((if0 _ _).trans (feq hc132).1) ?_
        show Steps p.tables e below (T129.setTop (mkF m 137 #[.val (.int p1), .val (.int p2), .val (.int p3), .val (.int p4), .val (.int p5), .val (.int p6), .val (.ref b7), .val (.ref b17), .val (.ref b22), .val (.ref b72), .val (.int (0 : Int32)), .val (.ref a127), .unset, .unset, .unset, .unset, .unset] [])) _
        refine XS.iconst X129.here hx rfl (hb hby at_137) ?_
        show Steps p.tables e below (T129.setTop (mkF m 138 #[.val (.int p1), .val (.int p2), .val (.int p3), .val (.int p4), .val (.int p5), .val (.int p6), .val (.ref b7), .val (.ref b17), .val (.ref b22), .val (.ref b72), .val (.int (0 : Int32)), .val (.ref a127), .unset, .unset, .unset, .unset, .unset] [(.int (1 : Int32))])) _
        refine XS.goto X129.here hx rfl (pc0 := 138) (pc' := 142) rfl (hb hby at_138) (by decide) (by decide) ?_
        show Steps p.tables e below (T129.setTop (mkF m 142 #[.val (.int p1), .val (.int p2), .val (.int p3), .val (.int p4), .val (.int p5), .val (.int p6), .val (.ref b7), .val (.ref b17), .val (.ref b22), .val (.ref b72), .val (.int (0 : Int32)), .val (.ref a127), .unset, .unset, .unset, .unset, .unset] [(.int (1 : Int32))])) _
        refine XS.istore X129.here hx rfl (hb hby at_142) rfl (l' := #[.val (.int p1), .val (.int p2), .val (.int p3), .val (.int p4), .val (.int p5), .val (.int p6), .val (.ref b7), .val (.ref b17), .val (.ref b22), .val (.ref b72), .val (.int (0 : Int32)), .val (.ref a127), .val (.int (1 : Int32)), .unset, .unset, .unset, .unset]) rfl ?_
        show Steps p.tables e below (T129.setTop (mkF m 144 #[.val (.int p1), .val (.int p2), .val (.int p3), .val (.int p4), .val (.int p5), .val (.int p6), .val (.ref b7), .val (.ref b17), .val (.ref b22), .val (.ref b72), .val (.int (0 : Int32)), .val (.ref a127), .val (.int (1 : Int32)), .unset, .unset, .unset, .unset] [])) _
        refine XS.iload X129.here hx rfl (hb hby at_144) rfl ?_
        show Steps p.tables e below (T129.setTop (mkF m 146 #[.val (.int p1), .val (.int p2), .val (.int p3), .val (.int p4), .val (.int p5), .val (.int p6), .val (.ref b7), .val (.ref b17), .val (.ref b22), .val (.ref b72), .val (.int (0 : Int32)), .val (.ref a127), .val (.int (1 : Int32)), .unset, .unset, .unset, .unset] [(.int p6)])) _
        refine XS.bipush X129.here hx rfl (hb hby at_146) ?_
        show Steps p.tables e below (T129.setTop (mkF m 148 #[.val (.int p1), .val (.int p2), .val (.int p3), .val (.int p4), .val (.int p5), .val (.int p6), .val (.ref b7), .val (.ref b17), .val (.ref b22), .val (.ref b72), .val (.int (0 : Int32)), .val (.ref a127), .val (.int (1 : Int32)), .unset, .unset, .unset, .unset] [(.int (8 : Int32)), (.int p6)])) _
        refine XS.iand X129.here hx rfl (hb hby at_148) rfl ?_
        show Steps p.tables e below (T129.setTop (mkF m 149 #[.val (.int p1), .val (.int p2), .val (.int p3), .val (.int p4), .val (.int p5), .val (.int p6), .val (.ref b7), .val (.ref b17), .val (.ref b22), .val (.ref b72), .val (.int (0 : Int32)), .val (.ref a127), .val (.int (1 : Int32)), .unset, .unset, .unset, .unset] [(.int (p6 &&& (8 : Int32)))])) _
        rw [← hi232]
        exact kt
      by_cases hc234 : i232 = (0 : Int32)
      · skip
        subst hc234
        obtain ⟨T235, h235, X235, e235, E235, A235, D235, -, st235⟩ := newO X129 hx hZ116 hown116 (hw _ (gw 71 rfl)) (hw _ (gw 72 rfl)) (hw _ (gw 73 rfl)) e129 (g := (mkF m 172 #[.val (.int p1), .val (.int p2), .val (.int p3), .val (.int p4), .val (.int p5), .val (.int p6), .val (.ref b7), .val (.ref b17), .val (.ref b22), .val (.ref b72), .val (.int (0 : Int32)), .val (.ref a127), .val (.int (1 : Int32)), .val .null, .unset, .unset, .unset] [])) rfl (hb hby at_172) (by decide) (by decide)
        obtain ⟨b235, g235⟩ : ∃ z, z = T116.heap.size := ⟨_, rfl⟩
        rw [← g235] at A235 D235 st235
        have O235 : Old Z n0 h235 := Ou119.ext E235
        have bd_b235 : T116.heap.size ≤ b235 := Nat.le_of_eq g235.symm
        have g_b235 : n0 ≤ b235 := Nat.le_trans (own_z Ou119) bd_b235
        have sz_b235 : h0.size ≤ b235 := Nat.le_trans (Nat.le_trans (Nat.le_trans (Nat.le_trans (Nat.le_trans (Nat.le_trans (Nat.le_trans (Nat.le_trans (Nat.le_trans (Nat.le_trans (Nat.le_trans (Nat.le_trans (Nat.le_trans (Nat.le_trans (Nat.le_trans E7.1 (Keep.of_wr W11).1) (Keep.of_wr W16).1) E17.1) (Keep.of_wr W21).1) E22.1) E23.1) Ku39.1) E45.1) Ku56.1) Ku68.1) E72.1) Ku87.1) Ku107.1) Ku119.1) bd_b235
        have lt_b235 : b235 < h235.size := A235.lt
        have D235_82 : Fld Z h235 b235 "com/example/stemline/stemline/model/ColumnSource" "column" "Lcom/example/stemline/stemline/model/TableColumn;" .null := D235 (Or.inr (hw _ (gw 82 rfl))) (ty := (.object "com/example/stemline/stemline/model/TableColumn")) (by decide)
        have D235_84 : Fld Z h235 b235 "com/example/stemline/stemline/model/ColumnSource" "kind" "Lcom/example/stemline/stemline/model/SourceKind;" .null := D235 (Or.inr (hw _ (gw 84 rfl))) (ty := (.object "com/example/stemline/stemline/model/SourceKind")) (by decide)
        have D235_86 : Fld Z h235 b235 "com/example/stemline/stemline/model/ColumnSource" "expression" "Ljava/lang/String;" .null := D235 (Or.inr (hw _ (gw 86 rfl))) (ty := (.object "java/lang/String")) (by decide)
        obtain ⟨_, _, ⟨T236, L236, k236, n236⟩, -, X236, sn236, gr236, ⟨Lc236, hQ236, l236, y236, z236⟩, st236⟩ := X235.specialBackS hx (y := M_14) rfl hown116 (mvT hZ116 (hw _ (gw 74 rfl))) (mvT hZ116 (hw _ (gw 75 rfl))) (mvT hZ116 (hw _ (gw 76 rfl))) (by decide) (backOfS (W := 1) (rm14_21 l Z a0 hw [] b235 b22 a127 h235 n0  O235 A235 D235_82 D235_86 D235_84 g_b235) hZ116 (hw _ (gw 76 rfl)) (hw _ (gw 73 rfl)) (by decide) (by decide)) (g := (mkF m 182 #[.val (.int p1), .val (.int p2), .val (.int p3), .val (.int p4), .val (.int p5), .val (.int p6), .val (.ref b7), .val (.ref b17), .val (.ref b22), .val (.ref b72), .val (.int (0 : Int32)), .val (.ref a127), .val (.int (1 : Int32)), .val .null, .unset, .unset, .unset] [.null, (.ref a127), (.ref b22), (.ref b235), (.ref b235)])) rfl (by rw [hml]; rfl) (Steps.refl _) (a := b235) (argsL := [(.ref b22), (.ref a127), .null]) (rest := [(.ref b235)]) (lenOf pd_14 rfl) rfl (by show 2 * 0 + _ ≤ _; exact Nat.le_of_eq rfl) (hb hby at_182) (fun _ _ => ⟨rfl, e235, (by decide : 21 + 4 ≤ _), (by decide : 119 + 48 ≤ _)⟩)
        dsimp only [Pt.U, Pt.locs, Pt.cells, Pt.slots] at X236 l236 y236 z236 st236 hQ236 sn236 gr236
        subst l236 y236 z236
        have gs236 : h235.size ≤ T236.heap.size := by have q := gr236; rw [e235] at q; exact q
        have hS236 : s.Since T236.vm T236.heap.size := hS116.trans sn236 (Nat.le_trans (Nat.le_trans (Nat.le_refl _) E235.1) gs236)
        have hZ236 : Z.Warmed39 (s.setVm T236.vm).vm := State.Warmed39.trans (t := (s.setVm T116.vm)) hZ116 sn236.1
        have hown236 : (s.setVm T236.vm).vm.findClass "com/example/stemline/stemline/graph/EdgeSourceColumnPinLaw" = some m.cls := by rw [show (s.setVm T236.vm).vm = T236.vm from rfl, sn236.1.alike.findClass]; exact hown116
        obtain ⟨rfl, u238, Ku239, u240, u241, u242, u243⟩ := hQ236
        have Ou239 : Old Z n0 T236.heap := O235.keep Ku239 (allS g_b235 all0)
        have N236 := Fr.app N116 u238
        obtain ⟨T244, h244, X244, e244, E244, A244, D244, -, st244⟩ := newO X236 hx hZ236 hown236 (hw _ (gw 87 rfl)) (hw _ (gw 88 rfl)) (hw _ (gw 89 rfl)) rfl (g := (mkF m 191 #[.val (.int p1), .val (.int p2), .val (.int p3), .val (.int p4), .val (.int p5), .val (.int p6), .val (.ref b7), .val (.ref b17), .val (.ref b22), .val (.ref b72), .val (.int (0 : Int32)), .val (.ref a127), .val (.int (1 : Int32)), .val .null, .val (.ref b235), .unset, .unset] [])) rfl (hb hby at_191) (by decide) (by decide)
        obtain ⟨b244, g244⟩ : ∃ z, z = T236.heap.size := ⟨_, rfl⟩
        rw [← g244] at A244 D244 st244
        have O244 : Old Z n0 h244 := Ou239.ext E244
        have bd_b244 : T236.heap.size ≤ b244 := Nat.le_of_eq g244.symm
        have g_b244 : n0 ≤ b244 := Nat.le_trans (own_z Ou239) bd_b244
        have sz_b244 : h0.size ≤ b244 := Nat.le_trans (Nat.le_trans (Nat.le_trans (Nat.le_trans (Nat.le_trans (Nat.le_trans (Nat.le_trans (Nat.le_trans (Nat.le_trans (Nat.le_trans (Nat.le_trans (Nat.le_trans (Nat.le_trans (Nat.le_trans (Nat.le_trans (Nat.le_trans (Nat.le_trans E7.1 (Keep.of_wr W11).1) (Keep.of_wr W16).1) E17.1) (Keep.of_wr W21).1) E22.1) E23.1) Ku39.1) E45.1) Ku56.1) Ku68.1) E72.1) Ku87.1) Ku107.1) Ku119.1) E235.1) Ku239.1) bd_b244
        have lt_b244 : b244 < h244.size := A244.lt
        have D244_98 : Fld Z h244 b244 "com/example/stemline/stemline/graph/Edge" "source" "Lcom/example/stemline/stemline/model/ColumnSource;" .null := D244 (Or.inr (hw _ (gw 98 rfl))) (ty := (.object "com/example/stemline/stemline/model/ColumnSource")) (by decide)
        have D244_100 : Fld Z h244 b244 "com/example/stemline/stemline/graph/Edge" "target" "Lcom/example/stemline/stemline/model/TableColumn;" .null := D244 (Or.inr (hw _ (gw 100 rfl))) (ty := (.object "com/example/stemline/stemline/model/TableColumn")) (by decide)
        have D244_102 : Fld Z h244 b244 "com/example/stemline/stemline/graph/Edge" "file" "Ljava/lang/String;" .null := D244 (Or.inr (hw _ (gw 102 rfl))) (ty := (.object "java/lang/String")) (by decide)
        have D244_104 : Fld Z h244 b244 "com/example/stemline/stemline/graph/Edge" "line" "I" (.int (0 : Int32)) := D244 (Or.inr (hw _ (gw 104 rfl))) (ty := .int) (by decide)
        obtain ⟨T245, h245, X245, e245, E245, A245, D245, -, st245⟩ := newO X244 hx hZ236 hown236 (hw _ (gw 4 rfl)) (hw _ (gw 5 rfl)) (hw _ (gw 6 rfl)) e244 (g := (mkF m 199 #[.val (.int p1), .val (.int p2), .val (.int p3), .val (.int p4), .val (.int p5), .val (.int p6), .val (.ref b7), .val (.ref b17), .val (.ref b22), .val (.ref b72), .val (.int (0 : Int32)), .val (.ref a127), .val (.int (1 : Int32)), .val .null, .val (.ref b235), .unset, .unset] [(.ref b72), (.ref b235), (.ref b244), (.ref b244)])) rfl (hb hby at_199) (by decide) (by decide)
        obtain ⟨b245, g245⟩ : ∃ z, z = h244.size := ⟨_, rfl⟩
        rw [← g245] at A245 D245 st245
        have O245 : Old Z n0 h245 := O244.ext E245
        have bd_b245 : h244.size ≤ b245 := Nat.le_of_eq g245.symm
        have g_b245 : n0 ≤ b245 := Nat.le_trans (own_z O244) bd_b245
        have sz_b245 : h0.size ≤ b245 := Nat.le_trans (Nat.le_trans (Nat.le_trans (Nat.le_trans (Nat.le_trans (Nat.le_trans (Nat.le_trans (Nat.le_trans (Nat.le_trans (Nat.le_trans (Nat.le_trans (Nat.le_trans (Nat.le_trans (Nat.le_trans (Nat.le_trans (Nat.le_trans (Nat.le_trans (Nat.le_trans E7.1 (Keep.of_wr W11).1) (Keep.of_wr W16).1) E17.1) (Keep.of_wr W21).1) E22.1) E23.1) Ku39.1) E45.1) Ku56.1) Ku68.1) E72.1) Ku87.1) Ku107.1) Ku119.1) E235.1) Ku239.1) E244.1) bd_b245
        have lt_b245 : b245 < h245.size := A245.lt
        have D245_30 : Fld Z h245 b245 "java/lang/String" "coder" "B" (.int (0 : Int32)) := D245 (Or.inr (hw _ (gw 30 rfl))) (ty := .byte) (by decide)
        have D245_32 : Fld Z h245 b245 "java/lang/String" "value" "[B" .null := D245 (Or.inr (hw _ (gw 32 rfl))) (ty := (.array .byte)) (by decide)
        have f246 : Arv Z h245 b7 k7 .char (2 : Int32) [(.int i8), (.int i13)] (.int (0 : Int32)) := ((((((((((((f27.keep Ku39 (ninS (Nat.ne_of_lt (Nat.lt_of_lt_of_le (Nat.lt_of_lt_of_le (Nat.lt_of_lt_of_le (Nat.lt_of_lt_of_le (Nat.lt_of_lt_of_le (Nat.lt_of_lt_of_le lt_b7 (Keep.of_wr W11).1) (Keep.of_wr W16).1) E17.1) (Keep.of_wr W21).1) E22.1) bd_b23)) nin0)).ext E45).keep Ku56 (ninS (Nat.ne_of_lt (Nat.lt_of_lt_of_le (Nat.lt_of_lt_of_le (Nat.lt_of_lt_of_le (Nat.lt_of_lt_of_le (Nat.lt_of_lt_of_le (Nat.lt_of_lt_of_le (Nat.lt_of_lt_of_le (Nat.lt_of_lt_of_le lt_b7 (Keep.of_wr W11).1) (Keep.of_wr W16).1) E17.1) (Keep.of_wr W21).1) E22.1) E23.1) Ku39.1) bd_b45)) nin0)).keep Ku68 (ninS (Nat.ne_of_lt (Nat.lt_of_lt_of_le (Nat.lt_of_lt_of_le (Nat.lt_of_lt_of_le (Nat.lt_of_lt_of_le (Nat.lt_of_lt_of_le lt_b7 (Keep.of_wr W11).1) (Keep.of_wr W16).1) E17.1) (Keep.of_wr W21).1) bd_b22)) nin0)).ext E72).keep Ku87 nin0).keep Ku107 nin0).keep Ku119 (ninS (Nat.ne_of_lt (Nat.lt_of_lt_of_le (Nat.lt_of_lt_of_le (Nat.lt_of_lt_of_le (Nat.lt_of_lt_of_le (Nat.lt_of_lt_of_le (Nat.lt_of_lt_of_le (Nat.lt_of_lt_of_le (Nat.lt_of_lt_of_le (Nat.lt_of_lt_of_le (Nat.lt_of_lt_of_le (Nat.lt_of_lt_of_le lt_b7 (Keep.of_wr W11).1) (Keep.of_wr W16).1) E17.1) (Keep.of_wr W21).1) E22.1) E23.1) Ku39.1) E45.1) Ku56.1) Ku68.1) bd_b72)) nin0)).ext E235).keep Ku239 (ninS (Nat.ne_of_lt (Nat.lt_of_lt_of_le (Nat.lt_of_lt_of_le (Nat.lt_of_lt_of_le (Nat.lt_of_lt_of_le (Nat.lt_of_lt_of_le (Nat.lt_of_lt_of_le (Nat.lt_of_lt_of_le (Nat.lt_of_lt_of_le (Nat.lt_of_lt_of_le (Nat.lt_of_lt_of_le (Nat.lt_of_lt_of_le (Nat.lt_of_lt_of_le (Nat.lt_of_lt_of_le (Nat.lt_of_lt_of_le (Nat.lt_of_lt_of_le lt_b7 (Keep.of_wr W11).1) (Keep.of_wr W16).1) E17.1) (Keep.of_wr W21).1) E22.1) E23.1) Ku39.1) E45.1) Ku56.1) Ku68.1) E72.1) Ku87.1) Ku107.1) Ku119.1) bd_b235)) nin0)).ext E244).ext E245)
        obtain ⟨_, _, ⟨T247, L247, k247, n247⟩, -, X247, ⟨Lc247, hQ247, l247, y247, z247⟩, st247⟩ := X245.specialBack hx (y := M_4) rfl hown236 (mvT hZ236 (hw _ (gw 7 rfl))) (mvT hZ236 (hw _ (gw 8 rfl))) (mvT hZ236 (hw _ (gw 9 rfl))) (by decide) (backOf (W := 5) (rm1_2 l Z a0 hw [] b245 b7 i8 i13 k7 p24 h245 n0  O245 f246 S_25 hk26 (own_lt255 hi8) (own_lt255 hi13) A245 D245_30 D245_32 (Nat.lt_of_lt_of_le (Nat.lt_of_lt_of_le (Nat.lt_of_lt_of_le (Nat.lt_of_lt_of_le (Nat.lt_of_lt_of_le (Nat.lt_of_lt_of_le (Nat.lt_of_lt_of_le (Nat.lt_of_lt_of_le (Nat.lt_of_lt_of_le (Nat.lt_of_lt_of_le (Nat.lt_of_lt_of_le (Nat.lt_of_lt_of_le (Nat.lt_of_lt_of_le (Nat.lt_of_lt_of_le (Nat.lt_of_lt_of_le (Nat.lt_of_lt_of_le (Nat.lt_of_lt_of_le (Nat.lt_of_lt_of_le lt_b7 (Keep.of_wr W11).1) (Keep.of_wr W16).1) E17.1) (Keep.of_wr W21).1) E22.1) E23.1) Ku39.1) E45.1) Ku56.1) Ku68.1) E72.1) Ku87.1) Ku107.1) Ku119.1) E235.1) Ku239.1) E244.1) E245.1) g_b245 lt_b245) hZ236 (hw _ (gw 9 rfl)) (hw _ (gw 6 rfl)) (by decide) (by decide)) (g := (mkF m 205 #[.val (.int p1), .val (.int p2), .val (.int p3), .val (.int p4), .val (.int p5), .val (.int p6), .val (.ref b7), .val (.ref b17), .val (.ref b22), .val (.ref b72), .val (.int (0 : Int32)), .val (.ref a127), .val (.int (1 : Int32)), .val .null, .val (.ref b235), .unset, .unset] [(.ref b7), (.ref b245), (.ref b245), (.ref b72), (.ref b235), (.ref b244), (.ref b244)])) rfl (by rw [hml]; rfl) (Steps.refl _) (a := b245) (argsL := [(.ref b7)]) (rest := [(.ref b245), (.ref b72), (.ref b235), (.ref b244), (.ref b244)]) (lenOf pd_4 rfl) rfl (by show 2 * 0 + _ ≤ _; exact Nat.le_of_eq rfl) (hb hby at_205) (fun _ _ => ⟨rfl, e245, (by decide : 27 + 1 ≤ _), (by decide : 175 + 2 ≤ _)⟩)
        dsimp only [Pt.U, Pt.locs, Pt.cells, Pt.slots] at X247 l247 y247 z247 st247 hQ247
        subst l247 y247 z247
        obtain ⟨i248, i249, b250, k251, u252, u253, rfl, u255, u256, u257, Ku258, u259, u260, u261, u262, u263⟩ := hQ247
        have Ou258 : Old Z n0 T247.heap := O245.keep Ku258 (allS g_b245 all0)
        have g_b250 : n0 ≤ b250 := Nat.le_trans (own_z O245) u256
        have sz_b250 : h0.size ≤ b250 := Nat.le_trans (Nat.le_trans (Nat.le_trans (Nat.le_trans (Nat.le_trans (Nat.le_trans (Nat.le_trans (Nat.le_trans (Nat.le_trans (Nat.le_trans (Nat.le_trans (Nat.le_trans (Nat.le_trans (Nat.le_trans (Nat.le_trans (Nat.le_trans (Nat.le_trans (Nat.le_trans (Nat.le_trans E7.1 (Keep.of_wr W11).1) (Keep.of_wr W16).1) E17.1) (Keep.of_wr W21).1) E22.1) E23.1) Ku39.1) E45.1) Ku56.1) Ku68.1) E72.1) Ku87.1) Ku107.1) Ku119.1) E235.1) Ku239.1) E244.1) E245.1) u256
        have N247 := Fr.app N236 u255
        have pre264 : ∀ t, Steps p.tables e below (T247.setTop (mkF m 208 #[.val (.int p1), .val (.int p2), .val (.int p3), .val (.int p4), .val (.int p5), .val (.int p6), .val (.ref b7), .val (.ref b17), .val (.ref b22), .val (.ref b72), .val (.int (0 : Int32)), .val (.ref a127), .val (.int (1 : Int32)), .val .null, .val (.ref b235), .unset, .unset] [(.ref b245), (.ref b72), (.ref b235), (.ref b244), (.ref b244)])) t → Steps p.tables e below (s₁.setTop (entryFrame m #[(.int p1), (.int p2), (.int p3), (.int p4), (.int p5), (.int p6)] maxLocals)) t := by
          intro t kt
          refine pre233 t ?_
          show Steps p.tables e below (T129.setTop (mkF m 149 #[.val (.int p1), .val (.int p2), .val (.int p3), .val (.int p4), .val (.int p5), .val (.int p6), .val (.ref b7), .val (.ref b17), .val (.ref b22), .val (.ref b72), .val (.int (0 : Int32)), .val (.ref a127), .val (.int (1 : Int32)), .unset, .unset, .unset, .unset] [(.int (0 : Int32))])) _
          refine XS.ifYes X129.here hx rfl (pc0 := 149) (pc' := 164) rfl (hb hby at_149) rfl ((if0 _ _).trans (teq (by decide +kernel : (0 : Int32) = (0 : Int32))).1) (by decide) (by decide) ?_
          show Steps p.tables e below (T129.setTop (mkF m 164 #[.val (.int p1), .val (.int p2), .val (.int p3), .val (.int p4), .val (.int p5), .val (.int p6), .val (.ref b7), .val (.ref b17), .val (.ref b22), .val (.ref b72), .val (.int (0 : Int32)), .val (.ref a127), .val (.int (1 : Int32)), .unset, .unset, .unset, .unset] [])) _
          refine XS.aconstNull X129.here hx rfl (hb hby at_164) ?_
          show Steps p.tables e below (T129.setTop (mkF m 165 #[.val (.int p1), .val (.int p2), .val (.int p3), .val (.int p4), .val (.int p5), .val (.int p6), .val (.ref b7), .val (.ref b17), .val (.ref b22), .val (.ref b72), .val (.int (0 : Int32)), .val (.ref a127), .val (.int (1 : Int32)), .unset, .unset, .unset, .unset] [.null])) _
          refine XS.astore X129.here hx rfl (hb hby at_165) rfl rfl (l' := #[.val (.int p1), .val (.int p2), .val (.int p3), .val (.int p4), .val (.int p5), .val (.int p6), .val (.ref b7), .val (.ref b17), .val (.ref b22), .val (.ref b72), .val (.int (0 : Int32)), .val (.ref a127), .val (.int (1 : Int32)), .val .null, .unset, .unset, .unset]) rfl ?_
          show Steps p.tables e below (T129.setTop (mkF m 167 #[.val (.int p1), .val (.int p2), .val (.int p3), .val (.int p4), .val (.int p5), .val (.int p6), .val (.ref b7), .val (.ref b17), .val (.ref b22), .val (.ref b72), .val (.int (0 : Int32)), .val (.ref a127), .val (.int (1 : Int32)), .val .null, .unset, .unset, .unset] [])) _
          refine XS.iload X129.here hx rfl (hb hby at_167) rfl ?_
          show Steps p.tables e below (T129.setTop (mkF m 169 #[.val (.int p1), .val (.int p2), .val (.int p3), .val (.int p4), .val (.int p5), .val (.int p6), .val (.ref b7), .val (.ref b17), .val (.ref b22), .val (.ref b72), .val (.int (0 : Int32)), .val (.ref a127), .val (.int (1 : Int32)), .val .null, .unset, .unset, .unset] [(.int (1 : Int32))])) _
          refine XS.ifNo X129.here hx rfl (hb hby at_169) rfl ((if0 _ _).trans (feq (by decide +kernel : ¬ ((1 : Int32) = (0 : Int32)))).1) ?_
          show Steps p.tables e below (T129.setTop (mkF m 172 #[.val (.int p1), .val (.int p2), .val (.int p3), .val (.int p4), .val (.int p5), .val (.int p6), .val (.ref b7), .val (.ref b17), .val (.ref b22), .val (.ref b72), .val (.int (0 : Int32)), .val (.ref a127), .val (.int (1 : Int32)), .val .null, .unset, .unset, .unset] [])) _
          refine st235 _ ?_
          show Steps p.tables e below (T235.setTop (mkF m 175 #[.val (.int p1), .val (.int p2), .val (.int p3), .val (.int p4), .val (.int p5), .val (.int p6), .val (.ref b7), .val (.ref b17), .val (.ref b22), .val (.ref b72), .val (.int (0 : Int32)), .val (.ref a127), .val (.int (1 : Int32)), .val .null, .unset, .unset, .unset] [(.ref b235)])) _
          refine XS.dup X235.here hx rfl (hb hby at_175) rfl rfl ?_
          show Steps p.tables e below (T235.setTop (mkF m 176 #[.val (.int p1), .val (.int p2), .val (.int p3), .val (.int p4), .val (.int p5), .val (.int p6), .val (.ref b7), .val (.ref b17), .val (.ref b22), .val (.ref b72), .val (.int (0 : Int32)), .val (.ref a127), .val (.int (1 : Int32)), .val .null, .unset, .unset, .unset] [(.ref b235), (.ref b235)])) _
          refine XS.aload X235.here hx rfl (hb hby at_176) rfl rfl ?_
          show Steps p.tables e below (T235.setTop (mkF m 178 #[.val (.int p1), .val (.int p2), .val (.int p3), .val (.int p4), .val (.int p5), .val (.int p6), .val (.ref b7), .val (.ref b17), .val (.ref b22), .val (.ref b72), .val (.int (0 : Int32)), .val (.ref a127), .val (.int (1 : Int32)), .val .null, .unset, .unset, .unset] [(.ref b22), (.ref b235), (.ref b235)])) _
          refine XS.aload X235.here hx rfl (hb hby at_178) rfl rfl ?_
          show Steps p.tables e below (T235.setTop (mkF m 180 #[.val (.int p1), .val (.int p2), .val (.int p3), .val (.int p4), .val (.int p5), .val (.int p6), .val (.ref b7), .val (.ref b17), .val (.ref b22), .val (.ref b72), .val (.int (0 : Int32)), .val (.ref a127), .val (.int (1 : Int32)), .val .null, .unset, .unset, .unset] [(.ref a127), (.ref b22), (.ref b235), (.ref b235)])) _
          refine XS.aload X235.here hx rfl (hb hby at_180) rfl rfl ?_
          show Steps p.tables e below (T235.setTop (mkF m 182 #[.val (.int p1), .val (.int p2), .val (.int p3), .val (.int p4), .val (.int p5), .val (.int p6), .val (.ref b7), .val (.ref b17), .val (.ref b22), .val (.ref b72), .val (.int (0 : Int32)), .val (.ref a127), .val (.int (1 : Int32)), .val .null, .unset, .unset, .unset] [.null, (.ref a127), (.ref b22), (.ref b235), (.ref b235)])) _
          refine st236.trans ?_
          show Steps p.tables e below (T236.setTop (mkF m 185 #[.val (.int p1), .val (.int p2), .val (.int p3), .val (.int p4), .val (.int p5), .val (.int p6), .val (.ref b7), .val (.ref b17), .val (.ref b22), .val (.ref b72), .val (.int (0 : Int32)), .val (.ref a127), .val (.int (1 : Int32)), .val .null, .unset, .unset, .unset] [(.ref b235)])) _
          refine XS.goto X236.here hx rfl (pc0 := 185) (pc' := 189) rfl (hb hby at_185) (by decide) (by decide) ?_
          show Steps p.tables e below (T236.setTop (mkF m 189 #[.val (.int p1), .val (.int p2), .val (.int p3), .val (.int p4), .val (.int p5), .val (.int p6), .val (.ref b7), .val (.ref b17), .val (.ref b22), .val (.ref b72), .val (.int (0 : Int32)), .val (.ref a127), .val (.int (1 : Int32)), .val .null, .unset, .unset, .unset] [(.ref b235)])) _
          refine XS.astore X236.here hx rfl (hb hby at_189) rfl rfl (l' := #[.val (.int p1), .val (.int p2), .val (.int p3), .val (.int p4), .val (.int p5), .val (.int p6), .val (.ref b7), .val (.ref b17), .val (.ref b22), .val (.ref b72), .val (.int (0 : Int32)), .val (.ref a127), .val (.int (1 : Int32)), .val .null, .val (.ref b235), .unset, .unset]) rfl ?_
          show Steps p.tables e below (T236.setTop (mkF m 191 #[.val (.int p1), .val (.int p2), .val (.int p3), .val (.int p4), .val (.int p5), .val (.int p6), .val (.ref b7), .val (.ref b17), .val (.ref b22), .val (.ref b72), .val (.int (0 : Int32)), .val (.ref a127), .val (.int (1 : Int32)), .val .null, .val (.ref b235), .unset, .unset] [])) _
          refine st244 _ ?_
          show Steps p.tables e below (T244.setTop (mkF m 194 #[.val (.int p1), .val (.int p2), .val (.int p3), .val (.int p4), .val (.int p5), .val (.int p6), .val (.ref b7), .val (.ref b17), .val (.ref b22), .val (.ref b72), .val (.int (0 : Int32)), .val (.ref a127), .val (.int (1 : Int32)), .val .null, .val (.ref b235), .unset, .unset] [(.ref b244)])) _
          refine XS.dup X244.here hx rfl (hb hby at_194) rfl rfl ?_
          show Steps p.tables e below (T244.setTop (mkF m 195 #[.val (.int p1), .val (.int p2), .val (.int p3), .val (.int p4), .val (.int p5), .val (.int p6), .val (.ref b7), .val (.ref b17), .val (.ref b22), .val (.ref b72), .val (.int (0 : Int32)), .val (.ref a127), .val (.int (1 : Int32)), .val .null, .val (.ref b235), .unset, .unset] [(.ref b244), (.ref b244)])) _
          refine XS.aload X244.here hx rfl (hb hby at_195) rfl rfl ?_
          show Steps p.tables e below (T244.setTop (mkF m 197 #[.val (.int p1), .val (.int p2), .val (.int p3), .val (.int p4), .val (.int p5), .val (.int p6), .val (.ref b7), .val (.ref b17), .val (.ref b22), .val (.ref b72), .val (.int (0 : Int32)), .val (.ref a127), .val (.int (1 : Int32)), .val .null, .val (.ref b235), .unset, .unset] [(.ref b235), (.ref b244), (.ref b244)])) _
          refine XS.aload X244.here hx rfl (hb hby at_197) rfl rfl ?_
          show Steps p.tables e below (T244.setTop (mkF m 199 #[.val (.int p1), .val (.int p2), .val (.int p3), .val (.int p4), .val (.int p5), .val (.int p6), .val (.ref b7), .val (.ref b17), .val (.ref b22), .val (.ref b72), .val (.int (0 : Int32)), .val (.ref a127), .val (.int (1 : Int32)), .val .null, .val (.ref b235), .unset, .unset] [(.ref b72), (.ref b235), (.ref b244), (.ref b244)])) _
          refine st245 _ ?_
          show Steps p.tables e below (T245.setTop (mkF m 202 #[.val (.int p1), .val (.int p2), .val (.int p3), .val (.int p4), .val (.int p5), .val (.int p6), .val (.ref b7), .val (.ref b17), .val (.ref b22), .val (.ref b72), .val (.int (0 : Int32)), .val (.ref a127), .val (.int (1 : Int32)), .val .null, .val (.ref b235), .unset, .unset] [(.ref b245), (.ref b72), (.ref b235), (.ref b244), (.ref b244)])) _
          refine XS.dup X245.here hx rfl (hb hby at_202) rfl rfl ?_
          show Steps p.tables e below (T245.setTop (mkF m 203 #[.val (.int p1), .val (.int p2), .val (.int p3), .val (.int p4), .val (.int p5), .val (.int p6), .val (.ref b7), .val (.ref b17), .val (.ref b22), .val (.ref b72), .val (.int (0 : Int32)), .val (.ref a127), .val (.int (1 : Int32)), .val .null, .val (.ref b235), .unset, .unset] [(.ref b245), (.ref b245), (.ref b72), (.ref b235), (.ref b244), (.ref b244)])) _
          refine XS.aload X245.here hx rfl (hb hby at_203) rfl rfl ?_
          show Steps p.tables e below (T245.setTop (mkF m 205 #[.val (.int p1), .val (.int p2), .val (.int p3), .val (.int p4), .val (.int p5), .val (.int p6), .val (.ref b7), .val (.ref b17), .val (.ref b22), .val (.ref b72), .val (.int (0 : Int32)), .val (.ref a127), .val (.int (1 : Int32)), .val .null, .val (.ref b235), .unset, .unset] [(.ref b7), (.ref b245), (.ref b245), (.ref b72), (.ref b235), (.ref b244), (.ref b244)])) _
          refine st247.trans ?_
          exact kt
        obtain rfl : i30 = i249 := (u252.trans u33.symm).symm
        obtain rfl : i29 = i248 := (u253.trans u34.symm).symm
        have f265 : Exa Z T247.heap b244 "com/example/stemline/stemline/graph/Edge" := ((Exa.ext E245 A244).keep Ku258)
        have f266 : Fld Z T247.heap b244 "com/example/stemline/stemline/graph/Edge" "file" "Ljava/lang/String;" .null := ((Fld.ext E245 D244_102).keep Ku258 (ninS (Nat.ne_of_lt (Nat.lt_of_lt_of_le lt_b244 bd_b245)) nin0))
        have f267 : Fld Z T247.heap b244 "com/example/stemline/stemline/graph/Edge" "line" "I" (.int (0 : Int32)) := ((Fld.ext E245 D244_104).keep Ku258 (ninS (Nat.ne_of_lt (Nat.lt_of_lt_of_le lt_b244 bd_b245)) nin0))
        have f268 : Fld Z T247.heap b244 "com/example/stemline/stemline/graph/Edge" "source" "Lcom/example/stemline/stemline/model/ColumnSource;" .null := ((Fld.ext E245 D244_98).keep Ku258 (ninS (Nat.ne_of_lt (Nat.lt_of_lt_of_le lt_b244 bd_b245)) nin0))
        have f269 : Fld Z T247.heap b244 "com/example/stemline/stemline/graph/Edge" "target" "Lcom/example/stemline/stemline/model/TableColumn;" .null := ((Fld.ext E245 D244_100).keep Ku258 (ninS (Nat.ne_of_lt (Nat.lt_of_lt_of_le lt_b244 bd_b245)) nin0))
        obtain ⟨_, _, ⟨T270, L270, k270, n270⟩, -, X270, sn270, gr270, ⟨Lc270, hQ270, l270, y270, z270⟩, st270⟩ := X247.specialBackS hx (y := M_12) rfl hown236 (mvT hZ236 (hw _ (gw 90 rfl))) (mvT hZ236 (hw _ (gw 91 rfl))) (mvT hZ236 (hw _ (gw 92 rfl))) (by decide) (backOfS (W := 1) (rm15_22 l Z a0 hw [] b244 b235 b72 b245 p5 T247.heap n0  Ou258 f265 f266 f267 f268 f269 g_b244) hZ236 (hw _ (gw 92 rfl)) (hw _ (gw 89 rfl)) (by decide) (by decide)) (g := (mkF m 210 #[.val (.int p1), .val (.int p2), .val (.int p3), .val (.int p4), .val (.int p5), .val (.int p6), .val (.ref b7), .val (.ref b17), .val (.ref b22), .val (.ref b72), .val (.int (0 : Int32)), .val (.ref a127), .val (.int (1 : Int32)), .val .null, .val (.ref b235), .unset, .unset] [(.int p5), (.ref b245), (.ref b72), (.ref b235), (.ref b244), (.ref b244)])) rfl (by rw [hml]; rfl) (Steps.refl _) (a := b244) (argsL := [(.ref b235), (.ref b72), (.ref b245), (.int p5)]) (rest := [(.ref b244)]) (lenOf pd_12 rfl) rfl (by show 2 * 0 + _ ≤ _; exact Nat.le_of_eq rfl) (hb hby at_210) (fun _ _ => ⟨rfl, rfl, (by decide : 28 + 4 ≤ _), (by decide : 177 + 48 ≤ _)⟩)
        dsimp only [Pt.U, Pt.locs, Pt.cells, Pt.slots] at X270 l270 y270 z270 st270 hQ270 sn270 gr270
        subst l270 y270 z270
        have gs270 : T247.heap.size ≤ T270.heap.size := gr270
        have hS270 : s.Since T270.vm T270.heap.size := hS236.trans sn270 (Nat.le_trans (Nat.le_trans (Nat.le_trans (Nat.le_trans (Nat.le_refl _) E244.1) E245.1) Ku258.1) gs270)
        have hZ270 : Z.Warmed39 (s.setVm T270.vm).vm := State.Warmed39.trans (t := (s.setVm T236.vm)) hZ236 sn270.1
        have hown270 : (s.setVm T270.vm).vm.findClass "com/example/stemline/stemline/graph/EdgeSourceColumnPinLaw" = some m.cls := by rw [show (s.setVm T270.vm).vm = T270.vm from rfl, sn270.1.alike.findClass]; exact hown236
        obtain ⟨rfl, u272, Ku273, u274, u275, u276, u277, u278⟩ := hQ270
        have Ou273 : Old Z n0 T270.heap := Ou258.keep Ku273 (allS g_b244 all0)
        have N270 := Fr.app N247 u272
        have f279 : Exa Z T270.heap b235 "com/example/stemline/stemline/model/ColumnSource" := (((Exa.ext E245 (Exa.ext E244 u240)).keep Ku258).keep Ku273)
        have f280 : Fld Z T270.heap b235 "com/example/stemline/stemline/model/ColumnSource" "column" "Lcom/example/stemline/stemline/model/TableColumn;" (.ref b22) := (((Fld.ext E245 (Fld.ext E244 u241)).keep Ku258 (ninS (Nat.ne_of_lt (Nat.lt_of_lt_of_le (Nat.lt_of_lt_of_le (Nat.lt_of_lt_of_le lt_b235 Ku239.1) E244.1) bd_b245)) nin0)).keep Ku273 (ninS (Nat.ne_of_lt (Nat.lt_of_lt_of_le (Nat.lt_of_lt_of_le lt_b235 Ku239.1) bd_b244)) nin0))
        obtain ⟨cq281, kq281, q281a, q281b, q281c⟩ := isOf hZ270 rfl u274
        obtain ⟨_, _, ⟨T281, L281, k281, n281⟩, -, X281, ⟨Lc281, hQ281, l281, y281, z281⟩, st281⟩ := X270.virtualBack hx (y := M_13) (z := M_13) hown270 (mvT hZ270 (hw _ (gw 105 rfl))) (mvT hZ270 (hw _ (gw 106 rfl))) (notFace_of_selects (args := #[]) (mvT hZ270 (hw _ (gw 108 rfl)))) (mvT hZ270 (hw _ (gw 108 rfl))) (mvT hZ270 (hw _ (gw 107 rfl))) (by decide) (backOf (W := 0) (rm16_23 l Z a0 hw [] b244 b235 b22 T270.heap n0  Ou273 u277 f279 f280) hZ270 (hw _ (gw 109 rfl)) (hw _ (gw 89 rfl)) (by decide) (by decide)) q281a q281c (g := (mkF m 217 #[.val (.int p1), .val (.int p2), .val (.int p3), .val (.int p4), .val (.int p5), .val (.int p6), .val (.ref b7), .val (.ref b17), .val (.ref b22), .val (.ref b72), .val (.int (0 : Int32)), .val (.ref a127), .val (.int (1 : Int32)), .val .null, .val (.ref b235), .val (.ref b244), .unset] [(.ref b244)])) rfl (by rw [hml]; rfl) (Steps.refl _) (argsL := []) (rest := []) (lenOf pd_13 rfl) rfl (by show 2 * 0 + _ ≤ _; exact Nat.le_of_eq rfl) (hb hby at_217) (fun _ _ => ⟨rfl, rfl, (by decide : 32 + 0 ≤ _), (by decide : 225 + 0 ≤ _)⟩)
        dsimp only [Pt.U, Pt.locs, Pt.cells, Pt.slots] at X281 l281 y281 z281 st281 hQ281
        subst l281 y281 z281
        obtain ⟨rfl, u283, u284⟩ := hQ281
        have N281 := Fr.app N270 u283
        obtain ⟨fs, hr, hrun, hended, hEnd⟩ := X281.leaveW (s := s) (vm₁ := T270.vm) hS270 (by rw [u284]; exact (Nat.le_refl _)) (v := some (.int (1 : Int32))) (fun h => by rw [Bd.returns] at h; cases h)
        refine ⟨_, _, pre264 _ ?_, hrun, hended, _, _, rfl, ?_, hEnd.1, hEnd.2.1, hEnd.2.2.1, hEnd.2.2.2.mono (by decide) (by decide)⟩
        · show Steps p.tables e below (T247.setTop (mkF m 208 #[.val (.int p1), .val (.int p2), .val (.int p3), .val (.int p4), .val (.int p5), .val (.int p6), .val (.ref b7), .val (.ref b17), .val (.ref b22), .val (.ref b72), .val (.int (0 : Int32)), .val (.ref a127), .val (.int (1 : Int32)), .val .null, .val (.ref b235), .unset, .unset] [(.ref b245), (.ref b72), (.ref b235), (.ref b244), (.ref b244)])) _
          refine XS.iload X247.here hx rfl (hb hby at_208) rfl ?_
          show Steps p.tables e below (T247.setTop (mkF m 210 #[.val (.int p1), .val (.int p2), .val (.int p3), .val (.int p4), .val (.int p5), .val (.int p6), .val (.ref b7), .val (.ref b17), .val (.ref b22), .val (.ref b72), .val (.int (0 : Int32)), .val (.ref a127), .val (.int (1 : Int32)), .val .null, .val (.ref b235), .unset, .unset] [(.int p5), (.ref b245), (.ref b72), (.ref b235), (.ref b244), (.ref b244)])) _
          refine st270.trans ?_
          show Steps p.tables e below (T270.setTop (mkF m 213 #[.val (.int p1), .val (.int p2), .val (.int p3), .val (.int p4), .val (.int p5), .val (.int p6), .val (.ref b7), .val (.ref b17), .val (.ref b22), .val (.ref b72), .val (.int (0 : Int32)), .val (.ref a127), .val (.int (1 : Int32)), .val .null, .val (.ref b235), .unset, .unset] [(.ref b244)])) _
          refine XS.astore X270.here hx rfl (hb hby at_213) rfl rfl (l' := #[.val (.int p1), .val (.int p2), .val (.int p3), .val (.int p4), .val (.int p5), .val (.int p6), .val (.ref b7), .val (.ref b17), .val (.ref b22), .val (.ref b72), .val (.int (0 : Int32)), .val (.ref a127), .val (.int (1 : Int32)), .val .null, .val (.ref b235), .val (.ref b244), .unset]) rfl ?_
          show Steps p.tables e below (T270.setTop (mkF m 215 #[.val (.int p1), .val (.int p2), .val (.int p3), .val (.int p4), .val (.int p5), .val (.int p6), .val (.ref b7), .val (.ref b17), .val (.ref b22), .val (.ref b72), .val (.int (0 : Int32)), .val (.ref a127), .val (.int (1 : Int32)), .val .null, .val (.ref b235), .val (.ref b244), .unset] [])) _
          refine XS.aload X270.here hx rfl (hb hby at_215) rfl rfl ?_
          show Steps p.tables e below (T270.setTop (mkF m 217 #[.val (.int p1), .val (.int p2), .val (.int p3), .val (.int p4), .val (.int p5), .val (.int p6), .val (.ref b7), .val (.ref b17), .val (.ref b22), .val (.ref b72), .val (.int (0 : Int32)), .val (.ref a127), .val (.int (1 : Int32)), .val .null, .val (.ref b235), .val (.ref b244), .unset] [(.ref b244)])) _
          refine st281.trans ?_
          show Steps p.tables e below (T281.setTop (mkF m 220 #[.val (.int p1), .val (.int p2), .val (.int p3), .val (.int p4), .val (.int p5), .val (.int p6), .val (.ref b7), .val (.ref b17), .val (.ref b22), .val (.ref b72), .val (.int (0 : Int32)), .val (.ref a127), .val (.int (1 : Int32)), .val .null, .val (.ref b235), .val (.ref b244), .unset] [(.ref b22)])) _
          refine XS.astore X281.here hx rfl (hb hby at_220) rfl rfl (l' := #[.val (.int p1), .val (.int p2), .val (.int p3), .val (.int p4), .val (.int p5), .val (.int p6), .val (.ref b7), .val (.ref b17), .val (.ref b22), .val (.ref b72), .val (.int (0 : Int32)), .val (.ref a127), .val (.int (1 : Int32)), .val .null, .val (.ref b235), .val (.ref b244), .val (.ref b22)]) rfl ?_
          show Steps p.tables e below (T281.setTop (mkF m 222 #[.val (.int p1), .val (.int p2), .val (.int p3), .val (.int p4), .val (.int p5), .val (.int p6), .val (.ref b7), .val (.ref b17), .val (.ref b22), .val (.ref b72), .val (.int (0 : Int32)), .val (.ref a127), .val (.int (1 : Int32)), .val .null, .val (.ref b235), .val (.ref b244), .val (.ref b22)] [])) _
          refine XS.iload X281.here hx rfl (hb hby at_222) rfl ?_
          show Steps p.tables e below (T281.setTop (mkF m 224 #[.val (.int p1), .val (.int p2), .val (.int p3), .val (.int p4), .val (.int p5), .val (.int p6), .val (.ref b7), .val (.ref b17), .val (.ref b22), .val (.ref b72), .val (.int (0 : Int32)), .val (.ref a127), .val (.int (1 : Int32)), .val .null, .val (.ref b235), .val (.ref b244), .val (.ref b22)] [(.int (1 : Int32))])) _
          refine XS.ifYes X281.here hx rfl (pc0 := 224) (pc' := 238) rfl (hb hby at_224) rfl ((if0 _ _).trans (feq (by decide +kernel : ¬ ((1 : Int32) = (0 : Int32)))).2) (by decide) (by decide) ?_
          show Steps p.tables e below (T281.setTop (mkF m 238 #[.val (.int p1), .val (.int p2), .val (.int p3), .val (.int p4), .val (.int p5), .val (.int p6), .val (.ref b7), .val (.ref b17), .val (.ref b22), .val (.ref b72), .val (.int (0 : Int32)), .val (.ref a127), .val (.int (1 : Int32)), .val .null, .val (.ref b235), .val (.ref b244), .val (.ref b22)] [])) _
          refine XS.aload X281.here hx rfl (hb hby at_238) rfl rfl ?_
          show Steps p.tables e below (T281.setTop (mkF m 240 #[.val (.int p1), .val (.int p2), .val (.int p3), .val (.int p4), .val (.int p5), .val (.int p6), .val (.ref b7), .val (.ref b17), .val (.ref b22), .val (.ref b72), .val (.int (0 : Int32)), .val (.ref a127), .val (.int (1 : Int32)), .val .null, .val (.ref b235), .val (.ref b244), .val (.ref b22)] [(.ref b22)])) _
          refine XS.aload X281.here hx rfl (hb hby at_240) rfl rfl ?_
          show Steps p.tables e below (T281.setTop (mkF m 242 #[.val (.int p1), .val (.int p2), .val (.int p3), .val (.int p4), .val (.int p5), .val (.int p6), .val (.ref b7), .val (.ref b17), .val (.ref b22), .val (.ref b72), .val (.int (0 : Int32)), .val (.ref a127), .val (.int (1 : Int32)), .val .null, .val (.ref b235), .val (.ref b244), .val (.ref b22)] [(.ref b22), (.ref b22)])) _
          refine Jvm.RoadKit.acmp (g := (mkF m 242 #[.val (.int p1), .val (.int p2), .val (.int p3), .val (.int p4), .val (.int p5), .val (.int p6), .val (.ref b7), .val (.ref b17), .val (.ref b22), .val (.ref b72), .val (.int (0 : Int32)), .val (.ref a127), .val (.int (1 : Int32)), .val .null, .val (.ref b235), .val (.ref b244), .val (.ref b22)] [(.ref b22), (.ref b22)])) X281 hx rfl rfl rfl (pc0 := 242) (pc' := 245) (same := true) rfl (hb hby at_242) rfl (decide_eq_true rfl) (by decide) (by decide) ?_
          show Steps p.tables e below (T281.setTop (mkF m 245 #[.val (.int p1), .val (.int p2), .val (.int p3), .val (.int p4), .val (.int p5), .val (.int p6), .val (.ref b7), .val (.ref b17), .val (.ref b22), .val (.ref b72), .val (.int (0 : Int32)), .val (.ref a127), .val (.int (1 : Int32)), .val .null, .val (.ref b235), .val (.ref b244), .val (.ref b22)] [])) _
          refine XS.iconst X281.here hx rfl (hb hby at_245) ?_
          show Steps p.tables e below (T281.setTop (mkF m 246 #[.val (.int p1), .val (.int p2), .val (.int p3), .val (.int p4), .val (.int p5), .val (.int p6), .val (.ref b7), .val (.ref b17), .val (.ref b22), .val (.ref b72), .val (.int (0 : Int32)), .val (.ref a127), .val (.int (1 : Int32)), .val .null, .val (.ref b235), .val (.ref b244), .val (.ref b22)] [(.int (1 : Int32))])) _
          refine XS.goto X281.here hx rfl (pc0 := 246) (pc' := 250) rfl (hb hby at_246) (by decide) (by decide) ?_
          show Steps p.tables e below (T281.setTop (mkF m 250 #[.val (.int p1), .val (.int p2), .val (.int p3), .val (.int p4), .val (.int p5), .val (.int p6), .val (.ref b7), .val (.ref b17), .val (.ref b22), .val (.ref b72), .val (.int (0 : Int32)), .val (.ref a127), .val (.int (1 : Int32)), .val .null, .val (.ref b235), .val (.ref b244), .val (.ref b22)] [(.int (1 : Int32))])) _
          exact retN X281 hx (t := .boolean) Bd.returns (by simp) (hb hby at_250) hr
        · show Q0 Z _ _ _ _ _ _ _ _ _ _ h0 n0 _ T281.heap _
          rw [u284]
          exact ⟨rfl, N281⟩
      · skip
        obtain ⟨T285, h285, X285, e285, E285, A285, D285, -, st285⟩ := newO X129 hx hZ116 hown116 (hw _ (gw 4 rfl)) (hw _ (gw 5 rfl)) (hw _ (gw 6 rfl)) e129 (g := (mkF m 152 #[.val (.int p1), .val (.int p2), .val (.int p3), .val (.int p4), .val (.int p5), .val (.int p6), .val (.ref b7), .val (.ref b17), .val (.ref b22), .val (.ref b72), .val (.int (0 : Int32)), .val (.ref a127), .val (.int (1 : Int32)), .unset, .unset, .unset, .unset] [])) rfl (hb hby at_152) (by decide) (by decide)
        obtain ⟨b285, g285⟩ : ∃ z, z = T116.heap.size := ⟨_, rfl⟩
        rw [← g285] at A285 D285 st285
        have O285 : Old Z n0 h285 := Ou119.ext E285
        have bd_b285 : T116.heap.size ≤ b285 := Nat.le_of_eq g285.symm
        have g_b285 : n0 ≤ b285 := Nat.le_trans (own_z Ou119) bd_b285
        have sz_b285 : h0.size ≤ b285 := Nat.le_trans (Nat.le_trans (Nat.le_trans (Nat.le_trans (Nat.le_trans (Nat.le_trans (Nat.le_trans (Nat.le_trans (Nat.le_trans (Nat.le_trans (Nat.le_trans (Nat.le_trans (Nat.le_trans (Nat.le_trans (Nat.le_trans E7.1 (Keep.of_wr W11).1) (Keep.of_wr W16).1) E17.1) (Keep.of_wr W21).1) E22.1) E23.1) Ku39.1) E45.1) Ku56.1) Ku68.1) E72.1) Ku87.1) Ku107.1) Ku119.1) bd_b285
        have lt_b285 : b285 < h285.size := A285.lt
        have D285_30 : Fld Z h285 b285 "java/lang/String" "coder" "B" (.int (0 : Int32)) := D285 (Or.inr (hw _ (gw 30 rfl))) (ty := .byte) (by decide)
        have D285_32 : Fld Z h285 b285 "java/lang/String" "value" "[B" .null := D285 (Or.inr (hw _ (gw 32 rfl))) (ty := (.array .byte)) (by decide)
        have f286 : Arv Z h285 b17 k17 .char (1 : Int32) [(.int i18)] (.int (0 : Int32)) := (((((((f46.keep Ku56 (ninS (Nat.ne_of_lt (Nat.lt_of_lt_of_le (Nat.lt_of_lt_of_le (Nat.lt_of_lt_of_le (Nat.lt_of_lt_of_le (Nat.lt_of_lt_of_le lt_b17 (Keep.of_wr W21).1) E22.1) E23.1) Ku39.1) bd_b45)) nin0)).keep Ku68 (ninS (Nat.ne_of_lt (Nat.lt_of_lt_of_le (Nat.lt_of_lt_of_le lt_b17 (Keep.of_wr W21).1) bd_b22)) nin0)).ext E72).keep Ku87 nin0).keep Ku107 nin0).keep Ku119 (ninS (Nat.ne_of_lt (Nat.lt_of_lt_of_le (Nat.lt_of_lt_of_le (Nat.lt_of_lt_of_le (Nat.lt_of_lt_of_le (Nat.lt_of_lt_of_le (Nat.lt_of_lt_of_le (Nat.lt_of_lt_of_le (Nat.lt_of_lt_of_le lt_b17 (Keep.of_wr W21).1) E22.1) E23.1) Ku39.1) E45.1) Ku56.1) Ku68.1) bd_b72)) nin0)).ext E285)
        obtain ⟨_, _, ⟨T287, L287, k287, n287⟩, -, X287, ⟨Lc287, hQ287, l287, y287, z287⟩, st287⟩ := X285.specialBack hx (y := M_4) rfl hown116 (mvT hZ116 (hw _ (gw 7 rfl))) (mvT hZ116 (hw _ (gw 8 rfl))) (mvT hZ116 (hw _ (gw 9 rfl))) (by decide) (backOf (W := 1) (rm1_7 l Z a0 hw [] b285 b17 i18 k17 p24 h285 n0  O285 f286 S_25 hk26 (own_lt255 hi18) A285 D285_30 D285_32 g_b285 lt_b285) hZ116 (hw _ (gw 9 rfl)) (hw _ (gw 6 rfl)) (by decide) (by decide)) (g := (mkF m 158 #[.val (.int p1), .val (.int p2), .val (.int p3), .val (.int p4), .val (.int p5), .val (.int p6), .val (.ref b7), .val (.ref b17), .val (.ref b22), .val (.ref b72), .val (.int (0 : Int32)), .val (.ref a127), .val (.int (1 : Int32)), .unset, .unset, .unset, .unset] [(.ref b17), (.ref b285), (.ref b285)])) rfl (by rw [hml]; rfl) (Steps.refl _) (a := b285) (argsL := [(.ref b17)]) (rest := [(.ref b285)]) (lenOf pd_4 rfl) rfl (by show 2 * 0 + _ ≤ _; exact Nat.le_of_eq rfl) (hb hby at_158) (fun _ _ => ⟨rfl, e285, (by decide : 21 + 1 ≤ _), (by decide : 120 + 1 ≤ _)⟩)
        dsimp only [Pt.U, Pt.locs, Pt.cells, Pt.slots] at X287 l287 y287 z287 st287 hQ287
        subst l287 y287 z287
        obtain ⟨i288, b289, k290, u291, rfl, u293, u294, u295, Ku296, u297, u298, u299, u300, u301⟩ := hQ287
        have Ou296 : Old Z n0 T287.heap := O285.keep Ku296 (allS g_b285 all0)
        have g_b289 : n0 ≤ b289 := Nat.le_trans (own_z O285) u294
        have sz_b289 : h0.size ≤ b289 := Nat.le_trans (Nat.le_trans (Nat.le_trans (Nat.le_trans (Nat.le_trans (Nat.le_trans (Nat.le_trans (Nat.le_trans (Nat.le_trans (Nat.le_trans (Nat.le_trans (Nat.le_trans (Nat.le_trans (Nat.le_trans (Nat.le_trans (Nat.le_trans E7.1 (Keep.of_wr W11).1) (Keep.of_wr W16).1) E17.1) (Keep.of_wr W21).1) E22.1) E23.1) Ku39.1) E45.1) Ku56.1) Ku68.1) E72.1) Ku87.1) Ku107.1) Ku119.1) E285.1) u294
        have N287 := Fr.app N116 u293
        have pre302 : ∀ t, Steps p.tables e below (T287.setTop (mkF m 161 #[.val (.int p1), .val (.int p2), .val (.int p3), .val (.int p4), .val (.int p5), .val (.int p6), .val (.ref b7), .val (.ref b17), .val (.ref b22), .val (.ref b72), .val (.int (0 : Int32)), .val (.ref a127), .val (.int (1 : Int32)), .unset, .unset, .unset, .unset] [(.ref b285)])) t → Steps p.tables e below (s₁.setTop (entryFrame m #[(.int p1), (.int p2), (.int p3), (.int p4), (.int p5), (.int p6)] maxLocals)) t := by
          intro t kt
          refine pre233 t ?_
          show Steps p.tables e below (T129.setTop (mkF m 149 #[.val (.int p1), .val (.int p2), .val (.int p3), .val (.int p4), .val (.int p5), .val (.int p6), .val (.ref b7), .val (.ref b17), .val (.ref b22), .val (.ref b72), .val (.int (0 : Int32)), .val (.ref a127), .val (.int (1 : Int32)), .unset, .unset, .unset, .unset] [(.int i232)])) _
          refine XS.ifNo X129.here hx rfl (hb hby at_149) rfl ((if0 _ _).trans (feq hc234).1) ?_
          show Steps p.tables e below (T129.setTop (mkF m 152 #[.val (.int p1), .val (.int p2), .val (.int p3), .val (.int p4), .val (.int p5), .val (.int p6), .val (.ref b7), .val (.ref b17), .val (.ref b22), .val (.ref b72), .val (.int (0 : Int32)), .val (.ref a127), .val (.int (1 : Int32)), .unset, .unset, .unset, .unset] [])) _
          refine st285 _ ?_
          show Steps p.tables e below (T285.setTop (mkF m 155 #[.val (.int p1), .val (.int p2), .val (.int p3), .val (.int p4), .val (.int p5), .val (.int p6), .val (.ref b7), .val (.ref b17), .val (.ref b22), .val (.ref b72), .val (.int (0 : Int32)), .val (.ref a127), .val (.int (1 : Int32)), .unset, .unset, .unset, .unset] [(.ref b285)])) _
          refine XS.dup X285.here hx rfl (hb hby at_155) rfl rfl ?_
          show Steps p.tables e below (T285.setTop (mkF m 156 #[.val (.int p1), .val (.int p2), .val (.int p3), .val (.int p4), .val (.int p5), .val (.int p6), .val (.ref b7), .val (.ref b17), .val (.ref b22), .val (.ref b72), .val (.int (0 : Int32)), .val (.ref a127), .val (.int (1 : Int32)), .unset, .unset, .unset, .unset] [(.ref b285), (.ref b285)])) _
          refine XS.aload X285.here hx rfl (hb hby at_156) rfl rfl ?_
          show Steps p.tables e below (T285.setTop (mkF m 158 #[.val (.int p1), .val (.int p2), .val (.int p3), .val (.int p4), .val (.int p5), .val (.int p6), .val (.ref b7), .val (.ref b17), .val (.ref b22), .val (.ref b72), .val (.int (0 : Int32)), .val (.ref a127), .val (.int (1 : Int32)), .unset, .unset, .unset, .unset] [(.ref b17), (.ref b285), (.ref b285)])) _
          refine st287.trans ?_
          exact kt
        obtain rfl : i48 = i288 := (u291.trans u51.symm).symm
        obtain ⟨T303, h303, X303, e303, E303, A303, D303, -, st303⟩ := newO X287 hx hZ116 hown116 (hw _ (gw 71 rfl)) (hw _ (gw 72 rfl)) (hw _ (gw 73 rfl)) rfl (g := (mkF m 172 #[.val (.int p1), .val (.int p2), .val (.int p3), .val (.int p4), .val (.int p5), .val (.int p6), .val (.ref b7), .val (.ref b17), .val (.ref b22), .val (.ref b72), .val (.int (0 : Int32)), .val (.ref a127), .val (.int (1 : Int32)), .val (.ref b285), .unset, .unset, .unset] [])) rfl (hb hby at_172) (by decide) (by decide)
        obtain ⟨b303, g303⟩ : ∃ z, z = T287.heap.size := ⟨_, rfl⟩
        rw [← g303] at A303 D303 st303
        have O303 : Old Z n0 h303 := Ou296.ext E303
        have bd_b303 : T287.heap.size ≤ b303 := Nat.le_of_eq g303.symm
        have g_b303 : n0 ≤ b303 := Nat.le_trans (own_z Ou296) bd_b303
        have sz_b303 : h0.size ≤ b303 := Nat.le_trans (Nat.le_trans (Nat.le_trans (Nat.le_trans (Nat.le_trans (Nat.le_trans (Nat.le_trans (Nat.le_trans (Nat.le_trans (Nat.le_trans (Nat.le_trans (Nat.le_trans (Nat.le_trans (Nat.le_trans (Nat.le_trans (Nat.le_trans (Nat.le_trans E7.1 (Keep.of_wr W11).1) (Keep.of_wr W16).1) E17.1) (Keep.of_wr W21).1) E22.1) E23.1) Ku39.1) E45.1) Ku56.1) Ku68.1) E72.1) Ku87.1) Ku107.1) Ku119.1) E285.1) Ku296.1) bd_b303
        have lt_b303 : b303 < h303.size := A303.lt
        have D303_82 : Fld Z h303 b303 "com/example/stemline/stemline/model/ColumnSource" "column" "Lcom/example/stemline/stemline/model/TableColumn;" .null := D303 (Or.inr (hw _ (gw 82 rfl))) (ty := (.object "com/example/stemline/stemline/model/TableColumn")) (by decide)
        have D303_84 : Fld Z h303 b303 "com/example/stemline/stemline/model/ColumnSource" "kind" "Lcom/example/stemline/stemline/model/SourceKind;" .null := D303 (Or.inr (hw _ (gw 84 rfl))) (ty := (.object "com/example/stemline/stemline/model/SourceKind")) (by decide)
        have D303_86 : Fld Z h303 b303 "com/example/stemline/stemline/model/ColumnSource" "expression" "Ljava/lang/String;" .null := D303 (Or.inr (hw _ (gw 86 rfl))) (ty := (.object "java/lang/String")) (by decide)
        obtain ⟨_, _, ⟨T304, L304, k304, n304⟩, -, X304, sn304, gr304, ⟨Lc304, hQ304, l304, y304, z304⟩, st304⟩ := X303.specialBackS hx (y := M_14) rfl hown116 (mvT hZ116 (hw _ (gw 74 rfl))) (mvT hZ116 (hw _ (gw 75 rfl))) (mvT hZ116 (hw _ (gw 76 rfl))) (by decide) (backOfS (W := 1) (rm14_25 l Z a0 hw [] b303 b22 a127 b285 h303 n0  O303 A303 D303_82 D303_86 D303_84 g_b303) hZ116 (hw _ (gw 76 rfl)) (hw _ (gw 73 rfl)) (by decide) (by decide)) (g := (mkF m 182 #[.val (.int p1), .val (.int p2), .val (.int p3), .val (.int p4), .val (.int p5), .val (.int p6), .val (.ref b7), .val (.ref b17), .val (.ref b22), .val (.ref b72), .val (.int (0 : Int32)), .val (.ref a127), .val (.int (1 : Int32)), .val (.ref b285), .unset, .unset, .unset] [(.ref b285), (.ref a127), (.ref b22), (.ref b303), (.ref b303)])) rfl (by rw [hml]; rfl) (Steps.refl _) (a := b303) (argsL := [(.ref b22), (.ref a127), (.ref b285)]) (rest := [(.ref b303)]) (lenOf pd_14 rfl) rfl (by show 2 * 0 + _ ≤ _; exact Nat.le_of_eq rfl) (hb hby at_182) (fun _ _ => ⟨rfl, e303, (by decide : 23 + 4 ≤ _), (by decide : 124 + 48 ≤ _)⟩)
        dsimp only [Pt.U, Pt.locs, Pt.cells, Pt.slots] at X304 l304 y304 z304 st304 hQ304 sn304 gr304
        subst l304 y304 z304
        have gs304 : h303.size ≤ T304.heap.size := by have q := gr304; rw [e303] at q; exact q
        have hS304 : s.Since T304.vm T304.heap.size := hS116.trans sn304 (Nat.le_trans (Nat.le_trans (Nat.le_trans (Nat.le_trans (Nat.le_refl _) E285.1) Ku296.1) E303.1) gs304)
        have hZ304 : Z.Warmed39 (s.setVm T304.vm).vm := State.Warmed39.trans (t := (s.setVm T116.vm)) hZ116 sn304.1
        have hown304 : (s.setVm T304.vm).vm.findClass "com/example/stemline/stemline/graph/EdgeSourceColumnPinLaw" = some m.cls := by rw [show (s.setVm T304.vm).vm = T304.vm from rfl, sn304.1.alike.findClass]; exact hown116
        obtain ⟨rfl, u306, Ku307, u308, u309, u310, u311⟩ := hQ304
        have Ou307 : Old Z n0 T304.heap := O303.keep Ku307 (allS g_b303 all0)
        have N304 := Fr.app N287 u306
        obtain ⟨T312, h312, X312, e312, E312, A312, D312, -, st312⟩ := newO X304 hx hZ304 hown304 (hw _ (gw 87 rfl)) (hw _ (gw 88 rfl)) (hw _ (gw 89 rfl)) rfl (g := (mkF m 191 #[.val (.int p1), .val (.int p2), .val (.int p3), .val (.int p4), .val (.int p5), .val (.int p6), .val (.ref b7), .val (.ref b17), .val (.ref b22), .val (.ref b72), .val (.int (0 : Int32)), .val (.ref a127), .val (.int (1 : Int32)), .val (.ref b285), .val (.ref b303), .unset, .unset] [])) rfl (hb hby at_191) (by decide) (by decide)
        obtain ⟨b312, g312⟩ : ∃ z, z = T304.heap.size := ⟨_, rfl⟩
        rw [← g312] at A312 D312 st312
        have O312 : Old Z n0 h312 := Ou307.ext E312
        have bd_b312 : T304.heap.size ≤ b312 := Nat.le_of_eq g312.symm
        have g_b312 : n0 ≤ b312 := Nat.le_trans (own_z Ou307) bd_b312
        have sz_b312 : h0.size ≤ b312 := Nat.le_trans (Nat.le_trans (Nat.le_trans (Nat.le_trans (Nat.le_trans (Nat.le_trans (Nat.le_trans (Nat.le_trans (Nat.le_trans (Nat.le_trans (Nat.le_trans (Nat.le_trans (Nat.le_trans (Nat.le_trans (Nat.le_trans (Nat.le_trans (Nat.le_trans (Nat.le_trans (Nat.le_trans E7.1 (Keep.of_wr W11).1) (Keep.of_wr W16).1) E17.1) (Keep.of_wr W21).1) E22.1) E23.1) Ku39.1) E45.1) Ku56.1) Ku68.1) E72.1) Ku87.1) Ku107.1) Ku119.1) E285.1) Ku296.1) E303.1) Ku307.1) bd_b312
        have lt_b312 : b312 < h312.size := A312.lt
        have D312_98 : Fld Z h312 b312 "com/example/stemline/stemline/graph/Edge" "source" "Lcom/example/stemline/stemline/model/ColumnSource;" .null := D312 (Or.inr (hw _ (gw 98 rfl))) (ty := (.object "com/example/stemline/stemline/model/ColumnSource")) (by decide)
        have D312_100 : Fld Z h312 b312 "com/example/stemline/stemline/graph/Edge" "target" "Lcom/example/stemline/stemline/model/TableColumn;" .null := D312 (Or.inr (hw _ (gw 100 rfl))) (ty := (.object "com/example/stemline/stemline/model/TableColumn")) (by decide)
        have D312_102 : Fld Z h312 b312 "com/example/stemline/stemline/graph/Edge" "file" "Ljava/lang/String;" .null := D312 (Or.inr (hw _ (gw 102 rfl))) (ty := (.object "java/lang/String")) (by decide)
        have D312_104 : Fld Z h312 b312 "com/example/stemline/stemline/graph/Edge" "line" "I" (.int (0 : Int32)) := D312 (Or.inr (hw _ (gw 104 rfl))) (ty := .int) (by decide)
        obtain ⟨T313, h313, X313, e313, E313, A313, D313, -, st313⟩ := newO X312 hx hZ304 hown304 (hw _ (gw 4 rfl)) (hw _ (gw 5 rfl)) (hw _ (gw 6 rfl)) e312 (g := (mkF m 199 #[.val (.int p1), .val (.int p2), .val (.int p3), .val (.int p4), .val (.int p5), .val (.int p6), .val (.ref b7), .val (.ref b17), .val (.ref b22), .val (.ref b72), .val (.int (0 : Int32)), .val (.ref a127), .val (.int (1 : Int32)), .val (.ref b285), .val (.ref b303), .unset, .unset] [(.ref b72), (.ref b303), (.ref b312), (.ref b312)])) rfl (hb hby at_199) (by decide) (by decide)
        obtain ⟨b313, g313⟩ : ∃ z, z = h312.size := ⟨_, rfl⟩
        rw [← g313] at A313 D313 st313
        have O313 : Old Z n0 h313 := O312.ext E313
        have bd_b313 : h312.size ≤ b313 := Nat.le_of_eq g313.symm
        have g_b313 : n0 ≤ b313 := Nat.le_trans (own_z O312) bd_b313
        have sz_b313 : h0.size ≤ b313 := Nat.le_trans (Nat.le_trans (Nat.le_trans (Nat.le_trans (Nat.le_trans (Nat.le_trans (Nat.le_trans (Nat.le_trans (Nat.le_trans (Nat.le_trans (Nat.le_trans (Nat.le_trans (Nat.le_trans (Nat.le_trans (Nat.le_trans (Nat.le_trans (Nat.le_trans (Nat.le_trans (Nat.le_trans (Nat.le_trans E7.1 (Keep.of_wr W11).1) (Keep.of_wr W16).1) E17.1) (Keep.of_wr W21).1) E22.1) E23.1) Ku39.1) E45.1) Ku56.1) Ku68.1) E72.1) Ku87.1) Ku107.1) Ku119.1) E285.1) Ku296.1) E303.1) Ku307.1) E312.1) bd_b313
        have lt_b313 : b313 < h313.size := A313.lt
        have D313_30 : Fld Z h313 b313 "java/lang/String" "coder" "B" (.int (0 : Int32)) := D313 (Or.inr (hw _ (gw 30 rfl))) (ty := .byte) (by decide)
        have D313_32 : Fld Z h313 b313 "java/lang/String" "value" "[B" .null := D313 (Or.inr (hw _ (gw 32 rfl))) (ty := (.array .byte)) (by decide)
        have f314 : Arv Z h313 b7 k7 .char (2 : Int32) [(.int i8), (.int i13)] (.int (0 : Int32)) := ((((((((((((((f27.keep Ku39 (ninS (Nat.ne_of_lt (Nat.lt_of_lt_of_le (Nat.lt_of_lt_of_le (Nat.lt_of_lt_of_le (Nat.lt_of_lt_of_le (Nat.lt_of_lt_of_le (Nat.lt_of_lt_of_le lt_b7 (Keep.of_wr W11).1) (Keep.of_wr W16).1) E17.1) (Keep.of_wr W21).1) E22.1) bd_b23)) nin0)).ext E45).keep Ku56 (ninS (Nat.ne_of_lt (Nat.lt_of_lt_of_le (Nat.lt_of_lt_of_le (Nat.lt_of_lt_of_le (Nat.lt_of_lt_of_le (Nat.lt_of_lt_of_le (Nat.lt_of_lt_of_le (Nat.lt_of_lt_of_le (Nat.lt_of_lt_of_le lt_b7 (Keep.of_wr W11).1) (Keep.of_wr W16).1) E17.1) (Keep.of_wr W21).1) E22.1) E23.1) Ku39.1) bd_b45)) nin0)).keep Ku68 (ninS (Nat.ne_of_lt (Nat.lt_of_lt_of_le (Nat.lt_of_lt_of_le (Nat.lt_of_lt_of_le (Nat.lt_of_lt_of_le (Nat.lt_of_lt_of_le lt_b7 (Keep.of_wr W11).1) (Keep.of_wr W16).1) E17.1) (Keep.of_wr W21).1) bd_b22)) nin0)).ext E72).keep Ku87 nin0).keep Ku107 nin0).keep Ku119 (ninS (Nat.ne_of_lt (Nat.lt_of_lt_of_le (Nat.lt_of_lt_of_le (Nat.lt_of_lt_of_le (Nat.lt_of_lt_of_le (Nat.lt_of_lt_of_le (Nat.lt_of_lt_of_le (Nat.lt_of_lt_of_le (Nat.lt_of_lt_of_le (Nat.lt_of_lt_of_le (Nat.lt_of_lt_of_le (Nat.lt_of_lt_of_le lt_b7 (Keep.of_wr W11).1) (Keep.of_wr W16).1) E17.1) (Keep.of_wr W21).1) E22.1) E23.1) Ku39.1) E45.1) Ku56.1) Ku68.1) bd_b72)) nin0)).ext E285).keep Ku296 (ninS (Nat.ne_of_lt (Nat.lt_of_lt_of_le (Nat.lt_of_lt_of_le (Nat.lt_of_lt_of_le (Nat.lt_of_lt_of_le (Nat.lt_of_lt_of_le (Nat.lt_of_lt_of_le (Nat.lt_of_lt_of_le (Nat.lt_of_lt_of_le (Nat.lt_of_lt_of_le (Nat.lt_of_lt_of_le (Nat.lt_of_lt_of_le (Nat.lt_of_lt_of_le (Nat.lt_of_lt_of_le (Nat.lt_of_lt_of_le (Nat.lt_of_lt_of_le lt_b7 (Keep.of_wr W11).1) (Keep.of_wr W16).1) E17.1) (Keep.of_wr W21).1) E22.1) E23.1) Ku39.1) E45.1) Ku56.1) Ku68.1) E72.1) Ku87.1) Ku107.1) Ku119.1) bd_b285)) nin0)).ext E303).keep Ku307 (ninS (Nat.ne_of_lt (Nat.lt_of_lt_of_le (Nat.lt_of_lt_of_le (Nat.lt_of_lt_of_le (Nat.lt_of_lt_of_le (Nat.lt_of_lt_of_le (Nat.lt_of_lt_of_le (Nat.lt_of_lt_of_le (Nat.lt_of_lt_of_le (Nat.lt_of_lt_of_le (Nat.lt_of_lt_of_le (Nat.lt_of_lt_of_le (Nat.lt_of_lt_of_le (Nat.lt_of_lt_of_le (Nat.lt_of_lt_of_le (Nat.lt_of_lt_of_le (Nat.lt_of_lt_of_le (Nat.lt_of_lt_of_le lt_b7 (Keep.of_wr W11).1) (Keep.of_wr W16).1) E17.1) (Keep.of_wr W21).1) E22.1) E23.1) Ku39.1) E45.1) Ku56.1) Ku68.1) E72.1) Ku87.1) Ku107.1) Ku119.1) E285.1) Ku296.1) bd_b303)) nin0)).ext E312).ext E313)
        obtain ⟨_, _, ⟨T315, L315, k315, n315⟩, -, X315, ⟨Lc315, hQ315, l315, y315, z315⟩, st315⟩ := X313.specialBack hx (y := M_4) rfl hown304 (mvT hZ304 (hw _ (gw 7 rfl))) (mvT hZ304 (hw _ (gw 8 rfl))) (mvT hZ304 (hw _ (gw 9 rfl))) (by decide) (backOf (W := 5) (rm1_2 l Z a0 hw [] b313 b7 i8 i13 k7 p24 h313 n0  O313 f314 S_25 hk26 (own_lt255 hi8) (own_lt255 hi13) A313 D313_30 D313_32 (Nat.lt_of_lt_of_le (Nat.lt_of_lt_of_le (Nat.lt_of_lt_of_le (Nat.lt_of_lt_of_le (Nat.lt_of_lt_of_le (Nat.lt_of_lt_of_le (Nat.lt_of_lt_of_le (Nat.lt_of_lt_of_le (Nat.lt_of_lt_of_le (Nat.lt_of_lt_of_le (Nat.lt_of_lt_of_le (Nat.lt_of_lt_of_le (Nat.lt_of_lt_of_le (Nat.lt_of_lt_of_le (Nat.lt_of_lt_of_le (Nat.lt_of_lt_of_le (Nat.lt_of_lt_of_le (Nat.lt_of_lt_of_le (Nat.lt_of_lt_of_le (Nat.lt_of_lt_of_le lt_b7 (Keep.of_wr W11).1) (Keep.of_wr W16).1) E17.1) (Keep.of_wr W21).1) E22.1) E23.1) Ku39.1) E45.1) Ku56.1) Ku68.1) E72.1) Ku87.1) Ku107.1) Ku119.1) E285.1) Ku296.1) E303.1) Ku307.1) E312.1) E313.1) g_b313 lt_b313) hZ304 (hw _ (gw 9 rfl)) (hw _ (gw 6 rfl)) (by decide) (by decide)) (g := (mkF m 205 #[.val (.int p1), .val (.int p2), .val (.int p3), .val (.int p4), .val (.int p5), .val (.int p6), .val (.ref b7), .val (.ref b17), .val (.ref b22), .val (.ref b72), .val (.int (0 : Int32)), .val (.ref a127), .val (.int (1 : Int32)), .val (.ref b285), .val (.ref b303), .unset, .unset] [(.ref b7), (.ref b313), (.ref b313), (.ref b72), (.ref b303), (.ref b312), (.ref b312)])) rfl (by rw [hml]; rfl) (Steps.refl _) (a := b313) (argsL := [(.ref b7)]) (rest := [(.ref b313), (.ref b72), (.ref b303), (.ref b312), (.ref b312)]) (lenOf pd_4 rfl) rfl (by show 2 * 0 + _ ≤ _; exact Nat.le_of_eq rfl) (hb hby at_205) (fun _ _ => ⟨rfl, e313, (by decide : 29 + 1 ≤ _), (by decide : 180 + 2 ≤ _)⟩)
        dsimp only [Pt.U, Pt.locs, Pt.cells, Pt.slots] at X315 l315 y315 z315 st315 hQ315
        subst l315 y315 z315
        obtain ⟨i316, i317, b318, k319, u320, u321, rfl, u323, u324, u325, Ku326, u327, u328, u329, u330, u331⟩ := hQ315
        have Ou326 : Old Z n0 T315.heap := O313.keep Ku326 (allS g_b313 all0)
        have g_b318 : n0 ≤ b318 := Nat.le_trans (own_z O313) u324
        have sz_b318 : h0.size ≤ b318 := Nat.le_trans (Nat.le_trans (Nat.le_trans (Nat.le_trans (Nat.le_trans (Nat.le_trans (Nat.le_trans (Nat.le_trans (Nat.le_trans (Nat.le_trans (Nat.le_trans (Nat.le_trans (Nat.le_trans (Nat.le_trans (Nat.le_trans (Nat.le_trans (Nat.le_trans (Nat.le_trans (Nat.le_trans (Nat.le_trans (Nat.le_trans E7.1 (Keep.of_wr W11).1) (Keep.of_wr W16).1) E17.1) (Keep.of_wr W21).1) E22.1) E23.1) Ku39.1) E45.1) Ku56.1) Ku68.1) E72.1) Ku87.1) Ku107.1) Ku119.1) E285.1) Ku296.1) E303.1) Ku307.1) E312.1) E313.1) u324
        have N315 := Fr.app N304 u323
        have pre332 : ∀ t, Steps p.tables e below (T315.setTop (mkF m 208 #[.val (.int p1), .val (.int p2), .val (.int p3), .val (.int p4), .val (.int p5), .val (.int p6), .val (.ref b7), .val (.ref b17), .val (.ref b22), .val (.ref b72), .val (.int (0 : Int32)), .val (.ref a127), .val (.int (1 : Int32)), .val (.ref b285), .val (.ref b303), .unset, .unset] [(.ref b313), (.ref b72), (.ref b303), (.ref b312), (.ref b312)])) t → Steps p.tables e below (s₁.setTop (entryFrame m #[(.int p1), (.int p2), (.int p3), (.int p4), (.int p5), (.int p6)] maxLocals)) t := by
          intro t kt
          refine pre302 t ?_
          show Steps p.tables e below (T287.setTop (mkF m 161 #[.val (.int p1), .val (.int p2), .val (.int p3), .val (.int p4), .val (.int p5), .val (.int p6), .val (.ref b7), .val (.ref b17), .val (.ref b22), .val (.ref b72), .val (.int (0 : Int32)), .val (.ref a127), .val (.int (1 : Int32)), .unset, .unset, .unset, .unset] [(.ref b285)])) _
          refine XS.goto X287.here hx rfl (pc0 := 161) (pc' := 165) rfl (hb hby at_161) (by decide) (by decide) ?_
          show Steps p.tables e below (T287.setTop (mkF m 165 #[.val (.int p1), .val (.int p2), .val (.int p3), .val (.int p4), .val (.int p5), .val (.int p6), .val (.ref b7), .val (.ref b17), .val (.ref b22), .val (.ref b72), .val (.int (0 : Int32)), .val (.ref a127), .val (.int (1 : Int32)), .unset, .unset, .unset, .unset] [(.ref b285)])) _
          refine XS.astore X287.here hx rfl (hb hby at_165) rfl rfl (l' := #[.val (.int p1), .val (.int p2), .val (.int p3), .val (.int p4), .val (.int p5), .val (.int p6), .val (.ref b7), .val (.ref b17), .val (.ref b22), .val (.ref b72), .val (.int (0 : Int32)), .val (.ref a127), .val (.int (1 : Int32)), .val (.ref b285), .unset, .unset, .unset]) rfl ?_
          show Steps p.tables e below (T287.setTop (mkF m 167 #[.val (.int p1), .val (.int p2), .val (.int p3), .val (.int p4), .val (.int p5), .val (.int p6), .val (.ref b7), .val (.ref b17), .val (.ref b22), .val (.ref b72), .val (.int (0 : Int32)), .val (.ref a127), .val (.int (1 : Int32)), .val (.ref b285), .unset, .unset, .unset] [])) _
          refine XS.iload X287.here hx rfl (hb hby at_167) rfl ?_
          show Steps p.tables e below (T287.setTop (mkF m 169 #[.val (.int p1), .val (.int p2), .val (.int p3), .val (.int p4), .val (.int p5), .val (.int p6), .val (.ref b7), .val (.ref b17), .val (.ref b22), .val (.ref b72), .val (.int (0 : Int32)), .val (.ref a127), .val (.int (1 : Int32)), .val (.ref b285), .unset, .unset, .unset] [(.int (1 : Int32))])) _
          refine XS.ifNo X287.here hx rfl (hb hby at_169) rfl ((if0 _ _).trans (feq (by decide +kernel : ¬ ((1 : Int32) = (0 : Int32)))).1) ?_
          show Steps p.tables e below (T287.setTop (mkF m 172 #[.val (.int p1), .val (.int p2), .val (.int p3), .val (.int p4), .val (.int p5), .val (.int p6), .val (.ref b7), .val (.ref b17), .val (.ref b22), .val (.ref b72), .val (.int (0 : Int32)), .val (.ref a127), .val (.int (1 : Int32)), .val (.ref b285), .unset, .unset, .unset] [])) _
          refine st303 _ ?_
          show Steps p.tables e below (T303.setTop (mkF m 175 #[.val (.int p1), .val (.int p2), .val (.int p3), .val (.int p4), .val (.int p5), .val (.int p6), .val (.ref b7), .val (.ref b17), .val (.ref b22), .val (.ref b72), .val (.int (0 : Int32)), .val (.ref a127), .val (.int (1 : Int32)), .val (.ref b285), .unset, .unset, .unset] [(.ref b303)])) _
          refine XS.dup X303.here hx rfl (hb hby at_175) rfl rfl ?_
          show Steps p.tables e below (T303.setTop (mkF m 176 #[.val (.int p1), .val (.int p2), .val (.int p3), .val (.int p4), .val (.int p5), .val (.int p6), .val (.ref b7), .val (.ref b17), .val (.ref b22), .val (.ref b72), .val (.int (0 : Int32)), .val (.ref a127), .val (.int (1 : Int32)), .val (.ref b285), .unset, .unset, .unset] [(.ref b303), (.ref b303)])) _
          refine XS.aload X303.here hx rfl (hb hby at_176) rfl rfl ?_
          show Steps p.tables e below (T303.setTop (mkF m 178 #[.val (.int p1), .val (.int p2), .val (.int p3), .val (.int p4), .val (.int p5), .val (.int p6), .val (.ref b7), .val (.ref b17), .val (.ref b22), .val (.ref b72), .val (.int (0 : Int32)), .val (.ref a127), .val (.int (1 : Int32)), .val (.ref b285), .unset, .unset, .unset] [(.ref b22), (.ref b303), (.ref b303)])) _
          refine XS.aload X303.here hx rfl (hb hby at_178) rfl rfl ?_
          show Steps p.tables e below (T303.setTop (mkF m 180 #[.val (.int p1), .val (.int p2), .val (.int p3), .val (.int p4), .val (.int p5), .val (.int p6), .val (.ref b7), .val (.ref b17), .val (.ref b22), .val (.ref b72), .val (.int (0 : Int32)), .val (.ref a127), .val (.int (1 : Int32)), .val (.ref b285), .unset, .unset, .unset] [(.ref a127), (.ref b22), (.ref b303), (.ref b303)])) _
          refine XS.aload X303.here hx rfl (hb hby at_180) rfl rfl ?_
          show Steps p.tables e below (T303.setTop (mkF m 182 #[.val (.int p1), .val (.int p2), .val (.int p3), .val (.int p4), .val (.int p5), .val (.int p6), .val (.ref b7), .val (.ref b17), .val (.ref b22), .val (.ref b72), .val (.int (0 : Int32)), .val (.ref a127), .val (.int (1 : Int32)), .val (.ref b285), .unset, .unset, .unset] [(.ref b285), (.ref a127), (.ref b22), (.ref b303), (.ref b303)])) _
          refine st304.trans ?_
          show Steps p.tables e below (T304.setTop (mkF m 185 #[.val (.int p1), .val (.int p2), .val (.int p3), .val (.int p4), .val (.int p5), .val (.int p6), .val (.ref b7), .val (.ref b17), .val (.ref b22), .val (.ref b72), .val (.int (0 : Int32)), .val (.ref a127), .val (.int (1 : Int32)), .val (.ref b285), .unset, .unset, .unset] [(.ref b303)])) _
          refine XS.goto X304.here hx rfl (pc0 := 185) (pc' := 189) rfl (hb hby at_185) (by decide) (by decide) ?_
          show Steps p.tables e below (T304.setTop (mkF m 189 #[.val (.int p1), .val (.int p2), .val (.int p3), .val (.int p4), .val (.int p5), .val (.int p6), .val (.ref b7), .val (.ref b17), .val (.ref b22), .val (.ref b72), .val (.int (0 : Int32)), .val (.ref a127), .val (.int (1 : Int32)), .val (.ref b285), .unset, .unset, .unset] [(.ref b303)])) _
          refine XS.astore X304.here hx rfl (hb hby at_189) rfl rfl (l' := #[.val (.int p1), .val (.int p2), .val (.int p3), .val (.int p4), .val (.int p5), .val (.int p6), .val (.ref b7), .val (.ref b17), .val (.ref b22), .val (.ref b72), .val (.int (0 : Int32)), .val (.ref a127), .val (.int (1 : Int32)), .val (.ref b285), .val (.ref b303), .unset, .unset]) rfl ?_
          show Steps p.tables e below (T304.setTop (mkF m 191 #[.val (.int p1), .val (.int p2), .val (.int p3), .val (.int p4), .val (.int p5), .val (.int p6), .val (.ref b7), .val (.ref b17), .val (.ref b22), .val (.ref b72), .val (.int (0 : Int32)), .val (.ref a127), .val (.int (1 : Int32)), .val (.ref b285), .val (.ref b303), .unset, .unset] [])) _
          refine st312 _ ?_
          show Steps p.tables e below (T312.setTop (mkF m 194 #[.val (.int p1), .val (.int p2), .val (.int p3), .val (.int p4), .val (.int p5), .val (.int p6), .val (.ref b7), .val (.ref b17), .val (.ref b22), .val (.ref b72), .val (.int (0 : Int32)), .val (.ref a127), .val (.int (1 : Int32)), .val (.ref b285), .val (.ref b303), .unset, .unset] [(.ref b312)])) _
          refine XS.dup X312.here hx rfl (hb hby at_194) rfl rfl ?_
          show Steps p.tables e below (T312.setTop (mkF m 195 #[.val (.int p1), .val (.int p2), .val (.int p3), .val (.int p4), .val (.int p5), .val (.int p6), .val (.ref b7), .val (.ref b17), .val (.ref b22), .val (.ref b72), .val (.int (0 : Int32)), .val (.ref a127), .val (.int (1 : Int32)), .val (.ref b285), .val (.ref b303), .unset, .unset] [(.ref b312), (.ref b312)])) _
          refine XS.aload X312.here hx rfl (hb hby at_195) rfl rfl ?_
          show Steps p.tables e below (T312.setTop (mkF m 197 #[.val (.int p1), .val (.int p2), .val (.int p3), .val (.int p4), .val (.int p5), .val (.int p6), .val (.ref b7), .val (.ref b17), .val (.ref b22), .val (.ref b72), .val (.int (0 : Int32)), .val (.ref a127), .val (.int (1 : Int32)), .val (.ref b285), .val (.ref b303), .unset, .unset] [(.ref b303), (.ref b312), (.ref b312)])) _
          refine XS.aload X312.here hx rfl (hb hby at_197) rfl rfl ?_
          show Steps p.tables e below (T312.setTop (mkF m 199 #[.val (.int p1), .val (.int p2), .val (.int p3), .val (.int p4), .val (.int p5), .val (.int p6), .val (.ref b7), .val (.ref b17), .val (.ref b22), .val (.ref b72), .val (.int (0 : Int32)), .val (.ref a127), .val (.int (1 : Int32)), .val (.ref b285), .val (.ref b303), .unset, .unset] [(.ref b72), (.ref b303), (.ref b312), (.ref b312)])) _
          refine st313 _ ?_
          show Steps p.tables e below (T313.setTop (mkF m 202 #[.val (.int p1), .val (.int p2), .val (.int p3), .val (.int p4), .val (.int p5), .val (.int p6), .val (.ref b7), .val (.ref b17), .val (.ref b22), .val (.ref b72), .val (.int (0 : Int32)), .val (.ref a127), .val (.int (1 : Int32)), .val (.ref b285), .val (.ref b303), .unset, .unset] [(.ref b313), (.ref b72), (.ref b303), (.ref b312), (.ref b312)])) _
          refine XS.dup X313.here hx rfl (hb hby at_202) rfl rfl ?_
          show Steps p.tables e below (T313.setTop (mkF m 203 #[.val (.int p1), .val (.int p2), .val (.int p3), .val (.int p4), .val (.int p5), .val (.int p6), .val (.ref b7), .val (.ref b17), .val (.ref b22), .val (.ref b72), .val (.int (0 : Int32)), .val (.ref a127), .val (.int (1 : Int32)), .val (.ref b285), .val (.ref b303), .unset, .unset] [(.ref b313), (.ref b313), (.ref b72), (.ref b303), (.ref b312), (.ref b312)])) _
          refine XS.aload X313.here hx rfl (hb hby at_203) rfl rfl ?_
          show Steps p.tables e below (T313.setTop (mkF m 205 #[.val (.int p1), .val (.int p2), .val (.int p3), .val (.int p4), .val (.int p5), .val (.int p6), .val (.ref b7), .val (.ref b17), .val (.ref b22), .val (.ref b72), .val (.int (0 : Int32)), .val (.ref a127), .val (.int (1 : Int32)), .val (.ref b285), .val (.ref b303), .unset, .unset] [(.ref b7), (.ref b313), (.ref b313), (.ref b72), (.ref b303), (.ref b312), (.ref b312)])) _
          refine st315.trans ?_
          exact kt
        obtain rfl : i30 = i317 := (u320.trans u33.symm).symm
        obtain rfl : i29 = i316 := (u321.trans u34.symm).symm
        have f333 : Exa Z T315.heap b312 "com/example/stemline/stemline/graph/Edge" := ((Exa.ext E313 A312).keep Ku326)
        have f334 : Fld Z T315.heap b312 "com/example/stemline/stemline/graph/Edge" "file" "Ljava/lang/String;" .null := ((Fld.ext E313 D312_102).keep Ku326 (ninS (Nat.ne_of_lt (Nat.lt_of_lt_of_le lt_b312 bd_b313)) nin0))
        have f335 : Fld Z T315.heap b312 "com/example/stemline/stemline/graph/Edge" "line" "I" (.int (0 : Int32)) := ((Fld.ext E313 D312_104).keep Ku326 (ninS (Nat.ne_of_lt (Nat.lt_of_lt_of_le lt_b312 bd_b313)) nin0))
        have f336 : Fld Z T315.heap b312 "com/example/stemline/stemline/graph/Edge" "source" "Lcom/example/stemline/stemline/model/ColumnSource;" .null := ((Fld.ext E313 D312_98).keep Ku326 (ninS (Nat.ne_of_lt (Nat.lt_of_lt_of_le lt_b312 bd_b313)) nin0))
        have f337 : Fld Z T315.heap b312 "com/example/stemline/stemline/graph/Edge" "target" "Lcom/example/stemline/stemline/model/TableColumn;" .null := ((Fld.ext E313 D312_100).keep Ku326 (ninS (Nat.ne_of_lt (Nat.lt_of_lt_of_le lt_b312 bd_b313)) nin0))
        obtain ⟨_, _, ⟨T338, L338, k338, n338⟩, -, X338, sn338, gr338, ⟨Lc338, hQ338, l338, y338, z338⟩, st338⟩ := X315.specialBackS hx (y := M_12) rfl hown304 (mvT hZ304 (hw _ (gw 90 rfl))) (mvT hZ304 (hw _ (gw 91 rfl))) (mvT hZ304 (hw _ (gw 92 rfl))) (by decide) (backOfS (W := 1) (rm15_22 l Z a0 hw [] b312 b303 b72 b313 p5 T315.heap n0  Ou326 f333 f334 f335 f336 f337 g_b312) hZ304 (hw _ (gw 92 rfl)) (hw _ (gw 89 rfl)) (by decide) (by decide)) (g := (mkF m 210 #[.val (.int p1), .val (.int p2), .val (.int p3), .val (.int p4), .val (.int p5), .val (.int p6), .val (.ref b7), .val (.ref b17), .val (.ref b22), .val (.ref b72), .val (.int (0 : Int32)), .val (.ref a127), .val (.int (1 : Int32)), .val (.ref b285), .val (.ref b303), .unset, .unset] [(.int p5), (.ref b313), (.ref b72), (.ref b303), (.ref b312), (.ref b312)])) rfl (by rw [hml]; rfl) (Steps.refl _) (a := b312) (argsL := [(.ref b303), (.ref b72), (.ref b313), (.int p5)]) (rest := [(.ref b312)]) (lenOf pd_12 rfl) rfl (by show 2 * 0 + _ ≤ _; exact Nat.le_of_eq rfl) (hb hby at_210) (fun _ _ => ⟨rfl, rfl, (by decide : 30 + 4 ≤ _), (by decide : 182 + 48 ≤ _)⟩)
        dsimp only [Pt.U, Pt.locs, Pt.cells, Pt.slots] at X338 l338 y338 z338 st338 hQ338 sn338 gr338
        subst l338 y338 z338
        have gs338 : T315.heap.size ≤ T338.heap.size := gr338
        have hS338 : s.Since T338.vm T338.heap.size := hS304.trans sn338 (Nat.le_trans (Nat.le_trans (Nat.le_trans (Nat.le_trans (Nat.le_refl _) E312.1) E313.1) Ku326.1) gs338)
        have hZ338 : Z.Warmed39 (s.setVm T338.vm).vm := State.Warmed39.trans (t := (s.setVm T304.vm)) hZ304 sn338.1
        have hown338 : (s.setVm T338.vm).vm.findClass "com/example/stemline/stemline/graph/EdgeSourceColumnPinLaw" = some m.cls := by rw [show (s.setVm T338.vm).vm = T338.vm from rfl, sn338.1.alike.findClass]; exact hown304
        obtain ⟨rfl, u340, Ku341, u342, u343, u344, u345, u346⟩ := hQ338
        have Ou341 : Old Z n0 T338.heap := Ou326.keep Ku341 (allS g_b312 all0)
        have N338 := Fr.app N315 u340
        have f347 : Exa Z T338.heap b303 "com/example/stemline/stemline/model/ColumnSource" := (((Exa.ext E313 (Exa.ext E312 u308)).keep Ku326).keep Ku341)
        have f348 : Fld Z T338.heap b303 "com/example/stemline/stemline/model/ColumnSource" "column" "Lcom/example/stemline/stemline/model/TableColumn;" (.ref b22) := (((Fld.ext E313 (Fld.ext E312 u309)).keep Ku326 (ninS (Nat.ne_of_lt (Nat.lt_of_lt_of_le (Nat.lt_of_lt_of_le (Nat.lt_of_lt_of_le lt_b303 Ku307.1) E312.1) bd_b313)) nin0)).keep Ku341 (ninS (Nat.ne_of_lt (Nat.lt_of_lt_of_le (Nat.lt_of_lt_of_le lt_b303 Ku307.1) bd_b312)) nin0))
        obtain ⟨cq349, kq349, q349a, q349b, q349c⟩ := isOf hZ338 rfl u342
        obtain ⟨_, _, ⟨T349, L349, k349, n349⟩, -, X349, ⟨Lc349, hQ349, l349, y349, z349⟩, st349⟩ := X338.virtualBack hx (y := M_13) (z := M_13) hown338 (mvT hZ338 (hw _ (gw 105 rfl))) (mvT hZ338 (hw _ (gw 106 rfl))) (notFace_of_selects (args := #[]) (mvT hZ338 (hw _ (gw 108 rfl)))) (mvT hZ338 (hw _ (gw 108 rfl))) (mvT hZ338 (hw _ (gw 107 rfl))) (by decide) (backOf (W := 0) (rm16_23 l Z a0 hw [] b312 b303 b22 T338.heap n0  Ou341 u345 f347 f348) hZ338 (hw _ (gw 109 rfl)) (hw _ (gw 89 rfl)) (by decide) (by decide)) q349a q349c (g := (mkF m 217 #[.val (.int p1), .val (.int p2), .val (.int p3), .val (.int p4), .val (.int p5), .val (.int p6), .val (.ref b7), .val (.ref b17), .val (.ref b22), .val (.ref b72), .val (.int (0 : Int32)), .val (.ref a127), .val (.int (1 : Int32)), .val (.ref b285), .val (.ref b303), .val (.ref b312), .unset] [(.ref b312)])) rfl (by rw [hml]; rfl) (Steps.refl _) (argsL := []) (rest := []) (lenOf pd_13 rfl) rfl (by show 2 * 0 + _ ≤ _; exact Nat.le_of_eq rfl) (hb hby at_217) (fun _ _ => ⟨rfl, rfl, (by decide : 34 + 0 ≤ _), (by decide : 230 + 0 ≤ _)⟩)
        dsimp only [Pt.U, Pt.locs, Pt.cells, Pt.slots] at X349 l349 y349 z349 st349 hQ349
        subst l349 y349 z349
        obtain ⟨rfl, u351, u352⟩ := hQ349
        have N349 := Fr.app N338 u351
        obtain ⟨fs, hr, hrun, hended, hEnd⟩ := X349.leaveW (s := s) (vm₁ := T338.vm) hS338 (by rw [u352]; exact (Nat.le_refl _)) (v := some (.int (1 : Int32))) (fun h => by rw [Bd.returns] at h; cases h)
        refine ⟨_, _, pre332 _ ?_, hrun, hended, _, _, rfl, ?_, hEnd.1, hEnd.2.1, hEnd.2.2.1, hEnd.2.2.2.mono (by decide) (by decide)⟩
        · show Steps p.tables e below (T315.setTop (mkF m 208 #[.val (.int p1), .val (.int p2), .val (.int p3), .val (.int p4), .val (.int p5), .val (.int p6), .val (.ref b7), .val (.ref b17), .val (.ref b22), .val (.ref b72), .val (.int (0 : Int32)), .val (.ref a127), .val (.int (1 : Int32)), .val (.ref b285), .val (.ref b303), .unset, .unset] [(.ref b313), (.ref b72), (.ref b303), (.ref b312), (.ref b312)])) _
          refine XS.iload X315.here hx rfl (hb hby at_208) rfl ?_
          show Steps p.tables e below (T315.setTop (mkF m 210 #[.val (.int p1), .val (.int p2), .val (.int p3), .val (.int p4), .val (.int p5), .val (.int p6), .val (.ref b7), .val (.ref b17), .val (.ref b22), .val (.ref b72), .val (.int (0 : Int32)), .val (.ref a127), .val (.int (1 : Int32)), .val (.ref b285), .val (.ref b303), .unset, .unset] [(.int p5), (.ref b313), (.ref b72), (.ref b303), (.ref b312), (.ref b312)])) _
          refine st338.trans ?_
          show Steps p.tables e below (T338.setTop (mkF m 213 #[.val (.int p1), .val (.int p2), .val (.int p3), .val (.int p4), .val (.int p5), .val (.int p6), .val (.ref b7), .val (.ref b17), .val (.ref b22), .val (.ref b72), .val (.int (0 : Int32)), .val (.ref a127), .val (.int (1 : Int32)), .val (.ref b285), .val (.ref b303), .unset, .unset] [(.ref b312)])) _
          refine XS.astore X338.here hx rfl (hb hby at_213) rfl rfl (l' := #[.val (.int p1), .val (.int p2), .val (.int p3), .val (.int p4), .val (.int p5), .val (.int p6), .val (.ref b7), .val (.ref b17), .val (.ref b22), .val (.ref b72), .val (.int (0 : Int32)), .val (.ref a127), .val (.int (1 : Int32)), .val (.ref b285), .val (.ref b303), .val (.ref b312), .unset]) rfl ?_
          show Steps p.tables e below (T338.setTop (mkF m 215 #[.val (.int p1), .val (.int p2), .val (.int p3), .val (.int p4), .val (.int p5), .val (.int p6), .val (.ref b7), .val (.ref b17), .val (.ref b22), .val (.ref b72), .val (.int (0 : Int32)), .val (.ref a127), .val (.int (1 : Int32)), .val (.ref b285), .val (.ref b303), .val (.ref b312), .unset] [])) _
          refine XS.aload X338.here hx rfl (hb hby at_215) rfl rfl ?_
          show Steps p.tables e below (T338.setTop (mkF m 217 #[.val (.int p1), .val (.int p2), .val (.int p3), .val (.int p4), .val (.int p5), .val (.int p6), .val (.ref b7), .val (.ref b17), .val (.ref b22), .val (.ref b72), .val (.int (0 : Int32)), .val (.ref a127), .val (.int (1 : Int32)), .val (.ref b285), .val (.ref b303), .val (.ref b312), .unset] [(.ref b312)])) _
          refine st349.trans ?_
          show Steps p.tables e below (T349.setTop (mkF m 220 #[.val (.int p1), .val (.int p2), .val (.int p3), .val (.int p4), .val (.int p5), .val (.int p6), .val (.ref b7), .val (.ref b17), .val (.ref b22), .val (.ref b72), .val (.int (0 : Int32)), .val (.ref a127), .val (.int (1 : Int32)), .val (.ref b285), .val (.ref b303), .val (.ref b312), .unset] [(.ref b22)])) _
          refine XS.astore X349.here hx rfl (hb hby at_220) rfl rfl (l' := #[.val (.int p1), .val (.int p2), .val (.int p3), .val (.int p4), .val (.int p5), .val (.int p6), .val (.ref b7), .val (.ref b17), .val (.ref b22), .val (.ref b72), .val (.int (0 : Int32)), .val (.ref a127), .val (.int (1 : Int32)), .val (.ref b285), .val (.ref b303), .val (.ref b312), .val (.ref b22)]) rfl ?_
          show Steps p.tables e below (T349.setTop (mkF m 222 #[.val (.int p1), .val (.int p2), .val (.int p3), .val (.int p4), .val (.int p5), .val (.int p6), .val (.ref b7), .val (.ref b17), .val (.ref b22), .val (.ref b72), .val (.int (0 : Int32)), .val (.ref a127), .val (.int (1 : Int32)), .val (.ref b285), .val (.ref b303), .val (.ref b312), .val (.ref b22)] [])) _
          refine XS.iload X349.here hx rfl (hb hby at_222) rfl ?_
          show Steps p.tables e below (T349.setTop (mkF m 224 #[.val (.int p1), .val (.int p2), .val (.int p3), .val (.int p4), .val (.int p5), .val (.int p6), .val (.ref b7), .val (.ref b17), .val (.ref b22), .val (.ref b72), .val (.int (0 : Int32)), .val (.ref a127), .val (.int (1 : Int32)), .val (.ref b285), .val (.ref b303), .val (.ref b312), .val (.ref b22)] [(.int (1 : Int32))])) _
          refine XS.ifYes X349.here hx rfl (pc0 := 224) (pc' := 238) rfl (hb hby at_224) rfl ((if0 _ _).trans (feq (by decide +kernel : ¬ ((1 : Int32) = (0 : Int32)))).2) (by decide) (by decide) ?_
          show Steps p.tables e below (T349.setTop (mkF m 238 #[.val (.int p1), .val (.int p2), .val (.int p3), .val (.int p4), .val (.int p5), .val (.int p6), .val (.ref b7), .val (.ref b17), .val (.ref b22), .val (.ref b72), .val (.int (0 : Int32)), .val (.ref a127), .val (.int (1 : Int32)), .val (.ref b285), .val (.ref b303), .val (.ref b312), .val (.ref b22)] [])) _
          refine XS.aload X349.here hx rfl (hb hby at_238) rfl rfl ?_
          show Steps p.tables e below (T349.setTop (mkF m 240 #[.val (.int p1), .val (.int p2), .val (.int p3), .val (.int p4), .val (.int p5), .val (.int p6), .val (.ref b7), .val (.ref b17), .val (.ref b22), .val (.ref b72), .val (.int (0 : Int32)), .val (.ref a127), .val (.int (1 : Int32)), .val (.ref b285), .val (.ref b303), .val (.ref b312), .val (.ref b22)] [(.ref b22)])) _
          refine XS.aload X349.here hx rfl (hb hby at_240) rfl rfl ?_
          show Steps p.tables e below (T349.setTop (mkF m 242 #[.val (.int p1), .val (.int p2), .val (.int p3), .val (.int p4), .val (.int p5), .val (.int p6), .val (.ref b7), .val (.ref b17), .val (.ref b22), .val (.ref b72), .val (.int (0 : Int32)), .val (.ref a127), .val (.int (1 : Int32)), .val (.ref b285), .val (.ref b303), .val (.ref b312), .val (.ref b22)] [(.ref b22), (.ref b22)])) _
          refine Jvm.RoadKit.acmp (g := (mkF m 242 #[.val (.int p1), .val (.int p2), .val (.int p3), .val (.int p4), .val (.int p5), .val (.int p6), .val (.ref b7), .val (.ref b17), .val (.ref b22), .val (.ref b72), .val (.int (0 : Int32)), .val (.ref a127), .val (.int (1 : Int32)), .val (.ref b285), .val (.ref b303), .val (.ref b312), .val (.ref b22)] [(.ref b22), (.ref b22)])) X349 hx rfl rfl rfl (pc0 := 242) (pc' := 245) (same := true) rfl (hb hby at_242) rfl (decide_eq_true rfl) (by decide) (by decide) ?_
          show Steps p.tables e below (T349.setTop (mkF m 245 #[.val (.int p1), .val (.int p2), .val (.int p3), .val (.int p4), .val (.int p5), .val (.int p6), .val (.ref b7), .val (.ref b17), .val (.ref b22), .val (.ref b72), .val (.int (0 : Int32)), .val (.ref a127), .val (.int (1 : Int32)), .val (.ref b285), .val (.ref b303), .val (.ref b312), .val (.ref b22)] [])) _
          refine XS.iconst X349.here hx rfl (hb hby at_245) ?_
          show Steps p.tables e below (T349.setTop (mkF m 246 #[.val (.int p1), .val (.int p2), .val (.int p3), .val (.int p4), .val (.int p5), .val (.int p6), .val (.ref b7), .val (.ref b17), .val (.ref b22), .val (.ref b72), .val (.int (0 : Int32)), .val (.ref a127), .val (.int (1 : Int32)), .val (.ref b285), .val (.ref b303), .val (.ref b312), .val (.ref b22)] [(.int (1 : Int32))])) _
          refine XS.goto X349.here hx rfl (pc0 := 246) (pc' := 250) rfl (hb hby at_246) (by decide) (by decide) ?_
          show Steps p.tables e below (T349.setTop (mkF m 250 #[.val (.int p1), .val (.int p2), .val (.int p3), .val (.int p4), .val (.int p5), .val (.int p6), .val (.ref b7), .val (.ref b17), .val (.ref b22), .val (.ref b72), .val (.int (0 : Int32)), .val (.ref a127), .val (.int (1 : Int32)), .val (.ref b285), .val (.ref b303), .val (.ref b312), .val (.ref b22)] [(.int (1 : Int32))])) _
          exact retN X349 hx (t := .boolean) Bd.returns (by simp) (hb hby at_250) hr
        · show Q0 Z _ _ _ _ _ _ _ _ _ _ h0 n0 _ T349.heap _
          rw [u352]
          exact ⟨rfl, N349⟩
  · skip
    have pre353 : ∀ t, Steps p.tables e below (T116.setTop (mkF m 116 #[.val (.int p1), .val (.int p2), .val (.int p3), .val (.int p4), .val (.int p5), .val (.int p6), .val (.ref b7), .val (.ref b17), .val (.ref b22), .val (.ref b72), .val (.int i124), .unset, .unset, .unset, .unset, .unset, .unset] [(.int (1 : Int32)), (.int i124)])) t → Steps p.tables e below (s₁.setTop (entryFrame m #[(.int p1), (.int p2), (.int p3), (.int p4), (.int p5), (.int p6)] maxLocals)) t := by
      intro t kt
      refine pre125 t ?_
      show Steps p.tables e below (T116.setTop (mkF m 104 #[.val (.int p1), .val (.int p2), .val (.int p3), .val (.int p4), .val (.int p5), .val (.int p6), .val (.ref b7), .val (.ref b17), .val (.ref b22), .val (.ref b72), .val (.int i124), .unset, .unset, .unset, .unset, .unset, .unset] [(.int i124)])) _
      refine XS.ifYes X116.here hx rfl (pc0 := 104) (pc' := 113) rfl (hb hby at_104) rfl ((if0 _ _).trans (feq hc126).2) (by decide) (by decide) ?_
      show Steps p.tables e below (T116.setTop (mkF m 113 #[.val (.int p1), .val (.int p2), .val (.int p3), .val (.int p4), .val (.int p5), .val (.int p6), .val (.ref b7), .val (.ref b17), .val (.ref b22), .val (.ref b72), .val (.int i124), .unset, .unset, .unset, .unset, .unset, .unset] [])) _
      refine XS.iload X116.here hx rfl (hb hby at_113) rfl ?_
      show Steps p.tables e below (T116.setTop (mkF m 115 #[.val (.int p1), .val (.int p2), .val (.int p3), .val (.int p4), .val (.int p5), .val (.int p6), .val (.ref b7), .val (.ref b17), .val (.ref b22), .val (.ref b72), .val (.int i124), .unset, .unset, .unset, .unset, .unset, .unset] [(.int i124)])) _
      refine XS.iconst X116.here hx rfl (hb hby at_115) ?_
      exact kt
    by_cases hc354 : i124 = (1 : Int32)
    · skip
      subst hc354
      obtain ⟨T357, X357, e357, st357⟩ := getS2 X116 hx hZ116 hown116 (host := "") (Or.inl (hw _ (gw 68 rfl))) Via.refl rfl (Sta.ext Ou119.2 S_356) (g := (mkF m 119 #[.val (.int p1), .val (.int p2), .val (.int p3), .val (.int p4), .val (.int p5), .val (.int p6), .val (.ref b7), .val (.ref b17), .val (.ref b22), .val (.ref b72), .val (.int (1 : Int32)), .unset, .unset, .unset, .unset, .unset, .unset] [])) rfl (hb hby at_119)
      obtain ⟨i358, hi358⟩ : ∃ z, z = (p6 &&& (1 : Int32)) := ⟨_, rfl⟩
      have pre359 : ∀ t, Steps p.tables e below (T357.setTop (mkF m 134 #[.val (.int p1), .val (.int p2), .val (.int p3), .val (.int p4), .val (.int p5), .val (.int p6), .val (.ref b7), .val (.ref b17), .val (.ref b22), .val (.ref b72), .val (.int (1 : Int32)), .val (.ref a355), .unset, .unset, .unset, .unset, .unset] [(.int i358)])) t → Steps p.tables e below (s₁.setTop (entryFrame m #[(.int p1), (.int p2), (.int p3), (.int p4), (.int p5), (.int p6)] maxLocals)) t := by
        intro t kt
        refine pre353 t ?_
        show Steps p.tables e below (T116.setTop (mkF m 116 #[.val (.int p1), .val (.int p2), .val (.int p3), .val (.int p4), .val (.int p5), .val (.int p6), .val (.ref b7), .val (.ref b17), .val (.ref b22), .val (.ref b72), .val (.int (1 : Int32)), .unset, .unset, .unset, .unset, .unset, .unset] [(.int (1 : Int32)), (.int (1 : Int32))])) _
        refine XS.icmpNo X116.here hx rfl (hb hby at_116) rfl (teq (by decide +kernel : (1 : Int32) = (1 : Int32))).2 ?_
        show Steps p.tables e below (T116.setTop (mkF m 119 #[.val (.int p1), .val (.int p2), .val (.int p3), .val (.int p4), .val (.int p5), .val (.int p6), .val (.ref b7), .val (.ref b17), .val (.ref b22), .val (.ref b72), .val (.int (1 : Int32)), .unset, .unset, .unset, .unset, .unset, .unset] [])) _
        refine st357 _ ?_
        show Steps p.tables e below (T357.setTop (mkF m 122 #[.val (.int p1), .val (.int p2), .val (.int p3), .val (.int p4), .val (.int p5), .val (.int p6), .val (.ref b7), .val (.ref b17), .val (.ref b22), .val (.ref b72), .val (.int (1 : Int32)), .unset, .unset, .unset, .unset, .unset, .unset] [(.ref a355)])) _
        refine XS.goto X357.here hx rfl (pc0 := 122) (pc' := 128) rfl (hb hby at_122) (by decide) (by decide) ?_
        show Steps p.tables e below (T357.setTop (mkF m 128 #[.val (.int p1), .val (.int p2), .val (.int p3), .val (.int p4), .val (.int p5), .val (.int p6), .val (.ref b7), .val (.ref b17), .val (.ref b22), .val (.ref b72), .val (.int (1 : Int32)), .unset, .unset, .unset, .unset, .unset, .unset] [(.ref a355)])) _
        refine XS.astore X357.here hx rfl (hb hby at_128) rfl rfl (l' := #[.val (.int p1), .val (.int p2), .val (.int p3), .val (.int p4), .val (.int p5), .val (.int p6), .val (.ref b7), .val (.ref b17), .val (.ref b22), .val (.ref b72), .val (.int (1 : Int32)), .val (.ref a355), .unset, .unset, .unset, .unset, .unset]) rfl ?_
        show Steps p.tables e below (T357.setTop (mkF m 130 #[.val (.int p1), .val (.int p2), .val (.int p3), .val (.int p4), .val (.int p5), .val (.int p6), .val (.ref b7), .val (.ref b17), .val (.ref b22), .val (.ref b72), .val (.int (1 : Int32)), .val (.ref a355), .unset, .unset, .unset, .unset, .unset] [])) _
        refine XS.iload X357.here hx rfl (hb hby at_130) rfl ?_
        show Steps p.tables e below (T357.setTop (mkF m 132 #[.val (.int p1), .val (.int p2), .val (.int p3), .val (.int p4), .val (.int p5), .val (.int p6), .val (.ref b7), .val (.ref b17), .val (.ref b22), .val (.ref b72), .val (.int (1 : Int32)), .val (.ref a355), .unset, .unset, .unset, .unset, .unset] [(.int p6)])) _
        refine XS.iconst X357.here hx rfl (hb hby at_132) ?_
        show Steps p.tables e below (T357.setTop (mkF m 133 #[.val (.int p1), .val (.int p2), .val (.int p3), .val (.int p4), .val (.int p5), .val (.int p6), .val (.ref b7), .val (.ref b17), .val (.ref b22), .val (.ref b72), .val (.int (1 : Int32)), .val (.ref a355), .unset, .unset, .unset, .unset, .unset] [(.int (1 : Int32)), (.int p6)])) _
        refine XS.iand X357.here hx rfl (hb hby at_133) rfl ?_
        show Steps p.tables e below (T357.setTop (mkF m 134 #[.val (.int p1), .val (.int p2), .val (.int p3), .val (.int p4), .val (.int p5), .val (.int p6), .val (.ref b7), .val (.ref b17), .val (.ref b22), .val (.ref b72), .val (.int (1 : Int32)), .val (.ref a355), .unset, .unset, .unset, .unset, .unset] [(.int (p6 &&& (1 : Int32)))])) _
        rw [← hi358]
        exact kt
      by_cases hc360 : i358 = (0 : Int32)
      · skip
        subst hc360
        obtain ⟨i361, hi361⟩ : ∃ z, z = (p6 &&& (8 : Int32)) := ⟨_, rfl⟩
        have pre362 : ∀ t, Steps p.tables e below (T357.setTop (mkF m 149 #[.val (.int p1), .val (.int p2), .val (.int p3), .val (.int p4), .val (.int p5), .val (.int p6), .val (.ref b7), .val (.ref b17), .val (.ref b22), .val (.ref b72), .val (.int (1 : Int32)), .val (.ref a355), .val (.int (0 : Int32)), .unset, .unset, .unset, .unset] [(.int i361)])) t → Steps p.tables e below (s₁.setTop (entryFrame m #[(.int p1), (.int p2), (.int p3), (.int p4), (.int p5), (.int p6)] maxLocals)) t := by
          intro t kt
          refine pre359 t ?_
          show Steps p.tables e below (T357.setTop (mkF m 134 #[.val (.int p1), .val (.int p2), .val (.int p3), .val (.int p4), .val (.int p5), .val (.int p6), .val (.ref b7), .val (.ref b17), .val (.ref b22), .val (.ref b72), .val (.int (1 : Int32)), .val (.ref a355), .unset, .unset, .unset, .unset, .unset] [(.int (0 : Int32))])) _
          refine XS.ifYes X357.here hx rfl (pc0 := 134) (pc' := 141) rfl (hb hby at_134) rfl ((if0 _ _).trans (teq (by decide +kernel : (0 : Int32) = (0 : Int32))).1) (by decide) (by decide) ?_
          show Steps p.tables e below (T357.setTop (mkF m 141 #[.val (.int p1), .val (.int p2), .val (.int p3), .val (.int p4), .val (.int p5), .val (.int p6), .val (.ref b7), .val (.ref b17), .val (.ref b22), .val (.ref b72), .val (.int (1 : Int32)), .val (.ref a355), .unset, .unset, .unset, .unset, .unset] [])) _
          refine XS.iconst X357.here hx rfl (hb hby at_141) ?_
          show Steps p.tables e below (T357.setTop (mkF m 142 #[.val (.int p1), .val (.int p2), .val (.int p3), .val (.int p4), .val (.int p5), .val (.int p6), .val (.ref b7), .val (.ref b17), .val (.ref b22), .val (.ref b72), .val (.int (1 : Int32)), .val (.ref a355), .unset, .unset, .unset, .unset, .unset] [(.int (0 : Int32))])) _
          refine XS.istore X357.here hx rfl (hb hby at_142) rfl (l' := #[.val (.int p1), .val (.int p2), .val (.int p3), .val (.int p4), .val (.int p5), .val (.int p6), .val (.ref b7), .val (.ref b17), .val (.ref b22), .val (.ref b72), .val (.int (1 : Int32)), .val (.ref a355), .val (.int (0 : Int32)), .unset, .unset, .unset, .unset]) rfl ?_
          show Steps p.tables e below (T357.setTop (mkF m 144 #[.val (.int p1), .val (.int p2), .val (.int p3), .val (.int p4), .val (.int p5), .val (.int p6), .val (.ref b7), .val (.ref b17), .val (.ref b22), .val (.ref b72), .val (.int (1 : Int32)), .val (.ref a355), .val (.int (0 : Int32)), .unset, .unset, .unset, .unset] [])) _
          refine XS.iload X357.here hx rfl (hb hby at_144) rfl ?_
          show Steps p.tables e below (T357.setTop (mkF m 146 #[.val (.int p1), .val (.int p2), .val (.int p3), .val (.int p4), .val (.int p5), .val (.int p6), .val (.ref b7), .val (.ref b17), .val (.ref b22), .val (.ref b72), .val (.int (1 : Int32)), .val (.ref a355), .val (.int (0 : Int32)), .unset, .unset, .unset, .unset] [(.int p6)])) _
          refine XS.bipush X357.here hx rfl (hb hby at_146) ?_
          show Steps p.tables e below (T357.setTop (mkF m 148 #[.val (.int p1), .val (.int p2), .val (.int p3), .val (.int p4), .val (.int p5), .val (.int p6), .val (.ref b7), .val (.ref b17), .val (.ref b22), .val (.ref b72), .val (.int (1 : Int32)), .val (.ref a355), .val (.int (0 : Int32)), .unset, .unset, .unset, .unset] [(.int (8 : Int32)), (.int p6)])) _
          refine XS.iand X357.here hx rfl (hb hby at_148) rfl ?_
          show Steps p.tables e below (T357.setTop (mkF m 149 #[.val (.int p1), .val (.int p2), .val (.int p3), .val (.int p4), .val (.int p5), .val (.int p6), .val (.ref b7), .val (.ref b17), .val (.ref b22), .val (.ref b72), .val (.int (1 : Int32)), .val (.ref a355), .val (.int (0 : Int32)), .unset, .unset, .unset, .unset] [(.int (p6 &&& (8 : Int32)))])) _
          rw [← hi361]
          exact kt
        by_cases hc363 : i361 = (0 : Int32)
        · skip
          subst hc363
          obtain ⟨T364, h364, X364, e364, E364, A364, D364, -, st364⟩ := newO X357 hx hZ116 hown116 (hw _ (gw 87 rfl)) (hw _ (gw 88 rfl)) (hw _ (gw 89 rfl)) e357 (g := (mkF m 191 #[.val (.int p1), .val (.int p2), .val (.int p3), .val (.int p4), .val (.int p5), .val (.int p6), .val (.ref b7), .val (.ref b17), .val (.ref b22), .val (.ref b72), .val (.int (1 : Int32)), .val (.ref a355), .val (.int (0 : Int32)), .val .null, .val .null, .unset, .unset] [])) rfl (hb hby at_191) (by decide) (by decide)
          obtain ⟨b364, g364⟩ : ∃ z, z = T116.heap.size := ⟨_, rfl⟩
          rw [← g364] at A364 D364 st364
          have O364 : Old Z n0 h364 := Ou119.ext E364
          have bd_b364 : T116.heap.size ≤ b364 := Nat.le_of_eq g364.symm
          have g_b364 : n0 ≤ b364 := Nat.le_trans (own_z Ou119) bd_b364
          have sz_b364 : h0.size ≤ b364 := Nat.le_trans (Nat.le_trans (Nat.le_trans (Nat.le_trans (Nat.le_trans (Nat.le_trans (Nat.le_trans (Nat.le_trans (Nat.le_trans (Nat.le_trans (Nat.le_trans (Nat.le_trans (Nat.le_trans (Nat.le_trans (Nat.le_trans E7.1 (Keep.of_wr W11).1) (Keep.of_wr W16).1) E17.1) (Keep.of_wr W21).1) E22.1) E23.1) Ku39.1) E45.1) Ku56.1) Ku68.1) E72.1) Ku87.1) Ku107.1) Ku119.1) bd_b364
          have lt_b364 : b364 < h364.size := A364.lt
          have D364_98 : Fld Z h364 b364 "com/example/stemline/stemline/graph/Edge" "source" "Lcom/example/stemline/stemline/model/ColumnSource;" .null := D364 (Or.inr (hw _ (gw 98 rfl))) (ty := (.object "com/example/stemline/stemline/model/ColumnSource")) (by decide)
          have D364_100 : Fld Z h364 b364 "com/example/stemline/stemline/graph/Edge" "target" "Lcom/example/stemline/stemline/model/TableColumn;" .null := D364 (Or.inr (hw _ (gw 100 rfl))) (ty := (.object "com/example/stemline/stemline/model/TableColumn")) (by decide)
          have D364_102 : Fld Z h364 b364 "com/example/stemline/stemline/graph/Edge" "file" "Ljava/lang/String;" .null := D364 (Or.inr (hw _ (gw 102 rfl))) (ty := (.object "java/lang/String")) (by decide)
          have D364_104 : Fld Z h364 b364 "com/example/stemline/stemline/graph/Edge" "line" "I" (.int (0 : Int32)) := D364 (Or.inr (hw _ (gw 104 rfl))) (ty := .int) (by decide)
          obtain ⟨T365, h365, X365, e365, E365, A365, D365, -, st365⟩ := newO X364 hx hZ116 hown116 (hw _ (gw 4 rfl)) (hw _ (gw 5 rfl)) (hw _ (gw 6 rfl)) e364 (g := (mkF m 199 #[.val (.int p1), .val (.int p2), .val (.int p3), .val (.int p4), .val (.int p5), .val (.int p6), .val (.ref b7), .val (.ref b17), .val (.ref b22), .val (.ref b72), .val (.int (1 : Int32)), .val (.ref a355), .val (.int (0 : Int32)), .val .null, .val .null, .unset, .unset] [(.ref b72), .null, (.ref b364), (.ref b364)])) rfl (hb hby at_199) (by decide) (by decide)
          obtain ⟨b365, g365⟩ : ∃ z, z = h364.size := ⟨_, rfl⟩
          rw [← g365] at A365 D365 st365
          have O365 : Old Z n0 h365 := O364.ext E365
          have bd_b365 : h364.size ≤ b365 := Nat.le_of_eq g365.symm
          have g_b365 : n0 ≤ b365 := Nat.le_trans (own_z O364) bd_b365
          have sz_b365 : h0.size ≤ b365 := Nat.le_trans (Nat.le_trans (Nat.le_trans (Nat.le_trans (Nat.le_trans (Nat.le_trans (Nat.le_trans (Nat.le_trans (Nat.le_trans (Nat.le_trans (Nat.le_trans (Nat.le_trans (Nat.le_trans (Nat.le_trans (Nat.le_trans (Nat.le_trans E7.1 (Keep.of_wr W11).1) (Keep.of_wr W16).1) E17.1) (Keep.of_wr W21).1) E22.1) E23.1) Ku39.1) E45.1) Ku56.1) Ku68.1) E72.1) Ku87.1) Ku107.1) Ku119.1) E364.1) bd_b365
          have lt_b365 : b365 < h365.size := A365.lt
          have D365_30 : Fld Z h365 b365 "java/lang/String" "coder" "B" (.int (0 : Int32)) := D365 (Or.inr (hw _ (gw 30 rfl))) (ty := .byte) (by decide)
          have D365_32 : Fld Z h365 b365 "java/lang/String" "value" "[B" .null := D365 (Or.inr (hw _ (gw 32 rfl))) (ty := (.array .byte)) (by decide)
          have f366 : Arv Z h365 b7 k7 .char (2 : Int32) [(.int i8), (.int i13)] (.int (0 : Int32)) := ((((((((((f27.keep Ku39 (ninS (Nat.ne_of_lt (Nat.lt_of_lt_of_le (Nat.lt_of_lt_of_le (Nat.lt_of_lt_of_le (Nat.lt_of_lt_of_le (Nat.lt_of_lt_of_le (Nat.lt_of_lt_of_le lt_b7 (Keep.of_wr W11).1) (Keep.of_wr W16).1) E17.1) (Keep.of_wr W21).1) E22.1) bd_b23)) nin0)).ext E45).keep Ku56 (ninS (Nat.ne_of_lt (Nat.lt_of_lt_of_le (Nat.lt_of_lt_of_le (Nat.lt_of_lt_of_le (Nat.lt_of_lt_of_le (Nat.lt_of_lt_of_le (Nat.lt_of_lt_of_le (Nat.lt_of_lt_of_le (Nat.lt_of_lt_of_le lt_b7 (Keep.of_wr W11).1) (Keep.of_wr W16).1) E17.1) (Keep.of_wr W21).1) E22.1) E23.1) Ku39.1) bd_b45)) nin0)).keep Ku68 (ninS (Nat.ne_of_lt (Nat.lt_of_lt_of_le (Nat.lt_of_lt_of_le (Nat.lt_of_lt_of_le (Nat.lt_of_lt_of_le (Nat.lt_of_lt_of_le lt_b7 (Keep.of_wr W11).1) (Keep.of_wr W16).1) E17.1) (Keep.of_wr W21).1) bd_b22)) nin0)).ext E72).keep Ku87 nin0).keep Ku107 nin0).keep Ku119 (ninS (Nat.ne_of_lt (Nat.lt_of_lt_of_le (Nat.lt_of_lt_of_le (Nat.lt_of_lt_of_le (Nat.lt_of_lt_of_le (Nat.lt_of_lt_of_le (Nat.lt_of_lt_of_le (Nat.lt_of_lt_of_le (Nat.lt_of_lt_of_le (Nat.lt_of_lt_of_le (Nat.lt_of_lt_of_le (Nat.lt_of_lt_of_le lt_b7 (Keep.of_wr W11).1) (Keep.of_wr W16).1) E17.1) (Keep.of_wr W21).1) E22.1) E23.1) Ku39.1) E45.1) Ku56.1) Ku68.1) bd_b72)) nin0)).ext E364).ext E365)
          obtain ⟨_, _, ⟨T367, L367, k367, n367⟩, -, X367, ⟨Lc367, hQ367, l367, y367, z367⟩, st367⟩ := X365.specialBack hx (y := M_4) rfl hown116 (mvT hZ116 (hw _ (gw 7 rfl))) (mvT hZ116 (hw _ (gw 8 rfl))) (mvT hZ116 (hw _ (gw 9 rfl))) (by decide) (backOf (W := 5) (rm1_2 l Z a0 hw [] b365 b7 i8 i13 k7 p24 h365 n0  O365 f366 S_25 hk26 (own_lt255 hi8) (own_lt255 hi13) A365 D365_30 D365_32 (Nat.lt_of_lt_of_le (Nat.lt_of_lt_of_le (Nat.lt_of_lt_of_le (Nat.lt_of_lt_of_le (Nat.lt_of_lt_of_le (Nat.lt_of_lt_of_le (Nat.lt_of_lt_of_le (Nat.lt_of_lt_of_le (Nat.lt_of_lt_of_le (Nat.lt_of_lt_of_le (Nat.lt_of_lt_of_le (Nat.lt_of_lt_of_le (Nat.lt_of_lt_of_le (Nat.lt_of_lt_of_le (Nat.lt_of_lt_of_le (Nat.lt_of_lt_of_le lt_b7 (Keep.of_wr W11).1) (Keep.of_wr W16).1) E17.1) (Keep.of_wr W21).1) E22.1) E23.1) Ku39.1) E45.1) Ku56.1) Ku68.1) E72.1) Ku87.1) Ku107.1) Ku119.1) E364.1) E365.1) g_b365 lt_b365) hZ116 (hw _ (gw 9 rfl)) (hw _ (gw 6 rfl)) (by decide) (by decide)) (g := (mkF m 205 #[.val (.int p1), .val (.int p2), .val (.int p3), .val (.int p4), .val (.int p5), .val (.int p6), .val (.ref b7), .val (.ref b17), .val (.ref b22), .val (.ref b72), .val (.int (1 : Int32)), .val (.ref a355), .val (.int (0 : Int32)), .val .null, .val .null, .unset, .unset] [(.ref b7), (.ref b365), (.ref b365), (.ref b72), .null, (.ref b364), (.ref b364)])) rfl (by rw [hml]; rfl) (Steps.refl _) (a := b365) (argsL := [(.ref b7)]) (rest := [(.ref b365), (.ref b72), .null, (.ref b364), (.ref b364)]) (lenOf pd_4 rfl) rfl (by show 2 * 0 + _ ≤ _; exact Nat.le_of_eq rfl) (hb hby at_205) (fun _ _ => ⟨rfl, e365, (by decide : 22 + 1 ≤ _), (by decide : 124 + 2 ≤ _)⟩)
          dsimp only [Pt.U, Pt.locs, Pt.cells, Pt.slots] at X367 l367 y367 z367 st367 hQ367
          subst l367 y367 z367
          obtain ⟨i368, i369, b370, k371, u372, u373, rfl, u375, u376, u377, Ku378, u379, u380, u381, u382, u383⟩ := hQ367
          have Ou378 : Old Z n0 T367.heap := O365.keep Ku378 (allS g_b365 all0)
          have g_b370 : n0 ≤ b370 := Nat.le_trans (own_z O365) u376
          have sz_b370 : h0.size ≤ b370 := Nat.le_trans (Nat.le_trans (Nat.le_trans (Nat.le_trans (Nat.le_trans (Nat.le_trans (Nat.le_trans (Nat.le_trans (Nat.le_trans (Nat.le_trans (Nat.le_trans (Nat.le_trans (Nat.le_trans (Nat.le_trans (Nat.le_trans (Nat.le_trans (Nat.le_trans E7.1 (Keep.of_wr W11).1) (Keep.of_wr W16).1) E17.1) (Keep.of_wr W21).1) E22.1) E23.1) Ku39.1) E45.1) Ku56.1) Ku68.1) E72.1) Ku87.1) Ku107.1) Ku119.1) E364.1) E365.1) u376
          have N367 := Fr.app N116 u375
          have pre384 : ∀ t, Steps p.tables e below (T367.setTop (mkF m 208 #[.val (.int p1), .val (.int p2), .val (.int p3), .val (.int p4), .val (.int p5), .val (.int p6), .val (.ref b7), .val (.ref b17), .val (.ref b22), .val (.ref b72), .val (.int (1 : Int32)), .val (.ref a355), .val (.int (0 : Int32)), .val .null, .val .null, .unset, .unset] [(.ref b365), (.ref b72), .null, (.ref b364), (.ref b364)])) t → Steps p.tables e below (s₁.setTop (entryFrame m #[(.int p1), (.int p2), (.int p3), (.int p4), (.int p5), (.int p6)] maxLocals)) t := by
            intro t kt
            refine pre362 t ?_
            show Steps p.tables e below (T357.setTop (mkF m 149 #[.val (.int p1), .val (.int p2), .val (.int p3), .val (.int p4), .val (.int p5), .val (.int p6), .val (.ref b7), .val (.ref b17), .val (.ref b22), .val (.ref b72), .val (.int (1 : Int32)), .val (.ref a355), .val (.int (0 : Int32)), .unset, .unset, .unset, .unset] [(.int (0 : Int32))])) _
            refine XS.ifYes X357.here hx rfl (pc0 := 149) (pc' := 164) rfl (hb hby at_149) rfl ((if0 _ _).trans (teq (by decide +kernel : (0 : Int32) = (0 : Int32))).1) (by decide) (by decide) ?_
            show Steps p.tables e below (T357.setTop (mkF m 164 #[.val (.int p1), .val (.int p2), .val (.int p3), .val (.int p4), .val (.int p5), .val (.int p6), .val (.ref b7), .val (.ref b17), .val (.ref b22), .val (.ref b72), .val (.int (1 : Int32)), .val (.ref a355), .val (.int (0 : Int32)), .unset, .unset, .unset, .unset] [])) _
            refine XS.aconstNull X357.here hx rfl (hb hby at_164) ?_
            show Steps p.tables e below (T357.setTop (mkF m 165 #[.val (.int p1), .val (.int p2), .val (.int p3), .val (.int p4), .val (.int p5), .val (.int p6), .val (.ref b7), .val (.ref b17), .val (.ref b22), .val (.ref b72), .val (.int (1 : Int32)), .val (.ref a355), .val (.int (0 : Int32)), .unset, .unset, .unset, .unset] [.null])) _
            refine XS.astore X357.here hx rfl (hb hby at_165) rfl rfl (l' := #[.val (.int p1), .val (.int p2), .val (.int p3), .val (.int p4), .val (.int p5), .val (.int p6), .val (.ref b7), .val (.ref b17), .val (.ref b22), .val (.ref b72), .val (.int (1 : Int32)), .val (.ref a355), .val (.int (0 : Int32)), .val .null, .unset, .unset, .unset]) rfl ?_
            show Steps p.tables e below (T357.setTop (mkF m 167 #[.val (.int p1), .val (.int p2), .val (.int p3), .val (.int p4), .val (.int p5), .val (.int p6), .val (.ref b7), .val (.ref b17), .val (.ref b22), .val (.ref b72), .val (.int (1 : Int32)), .val (.ref a355), .val (.int (0 : Int32)), .val .null, .unset, .unset, .unset] [])) _
            refine XS.iload X357.here hx rfl (hb hby at_167) rfl ?_
            show Steps p.tables e below (T357.setTop (mkF m 169 #[.val (.int p1), .val (.int p2), .val (.int p3), .val (.int p4), .val (.int p5), .val (.int p6), .val (.ref b7), .val (.ref b17), .val (.ref b22), .val (.ref b72), .val (.int (1 : Int32)), .val (.ref a355), .val (.int (0 : Int32)), .val .null, .unset, .unset, .unset] [(.int (0 : Int32))])) _
            refine XS.ifYes X357.here hx rfl (pc0 := 169) (pc' := 188) rfl (hb hby at_169) rfl ((if0 _ _).trans (teq (by decide +kernel : (0 : Int32) = (0 : Int32))).1) (by decide) (by decide) ?_
            show Steps p.tables e below (T357.setTop (mkF m 188 #[.val (.int p1), .val (.int p2), .val (.int p3), .val (.int p4), .val (.int p5), .val (.int p6), .val (.ref b7), .val (.ref b17), .val (.ref b22), .val (.ref b72), .val (.int (1 : Int32)), .val (.ref a355), .val (.int (0 : Int32)), .val .null, .unset, .unset, .unset] [])) _
            refine XS.aconstNull X357.here hx rfl (hb hby at_188) ?_
            show Steps p.tables e below (T357.setTop (mkF m 189 #[.val (.int p1), .val (.int p2), .val (.int p3), .val (.int p4), .val (.int p5), .val (.int p6), .val (.ref b7), .val (.ref b17), .val (.ref b22), .val (.ref b72), .val (.int (1 : Int32)), .val (.ref a355), .val (.int (0 : Int32)), .val .null, .unset, .unset, .unset] [.null])) _
            refine XS.astore X357.here hx rfl (hb hby at_189) rfl rfl (l' := #[.val (.int p1), .val (.int p2), .val (.int p3), .val (.int p4), .val (.int p5), .val (.int p6), .val (.ref b7), .val (.ref b17), .val (.ref b22), .val (.ref b72), .val (.int (1 : Int32)), .val (.ref a355), .val (.int (0 : Int32)), .val .null, .val .null, .unset, .unset]) rfl ?_
            show Steps p.tables e below (T357.setTop (mkF m 191 #[.val (.int p1), .val (.int p2), .val (.int p3), .val (.int p4), .val (.int p5), .val (.int p6), .val (.ref b7), .val (.ref b17), .val (.ref b22), .val (.ref b72), .val (.int (1 : Int32)), .val (.ref a355), .val (.int (0 : Int32)), .val .null, .val .null, .unset, .unset] [])) _
            refine st364 _ ?_
            show Steps p.tables e below (T364.setTop (mkF m 194 #[.val (.int p1), .val (.int p2), .val (.int p3), .val (.int p4), .val (.int p5), .val (.int p6), .val (.ref b7), .val (.ref b17), .val (.ref b22), .val (.ref b72), .val (.int (1 : Int32)), .val (.ref a355), .val (.int (0 : Int32)), .val .null, .val .null, .unset, .unset] [(.ref b364)])) _
            refine XS.dup X364.here hx rfl (hb hby at_194) rfl rfl ?_
            show Steps p.tables e below (T364.setTop (mkF m 195 #[.val (.int p1), .val (.int p2), .val (.int p3), .val (.int p4), .val (.int p5), .val (.int p6), .val (.ref b7), .val (.ref b17), .val (.ref b22), .val (.ref b72), .val (.int (1 : Int32)), .val (.ref a355), .val (.int (0 : Int32)), .val .null, .val .null, .unset, .unset] [(.ref b364), (.ref b364)])) _
            refine XS.aload X364.here hx rfl (hb hby at_195) rfl rfl ?_
            show Steps p.tables e below (T364.setTop (mkF m 197 #[.val (.int p1), .val (.int p2), .val (.int p3), .val (.int p4), .val (.int p5), .val (.int p6), .val (.ref b7), .val (.ref b17), .val (.ref b22), .val (.ref b72), .val (.int (1 : Int32)), .val (.ref a355), .val (.int (0 : Int32)), .val .null, .val .null, .unset, .unset] [.null, (.ref b364), (.ref b364)])) _
            refine XS.aload X364.here hx rfl (hb hby at_197) rfl rfl ?_
            show Steps p.tables e below (T364.setTop (mkF m 199 #[.val (.int p1), .val (.int p2), .val (.int p3), .val (.int p4), .val (.int p5), .val (.int p6), .val (.ref b7), .val (.ref b17), .val (.ref b22), .val (.ref b72), .val (.int (1 : Int32)), .val (.ref a355), .val (.int (0 : Int32)), .val .null, .val .null, .unset, .unset] [(.ref b72), .null, (.ref b364), (.ref b364)])) _
            refine st365 _ ?_
            show Steps p.tables e below (T365.setTop (mkF m 202 #[.val (.int p1), .val (.int p2), .val (.int p3), .val (.int p4), .val (.int p5), .val (.int p6), .val (.ref b7), .val (.ref b17), .val (.ref b22), .val (.ref b72), .val (.int (1 : Int32)), .val (.ref a355), .val (.int (0 : Int32)), .val .null, .val .null, .unset, .unset] [(.ref b365), (.ref b72), .null, (.ref b364), (.ref b364)])) _
            refine XS.dup X365.here hx rfl (hb hby at_202) rfl rfl ?_
            show Steps p.tables e below (T365.setTop (mkF m 203 #[.val (.int p1), .val (.int p2), .val (.int p3), .val (.int p4), .val (.int p5), .val (.int p6), .val (.ref b7), .val (.ref b17), .val (.ref b22), .val (.ref b72), .val (.int (1 : Int32)), .val (.ref a355), .val (.int (0 : Int32)), .val .null, .val .null, .unset, .unset] [(.ref b365), (.ref b365), (.ref b72), .null, (.ref b364), (.ref b364)])) _
            refine XS.aload X365.here hx rfl (hb hby at_203) rfl rfl ?_
            show Steps p.tables e below (T365.setTop (mkF m 205 #[.val (.int p1), .val (.int p2), .val (.int p3), .val (.int p4), .val (.int p5), .val (.int p6), .val (.ref b7), .val (.ref b17), .val (.ref b22), .val (.ref b72), .val (.int (1 : Int32)), .val (.ref a355), .val (.int (0 : Int32)), .val .null, .val .null, .unset, .unset] [(.ref b7), (.ref b365), (.ref b365), (.ref b72), .null, (.ref b364), (.ref b364)])) _
            refine st367.trans ?_
            exact kt
          obtain rfl : i30 = i369 := (u372.trans u33.symm).symm
          obtain rfl : i29 = i368 := (u373.trans u34.symm).symm
          have f385 : Exa Z T367.heap b364 "com/example/stemline/stemline/graph/Edge" := ((Exa.ext E365 A364).keep Ku378)
          have f386 : Fld Z T367.heap b364 "com/example/stemline/stemline/graph/Edge" "file" "Ljava/lang/String;" .null := ((Fld.ext E365 D364_102).keep Ku378 (ninS (Nat.ne_of_lt (Nat.lt_of_lt_of_le lt_b364 bd_b365)) nin0))
          have f387 : Fld Z T367.heap b364 "com/example/stemline/stemline/graph/Edge" "line" "I" (.int (0 : Int32)) := ((Fld.ext E365 D364_104).keep Ku378 (ninS (Nat.ne_of_lt (Nat.lt_of_lt_of_le lt_b364 bd_b365)) nin0))
          have f388 : Fld Z T367.heap b364 "com/example/stemline/stemline/graph/Edge" "source" "Lcom/example/stemline/stemline/model/ColumnSource;" .null := ((Fld.ext E365 D364_98).keep Ku378 (ninS (Nat.ne_of_lt (Nat.lt_of_lt_of_le lt_b364 bd_b365)) nin0))
          have f389 : Fld Z T367.heap b364 "com/example/stemline/stemline/graph/Edge" "target" "Lcom/example/stemline/stemline/model/TableColumn;" .null := ((Fld.ext E365 D364_100).keep Ku378 (ninS (Nat.ne_of_lt (Nat.lt_of_lt_of_le lt_b364 bd_b365)) nin0))
          obtain ⟨_, _, ⟨T390, L390, k390, n390⟩, -, X390, sn390, gr390, ⟨Lc390, hQ390, l390, y390, z390⟩, st390⟩ := X367.specialBackS hx (y := M_12) rfl hown116 (mvT hZ116 (hw _ (gw 90 rfl))) (mvT hZ116 (hw _ (gw 91 rfl))) (mvT hZ116 (hw _ (gw 92 rfl))) (by decide) (backOfS (W := 1) (rm15_19 l Z a0 hw [] b364 b72 b365 p5 T367.heap n0  Ou378 f385 f386 f387 f388 f389 g_b364) hZ116 (hw _ (gw 92 rfl)) (hw _ (gw 89 rfl)) (by decide) (by decide)) (g := (mkF m 210 #[.val (.int p1), .val (.int p2), .val (.int p3), .val (.int p4), .val (.int p5), .val (.int p6), .val (.ref b7), .val (.ref b17), .val (.ref b22), .val (.ref b72), .val (.int (1 : Int32)), .val (.ref a355), .val (.int (0 : Int32)), .val .null, .val .null, .unset, .unset] [(.int p5), (.ref b365), (.ref b72), .null, (.ref b364), (.ref b364)])) rfl (by rw [hml]; rfl) (Steps.refl _) (a := b364) (argsL := [.null, (.ref b72), (.ref b365), (.int p5)]) (rest := [(.ref b364)]) (lenOf pd_12 rfl) rfl (by show 2 * 0 + _ ≤ _; exact Nat.le_of_eq rfl) (hb hby at_210) (fun _ _ => ⟨rfl, rfl, (by decide : 23 + 4 ≤ _), (by decide : 126 + 48 ≤ _)⟩)
          dsimp only [Pt.U, Pt.locs, Pt.cells, Pt.slots] at X390 l390 y390 z390 st390 hQ390 sn390 gr390
          subst l390 y390 z390
          have gs390 : T367.heap.size ≤ T390.heap.size := gr390
          have hS390 : s.Since T390.vm T390.heap.size := hS116.trans sn390 (Nat.le_trans (Nat.le_trans (Nat.le_trans (Nat.le_trans (Nat.le_refl _) E364.1) E365.1) Ku378.1) gs390)
          have hZ390 : Z.Warmed39 (s.setVm T390.vm).vm := State.Warmed39.trans (t := (s.setVm T116.vm)) hZ116 sn390.1
          have hown390 : (s.setVm T390.vm).vm.findClass "com/example/stemline/stemline/graph/EdgeSourceColumnPinLaw" = some m.cls := by rw [show (s.setVm T390.vm).vm = T390.vm from rfl, sn390.1.alike.findClass]; exact hown116
          obtain ⟨rfl, u392, Ku393, u394, u395, u396, u397, u398⟩ := hQ390
          have Ou393 : Old Z n0 T390.heap := Ou378.keep Ku393 (allS g_b364 all0)
          have N390 := Fr.app N367 u392
          obtain ⟨cq399, kq399, q399a, q399b, q399c⟩ := isOf hZ390 rfl u394
          obtain ⟨_, _, ⟨T399, L399, k399, n399⟩, -, X399, ⟨Lc399, hQ399, l399, y399, z399⟩, st399⟩ := X390.virtualBack hx (y := M_13) (z := M_13) hown390 (mvT hZ390 (hw _ (gw 105 rfl))) (mvT hZ390 (hw _ (gw 106 rfl))) (notFace_of_selects (args := #[]) (mvT hZ390 (hw _ (gw 108 rfl)))) (mvT hZ390 (hw _ (gw 108 rfl))) (mvT hZ390 (hw _ (gw 107 rfl))) (by decide) (backOf (W := 0) (rm16_20 l Z a0 hw [] b364 T390.heap n0  Ou393 u397) hZ390 (hw _ (gw 109 rfl)) (hw _ (gw 89 rfl)) (by decide) (by decide)) q399a q399c (g := (mkF m 217 #[.val (.int p1), .val (.int p2), .val (.int p3), .val (.int p4), .val (.int p5), .val (.int p6), .val (.ref b7), .val (.ref b17), .val (.ref b22), .val (.ref b72), .val (.int (1 : Int32)), .val (.ref a355), .val (.int (0 : Int32)), .val .null, .val .null, .val (.ref b364), .unset] [(.ref b364)])) rfl (by rw [hml]; rfl) (Steps.refl _) (argsL := []) (rest := []) (lenOf pd_13 rfl) rfl (by show 2 * 0 + _ ≤ _; exact Nat.le_of_eq rfl) (hb hby at_217) (fun _ _ => ⟨rfl, rfl, (by decide : 27 + 0 ≤ _), (by decide : 174 + 0 ≤ _)⟩)
          dsimp only [Pt.U, Pt.locs, Pt.cells, Pt.slots] at X399 l399 y399 z399 st399 hQ399
          subst l399 y399 z399
          obtain ⟨rfl, u401, u402⟩ := hQ399
          have N399 := Fr.app N390 u401
          obtain ⟨fs, hr, hrun, hended, hEnd⟩ := X399.leaveW (s := s) (vm₁ := T390.vm) hS390 (by rw [u402]; exact (Nat.le_refl _)) (v := some (.int (1 : Int32))) (fun h => by rw [Bd.returns] at h; cases h)
          refine ⟨_, _, pre384 _ ?_, hrun, hended, _, _, rfl, ?_, hEnd.1, hEnd.2.1, hEnd.2.2.1, hEnd.2.2.2.mono (by decide) (by decide)⟩
          · show Steps p.tables e below (T367.setTop (mkF m 208 #[.val (.int p1), .val (.int p2), .val (.int p3), .val (.int p4), .val (.int p5), .val (.int p6), .val (.ref b7), .val (.ref b17), .val (.ref b22), .val (.ref b72), .val (.int (1 : Int32)), .val (.ref a355), .val (.int (0 : Int32)), .val .null, .val .null, .unset, .unset] [(.ref b365), (.ref b72), .null, (.ref b364), (.ref b364)])) _
            refine XS.iload X367.here hx rfl (hb hby at_208) rfl ?_
            show Steps p.tables e below (T367.setTop (mkF m 210 #[.val (.int p1), .val (.int p2), .val (.int p3), .val (.int p4), .val (.int p5), .val (.int p6), .val (.ref b7), .val (.ref b17), .val (.ref b22), .val (.ref b72), .val (.int (1 : Int32)), .val (.ref a355), .val (.int (0 : Int32)), .val .null, .val .null, .unset, .unset] [(.int p5), (.ref b365), (.ref b72), .null, (.ref b364), (.ref b364)])) _
            refine st390.trans ?_
            show Steps p.tables e below (T390.setTop (mkF m 213 #[.val (.int p1), .val (.int p2), .val (.int p3), .val (.int p4), .val (.int p5), .val (.int p6), .val (.ref b7), .val (.ref b17), .val (.ref b22), .val (.ref b72), .val (.int (1 : Int32)), .val (.ref a355), .val (.int (0 : Int32)), .val .null, .val .null, .unset, .unset] [(.ref b364)])) _
            refine XS.astore X390.here hx rfl (hb hby at_213) rfl rfl (l' := #[.val (.int p1), .val (.int p2), .val (.int p3), .val (.int p4), .val (.int p5), .val (.int p6), .val (.ref b7), .val (.ref b17), .val (.ref b22), .val (.ref b72), .val (.int (1 : Int32)), .val (.ref a355), .val (.int (0 : Int32)), .val .null, .val .null, .val (.ref b364), .unset]) rfl ?_
            show Steps p.tables e below (T390.setTop (mkF m 215 #[.val (.int p1), .val (.int p2), .val (.int p3), .val (.int p4), .val (.int p5), .val (.int p6), .val (.ref b7), .val (.ref b17), .val (.ref b22), .val (.ref b72), .val (.int (1 : Int32)), .val (.ref a355), .val (.int (0 : Int32)), .val .null, .val .null, .val (.ref b364), .unset] [])) _
            refine XS.aload X390.here hx rfl (hb hby at_215) rfl rfl ?_
            show Steps p.tables e below (T390.setTop (mkF m 217 #[.val (.int p1), .val (.int p2), .val (.int p3), .val (.int p4), .val (.int p5), .val (.int p6), .val (.ref b7), .val (.ref b17), .val (.ref b22), .val (.ref b72), .val (.int (1 : Int32)), .val (.ref a355), .val (.int (0 : Int32)), .val .null, .val .null, .val (.ref b364), .unset] [(.ref b364)])) _
            refine st399.trans ?_
            show Steps p.tables e below (T399.setTop (mkF m 220 #[.val (.int p1), .val (.int p2), .val (.int p3), .val (.int p4), .val (.int p5), .val (.int p6), .val (.ref b7), .val (.ref b17), .val (.ref b22), .val (.ref b72), .val (.int (1 : Int32)), .val (.ref a355), .val (.int (0 : Int32)), .val .null, .val .null, .val (.ref b364), .unset] [.null])) _
            refine XS.astore X399.here hx rfl (hb hby at_220) rfl rfl (l' := #[.val (.int p1), .val (.int p2), .val (.int p3), .val (.int p4), .val (.int p5), .val (.int p6), .val (.ref b7), .val (.ref b17), .val (.ref b22), .val (.ref b72), .val (.int (1 : Int32)), .val (.ref a355), .val (.int (0 : Int32)), .val .null, .val .null, .val (.ref b364), .val .null]) rfl ?_
            show Steps p.tables e below (T399.setTop (mkF m 222 #[.val (.int p1), .val (.int p2), .val (.int p3), .val (.int p4), .val (.int p5), .val (.int p6), .val (.ref b7), .val (.ref b17), .val (.ref b22), .val (.ref b72), .val (.int (1 : Int32)), .val (.ref a355), .val (.int (0 : Int32)), .val .null, .val .null, .val (.ref b364), .val .null] [])) _
            refine XS.iload X399.here hx rfl (hb hby at_222) rfl ?_
            show Steps p.tables e below (T399.setTop (mkF m 224 #[.val (.int p1), .val (.int p2), .val (.int p3), .val (.int p4), .val (.int p5), .val (.int p6), .val (.ref b7), .val (.ref b17), .val (.ref b22), .val (.ref b72), .val (.int (1 : Int32)), .val (.ref a355), .val (.int (0 : Int32)), .val .null, .val .null, .val (.ref b364), .val .null] [(.int (0 : Int32))])) _
            refine XS.ifNo X399.here hx rfl (hb hby at_224) rfl ((if0 _ _).trans (teq (by decide +kernel : (0 : Int32) = (0 : Int32))).2) ?_
            show Steps p.tables e below (T399.setTop (mkF m 227 #[.val (.int p1), .val (.int p2), .val (.int p3), .val (.int p4), .val (.int p5), .val (.int p6), .val (.ref b7), .val (.ref b17), .val (.ref b22), .val (.ref b72), .val (.int (1 : Int32)), .val (.ref a355), .val (.int (0 : Int32)), .val .null, .val .null, .val (.ref b364), .val .null] [])) _
            refine XS.aload X399.here hx rfl (hb hby at_227) rfl rfl ?_
            show Steps p.tables e below (T399.setTop (mkF m 229 #[.val (.int p1), .val (.int p2), .val (.int p3), .val (.int p4), .val (.int p5), .val (.int p6), .val (.ref b7), .val (.ref b17), .val (.ref b22), .val (.ref b72), .val (.int (1 : Int32)), .val (.ref a355), .val (.int (0 : Int32)), .val .null, .val .null, .val (.ref b364), .val .null] [.null])) _
            refine XS.ifnonnullNo X399.here hx rfl (hb hby at_229) rfl ?_
            show Steps p.tables e below (T399.setTop (mkF m 232 #[.val (.int p1), .val (.int p2), .val (.int p3), .val (.int p4), .val (.int p5), .val (.int p6), .val (.ref b7), .val (.ref b17), .val (.ref b22), .val (.ref b72), .val (.int (1 : Int32)), .val (.ref a355), .val (.int (0 : Int32)), .val .null, .val .null, .val (.ref b364), .val .null] [])) _
            refine XS.iconst X399.here hx rfl (hb hby at_232) ?_
            show Steps p.tables e below (T399.setTop (mkF m 233 #[.val (.int p1), .val (.int p2), .val (.int p3), .val (.int p4), .val (.int p5), .val (.int p6), .val (.ref b7), .val (.ref b17), .val (.ref b22), .val (.ref b72), .val (.int (1 : Int32)), .val (.ref a355), .val (.int (0 : Int32)), .val .null, .val .null, .val (.ref b364), .val .null] [(.int (1 : Int32))])) _
            refine XS.goto X399.here hx rfl (pc0 := 233) (pc' := 237) rfl (hb hby at_233) (by decide) (by decide) ?_
            show Steps p.tables e below (T399.setTop (mkF m 237 #[.val (.int p1), .val (.int p2), .val (.int p3), .val (.int p4), .val (.int p5), .val (.int p6), .val (.ref b7), .val (.ref b17), .val (.ref b22), .val (.ref b72), .val (.int (1 : Int32)), .val (.ref a355), .val (.int (0 : Int32)), .val .null, .val .null, .val (.ref b364), .val .null] [(.int (1 : Int32))])) _
            exact retN X399 hx (t := .boolean) Bd.returns (by simp) (hb hby at_237) hr
          · show Q0 Z _ _ _ _ _ _ _ _ _ _ h0 n0 _ T399.heap _
            rw [u402]
            exact ⟨rfl, N399⟩
        · skip
          obtain ⟨T403, h403, X403, e403, E403, A403, D403, -, st403⟩ := newO X357 hx hZ116 hown116 (hw _ (gw 4 rfl)) (hw _ (gw 5 rfl)) (hw _ (gw 6 rfl)) e357 (g := (mkF m 152 #[.val (.int p1), .val (.int p2), .val (.int p3), .val (.int p4), .val (.int p5), .val (.int p6), .val (.ref b7), .val (.ref b17), .val (.ref b22), .val (.ref b72), .val (.int (1 : Int32)), .val (.ref a355), .val (.int (0 : Int32)), .unset, .unset, .unset, .unset] [])) rfl (hb hby at_152) (by decide) (by decide)
          obtain ⟨b403, g403⟩ : ∃ z, z = T116.heap.size := ⟨_, rfl⟩
          rw [← g403] at A403 D403 st403
          have O403 : Old Z n0 h403 := Ou119.ext E403
          have bd_b403 : T116.heap.size ≤ b403 := Nat.le_of_eq g403.symm
          have g_b403 : n0 ≤ b403 := Nat.le_trans (own_z Ou119) bd_b403
          have sz_b403 : h0.size ≤ b403 := Nat.le_trans (Nat.le_trans (Nat.le_trans (Nat.le_trans (Nat.le_trans (Nat.le_trans (Nat.le_trans (Nat.le_trans (Nat.le_trans (Nat.le_trans (Nat.le_trans (Nat.le_trans (Nat.le_trans (Nat.le_trans (Nat.le_trans E7.1 (Keep.of_wr W11).1) (Keep.of_wr W16).1) E17.1) (Keep.of_wr W21).1) E22.1) E23.1) Ku39.1) E45.1) Ku56.1) Ku68.1) E72.1) Ku87.1) Ku107.1) Ku119.1) bd_b403
          have lt_b403 : b403 < h403.size := A403.lt
          have D403_30 : Fld Z h403 b403 "java/lang/String" "coder" "B" (.int (0 : Int32)) := D403 (Or.inr (hw _ (gw 30 rfl))) (ty := .byte) (by decide)
          have D403_32 : Fld Z h403 b403 "java/lang/String" "value" "[B" .null := D403 (Or.inr (hw _ (gw 32 rfl))) (ty := (.array .byte)) (by decide)
          have f404 : Arv Z h403 b17 k17 .char (1 : Int32) [(.int i18)] (.int (0 : Int32)) := (((((((f46.keep Ku56 (ninS (Nat.ne_of_lt (Nat.lt_of_lt_of_le (Nat.lt_of_lt_of_le (Nat.lt_of_lt_of_le (Nat.lt_of_lt_of_le (Nat.lt_of_lt_of_le lt_b17 (Keep.of_wr W21).1) E22.1) E23.1) Ku39.1) bd_b45)) nin0)).keep Ku68 (ninS (Nat.ne_of_lt (Nat.lt_of_lt_of_le (Nat.lt_of_lt_of_le lt_b17 (Keep.of_wr W21).1) bd_b22)) nin0)).ext E72).keep Ku87 nin0).keep Ku107 nin0).keep Ku119 (ninS (Nat.ne_of_lt (Nat.lt_of_lt_of_le (Nat.lt_of_lt_of_le (Nat.lt_of_lt_of_le (Nat.lt_of_lt_of_le (Nat.lt_of_lt_of_le (Nat.lt_of_lt_of_le (Nat.lt_of_lt_of_le (Nat.lt_of_lt_of_le lt_b17 (Keep.of_wr W21).1) E22.1) E23.1) Ku39.1) E45.1) Ku56.1) Ku68.1) bd_b72)) nin0)).ext E403)
          obtain ⟨_, _, ⟨T405, L405, k405, n405⟩, -, X405, ⟨Lc405, hQ405, l405, y405, z405⟩, st405⟩ := X403.specialBack hx (y := M_4) rfl hown116 (mvT hZ116 (hw _ (gw 7 rfl))) (mvT hZ116 (hw _ (gw 8 rfl))) (mvT hZ116 (hw _ (gw 9 rfl))) (by decide) (backOf (W := 1) (rm1_7 l Z a0 hw [] b403 b17 i18 k17 p24 h403 n0  O403 f404 S_25 hk26 (own_lt255 hi18) A403 D403_30 D403_32 g_b403 lt_b403) hZ116 (hw _ (gw 9 rfl)) (hw _ (gw 6 rfl)) (by decide) (by decide)) (g := (mkF m 158 #[.val (.int p1), .val (.int p2), .val (.int p3), .val (.int p4), .val (.int p5), .val (.int p6), .val (.ref b7), .val (.ref b17), .val (.ref b22), .val (.ref b72), .val (.int (1 : Int32)), .val (.ref a355), .val (.int (0 : Int32)), .unset, .unset, .unset, .unset] [(.ref b17), (.ref b403), (.ref b403)])) rfl (by rw [hml]; rfl) (Steps.refl _) (a := b403) (argsL := [(.ref b17)]) (rest := [(.ref b403)]) (lenOf pd_4 rfl) rfl (by show 2 * 0 + _ ≤ _; exact Nat.le_of_eq rfl) (hb hby at_158) (fun _ _ => ⟨rfl, e403, (by decide : 21 + 1 ≤ _), (by decide : 120 + 1 ≤ _)⟩)
          dsimp only [Pt.U, Pt.locs, Pt.cells, Pt.slots] at X405 l405 y405 z405 st405 hQ405
          subst l405 y405 z405
          obtain ⟨i406, b407, k408, u409, rfl, u411, u412, u413, Ku414, u415, u416, u417, u418, u419⟩ := hQ405
          have Ou414 : Old Z n0 T405.heap := O403.keep Ku414 (allS g_b403 all0)
          have g_b407 : n0 ≤ b407 := Nat.le_trans (own_z O403) u412
          have sz_b407 : h0.size ≤ b407 := Nat.le_trans (Nat.le_trans (Nat.le_trans (Nat.le_trans (Nat.le_trans (Nat.le_trans (Nat.le_trans (Nat.le_trans (Nat.le_trans (Nat.le_trans (Nat.le_trans (Nat.le_trans (Nat.le_trans (Nat.le_trans (Nat.le_trans (Nat.le_trans E7.1 (Keep.of_wr W11).1) (Keep.of_wr W16).1) E17.1) (Keep.of_wr W21).1) E22.1) E23.1) Ku39.1) E45.1) Ku56.1) Ku68.1) E72.1) Ku87.1) Ku107.1) Ku119.1) E403.1) u412
          have N405 := Fr.app N116 u411
          have pre420 : ∀ t, Steps p.tables e below (T405.setTop (mkF m 161 #[.val (.int p1), .val (.int p2), .val (.int p3), .val (.int p4), .val (.int p5), .val (.int p6), .val (.ref b7), .val (.ref b17), .val (.ref b22), .val (.ref b72), .val (.int (1 : Int32)), .val (.ref a355), .val (.int (0 : Int32)), .unset, .unset, .unset, .unset] [(.ref b403)])) t → Steps p.tables e below (s₁.setTop (entryFrame m #[(.int p1), (.int p2), (.int p3), (.int p4), (.int p5), (.int p6)] maxLocals)) t := by
            intro t kt
            refine pre362 t ?_
            show Steps p.tables e below (T357.setTop (mkF m 149 #[.val (.int p1), .val (.int p2), .val (.int p3), .val (.int p4), .val (.int p5), .val (.int p6), .val (.ref b7), .val (.ref b17), .val (.ref b22), .val (.ref b72), .val (.int (1 : Int32)), .val (.ref a355), .val (.int (0 : Int32)), .unset, .unset, .unset, .unset] [(.int i361)])) _
            refine XS.ifNo X357.here hx rfl (hb hby at_149) rfl ((if0 _ _).trans (feq hc363).1) ?_
            show Steps p.tables e below (T357.setTop (mkF m 152 #[.val (.int p1), .val (.int p2), .val (.int p3), .val (.int p4), .val (.int p5), .val (.int p6), .val (.ref b7), .val (.ref b17), .val (.ref b22), .val (.ref b72), .val (.int (1 : Int32)), .val (.ref a355), .val (.int (0 : Int32)), .unset, .unset, .unset, .unset] [])) _
            refine st403 _ ?_
            show Steps p.tables e below (T403.setTop (mkF m 155 #[.val (.int p1), .val (.int p2), .val (.int p3), .val (.int p4), .val (.int p5), .val (.int p6), .val (.ref b7), .val (.ref b17), .val (.ref b22), .val (.ref b72), .val (.int (1 : Int32)), .val (.ref a355), .val (.int (0 : Int32)), .unset, .unset, .unset, .unset] [(.ref b403)])) _
            refine XS.dup X403.here hx rfl (hb hby at_155) rfl rfl ?_
            show Steps p.tables e below (T403.setTop (mkF m 156 #[.val (.int p1), .val (.int p2), .val (.int p3), .val (.int p4), .val (.int p5), .val (.int p6), .val (.ref b7), .val (.ref b17), .val (.ref b22), .val (.ref b72), .val (.int (1 : Int32)), .val (.ref a355), .val (.int (0 : Int32)), .unset, .unset, .unset, .unset] [(.ref b403), (.ref b403)])) _
            refine XS.aload X403.here hx rfl (hb hby at_156) rfl rfl ?_
            show Steps p.tables e below (T403.setTop (mkF m 158 #[.val (.int p1), .val (.int p2), .val (.int p3), .val (.int p4), .val (.int p5), .val (.int p6), .val (.ref b7), .val (.ref b17), .val (.ref b22), .val (.ref b72), .val (.int (1 : Int32)), .val (.ref a355), .val (.int (0 : Int32)), .unset, .unset, .unset, .unset] [(.ref b17), (.ref b403), (.ref b403)])) _
            refine st405.trans ?_
            exact kt
          obtain rfl : i48 = i406 := (u409.trans u51.symm).symm
          obtain ⟨T421, h421, X421, e421, E421, A421, D421, -, st421⟩ := newO X405 hx hZ116 hown116 (hw _ (gw 87 rfl)) (hw _ (gw 88 rfl)) (hw _ (gw 89 rfl)) rfl (g := (mkF m 191 #[.val (.int p1), .val (.int p2), .val (.int p3), .val (.int p4), .val (.int p5), .val (.int p6), .val (.ref b7), .val (.ref b17), .val (.ref b22), .val (.ref b72), .val (.int (1 : Int32)), .val (.ref a355), .val (.int (0 : Int32)), .val (.ref b403), .val .null, .unset, .unset] [])) rfl (hb hby at_191) (by decide) (by decide)
          obtain ⟨b421, g421⟩ : ∃ z, z = T405.heap.size := ⟨_, rfl⟩
          rw [← g421] at A421 D421 st421
          have O421 : Old Z n0 h421 := Ou414.ext E421
          have bd_b421 : T405.heap.size ≤ b421 := Nat.le_of_eq g421.symm
          have g_b421 : n0 ≤ b421 := Nat.le_trans (own_z Ou414) bd_b421
          have sz_b421 : h0.size ≤ b421 := Nat.le_trans (Nat.le_trans (Nat.le_trans (Nat.le_trans (Nat.le_trans (Nat.le_trans (Nat.le_trans (Nat.le_trans (Nat.le_trans (Nat.le_trans (Nat.le_trans (Nat.le_trans (Nat.le_trans (Nat.le_trans (Nat.le_trans (Nat.le_trans (Nat.le_trans E7.1 (Keep.of_wr W11).1) (Keep.of_wr W16).1) E17.1) (Keep.of_wr W21).1) E22.1) E23.1) Ku39.1) E45.1) Ku56.1) Ku68.1) E72.1) Ku87.1) Ku107.1) Ku119.1) E403.1) Ku414.1) bd_b421
          have lt_b421 : b421 < h421.size := A421.lt
          have D421_98 : Fld Z h421 b421 "com/example/stemline/stemline/graph/Edge" "source" "Lcom/example/stemline/stemline/model/ColumnSource;" .null := D421 (Or.inr (hw _ (gw 98 rfl))) (ty := (.object "com/example/stemline/stemline/model/ColumnSource")) (by decide)
          have D421_100 : Fld Z h421 b421 "com/example/stemline/stemline/graph/Edge" "target" "Lcom/example/stemline/stemline/model/TableColumn;" .null := D421 (Or.inr (hw _ (gw 100 rfl))) (ty := (.object "com/example/stemline/stemline/model/TableColumn")) (by decide)
          have D421_102 : Fld Z h421 b421 "com/example/stemline/stemline/graph/Edge" "file" "Ljava/lang/String;" .null := D421 (Or.inr (hw _ (gw 102 rfl))) (ty := (.object "java/lang/String")) (by decide)
          have D421_104 : Fld Z h421 b421 "com/example/stemline/stemline/graph/Edge" "line" "I" (.int (0 : Int32)) := D421 (Or.inr (hw _ (gw 104 rfl))) (ty := .int) (by decide)
          obtain ⟨T422, h422, X422, e422, E422, A422, D422, -, st422⟩ := newO X421 hx hZ116 hown116 (hw _ (gw 4 rfl)) (hw _ (gw 5 rfl)) (hw _ (gw 6 rfl)) e421 (g := (mkF m 199 #[.val (.int p1), .val (.int p2), .val (.int p3), .val (.int p4), .val (.int p5), .val (.int p6), .val (.ref b7), .val (.ref b17), .val (.ref b22), .val (.ref b72), .val (.int (1 : Int32)), .val (.ref a355), .val (.int (0 : Int32)), .val (.ref b403), .val .null, .unset, .unset] [(.ref b72), .null, (.ref b421), (.ref b421)])) rfl (hb hby at_199) (by decide) (by decide)
          obtain ⟨b422, g422⟩ : ∃ z, z = h421.size := ⟨_, rfl⟩
          rw [← g422] at A422 D422 st422
          have O422 : Old Z n0 h422 := O421.ext E422
          have bd_b422 : h421.size ≤ b422 := Nat.le_of_eq g422.symm
          have g_b422 : n0 ≤ b422 := Nat.le_trans (own_z O421) bd_b422
          have sz_b422 : h0.size ≤ b422 := Nat.le_trans (Nat.le_trans (Nat.le_trans (Nat.le_trans (Nat.le_trans (Nat.le_trans (Nat.le_trans (Nat.le_trans (Nat.le_trans (Nat.le_trans (Nat.le_trans (Nat.le_trans (Nat.le_trans (Nat.le_trans (Nat.le_trans (Nat.le_trans (Nat.le_trans (Nat.le_trans E7.1 (Keep.of_wr W11).1) (Keep.of_wr W16).1) E17.1) (Keep.of_wr W21).1) E22.1) E23.1) Ku39.1) E45.1) Ku56.1) Ku68.1) E72.1) Ku87.1) Ku107.1) Ku119.1) E403.1) Ku414.1) E421.1) bd_b422
          have lt_b422 : b422 < h422.size := A422.lt
          have D422_30 : Fld Z h422 b422 "java/lang/String" "coder" "B" (.int (0 : Int32)) := D422 (Or.inr (hw _ (gw 30 rfl))) (ty := .byte) (by decide)
          have D422_32 : Fld Z h422 b422 "java/lang/String" "value" "[B" .null := D422 (Or.inr (hw _ (gw 32 rfl))) (ty := (.array .byte)) (by decide)
          have f423 : Arv Z h422 b7 k7 .char (2 : Int32) [(.int i8), (.int i13)] (.int (0 : Int32)) := ((((((((((((f27.keep Ku39 (ninS (Nat.ne_of_lt (Nat.lt_of_lt_of_le (Nat.lt_of_lt_of_le (Nat.lt_of_lt_of_le (Nat.lt_of_lt_of_le (Nat.lt_of_lt_of_le (Nat.lt_of_lt_of_le lt_b7 (Keep.of_wr W11).1) (Keep.of_wr W16).1) E17.1) (Keep.of_wr W21).1) E22.1) bd_b23)) nin0)).ext E45).keep Ku56 (ninS (Nat.ne_of_lt (Nat.lt_of_lt_of_le (Nat.lt_of_lt_of_le (Nat.lt_of_lt_of_le (Nat.lt_of_lt_of_le (Nat.lt_of_lt_of_le (Nat.lt_of_lt_of_le (Nat.lt_of_lt_of_le (Nat.lt_of_lt_of_le lt_b7 (Keep.of_wr W11).1) (Keep.of_wr W16).1) E17.1) (Keep.of_wr W21).1) E22.1) E23.1) Ku39.1) bd_b45)) nin0)).keep Ku68 (ninS (Nat.ne_of_lt (Nat.lt_of_lt_of_le (Nat.lt_of_lt_of_le (Nat.lt_of_lt_of_le (Nat.lt_of_lt_of_le (Nat.lt_of_lt_of_le lt_b7 (Keep.of_wr W11).1) (Keep.of_wr W16).1) E17.1) (Keep.of_wr W21).1) bd_b22)) nin0)).ext E72).keep Ku87 nin0).keep Ku107 nin0).keep Ku119 (ninS (Nat.ne_of_lt (Nat.lt_of_lt_of_le (Nat.lt_of_lt_of_le (Nat.lt_of_lt_of_le (Nat.lt_of_lt_of_le (Nat.lt_of_lt_of_le (Nat.lt_of_lt_of_le (Nat.lt_of_lt_of_le (Nat.lt_of_lt_of_le (Nat.lt_of_lt_of_le (Nat.lt_of_lt_of_le (Nat.lt_of_lt_of_le lt_b7 (Keep.of_wr W11).1) (Keep.of_wr W16).1) E17.1) (Keep.of_wr W21).1) E22.1) E23.1) Ku39.1) E45.1) Ku56.1) Ku68.1) bd_b72)) nin0)).ext E403).keep Ku414 (ninS (Nat.ne_of_lt (Nat.lt_of_lt_of_le (Nat.lt_of_lt_of_le (Nat.lt_of_lt_of_le (Nat.lt_of_lt_of_le (Nat.lt_of_lt_of_le (Nat.lt_of_lt_of_le (Nat.lt_of_lt_of_le (Nat.lt_of_lt_of_le (Nat.lt_of_lt_of_le (Nat.lt_of_lt_of_le (Nat.lt_of_lt_of_le (Nat.lt_of_lt_of_le (Nat.lt_of_lt_of_le (Nat.lt_of_lt_of_le (Nat.lt_of_lt_of_le lt_b7 (Keep.of_wr W11).1) (Keep.of_wr W16).1) E17.1) (Keep.of_wr W21).1) E22.1) E23.1) Ku39.1) E45.1) Ku56.1) Ku68.1) E72.1) Ku87.1) Ku107.1) Ku119.1) bd_b403)) nin0)).ext E421).ext E422)
          obtain ⟨_, _, ⟨T424, L424, k424, n424⟩, -, X424, ⟨Lc424, hQ424, l424, y424, z424⟩, st424⟩ := X422.specialBack hx (y := M_4) rfl hown116 (mvT hZ116 (hw _ (gw 7 rfl))) (mvT hZ116 (hw _ (gw 8 rfl))) (mvT hZ116 (hw _ (gw 9 rfl))) (by decide) (backOf (W := 5) (rm1_2 l Z a0 hw [] b422 b7 i8 i13 k7 p24 h422 n0  O422 f423 S_25 hk26 (own_lt255 hi8) (own_lt255 hi13) A422 D422_30 D422_32 (Nat.lt_of_lt_of_le (Nat.lt_of_lt_of_le (Nat.lt_of_lt_of_le (Nat.lt_of_lt_of_le (Nat.lt_of_lt_of_le (Nat.lt_of_lt_of_le (Nat.lt_of_lt_of_le (Nat.lt_of_lt_of_le (Nat.lt_of_lt_of_le (Nat.lt_of_lt_of_le (Nat.lt_of_lt_of_le (Nat.lt_of_lt_of_le (Nat.lt_of_lt_of_le (Nat.lt_of_lt_of_le (Nat.lt_of_lt_of_le (Nat.lt_of_lt_of_le (Nat.lt_of_lt_of_le (Nat.lt_of_lt_of_le lt_b7 (Keep.of_wr W11).1) (Keep.of_wr W16).1) E17.1) (Keep.of_wr W21).1) E22.1) E23.1) Ku39.1) E45.1) Ku56.1) Ku68.1) E72.1) Ku87.1) Ku107.1) Ku119.1) E403.1) Ku414.1) E421.1) E422.1) g_b422 lt_b422) hZ116 (hw _ (gw 9 rfl)) (hw _ (gw 6 rfl)) (by decide) (by decide)) (g := (mkF m 205 #[.val (.int p1), .val (.int p2), .val (.int p3), .val (.int p4), .val (.int p5), .val (.int p6), .val (.ref b7), .val (.ref b17), .val (.ref b22), .val (.ref b72), .val (.int (1 : Int32)), .val (.ref a355), .val (.int (0 : Int32)), .val (.ref b403), .val .null, .unset, .unset] [(.ref b7), (.ref b422), (.ref b422), (.ref b72), .null, (.ref b421), (.ref b421)])) rfl (by rw [hml]; rfl) (Steps.refl _) (a := b422) (argsL := [(.ref b7)]) (rest := [(.ref b422), (.ref b72), .null, (.ref b421), (.ref b421)]) (lenOf pd_4 rfl) rfl (by show 2 * 0 + _ ≤ _; exact Nat.le_of_eq rfl) (hb hby at_205) (fun _ _ => ⟨rfl, e422, (by decide : 24 + 1 ≤ _), (by decide : 129 + 2 ≤ _)⟩)
          dsimp only [Pt.U, Pt.locs, Pt.cells, Pt.slots] at X424 l424 y424 z424 st424 hQ424
          subst l424 y424 z424
          obtain ⟨i425, i426, b427, k428, u429, u430, rfl, u432, u433, u434, Ku435, u436, u437, u438, u439, u440⟩ := hQ424
          have Ou435 : Old Z n0 T424.heap := O422.keep Ku435 (allS g_b422 all0)
          have g_b427 : n0 ≤ b427 := Nat.le_trans (own_z O422) u433
          have sz_b427 : h0.size ≤ b427 := Nat.le_trans (Nat.le_trans (Nat.le_trans (Nat.le_trans (Nat.le_trans (Nat.le_trans (Nat.le_trans (Nat.le_trans (Nat.le_trans (Nat.le_trans (Nat.le_trans (Nat.le_trans (Nat.le_trans (Nat.le_trans (Nat.le_trans (Nat.le_trans (Nat.le_trans (Nat.le_trans (Nat.le_trans E7.1 (Keep.of_wr W11).1) (Keep.of_wr W16).1) E17.1) (Keep.of_wr W21).1) E22.1) E23.1) Ku39.1) E45.1) Ku56.1) Ku68.1) E72.1) Ku87.1) Ku107.1) Ku119.1) E403.1) Ku414.1) E421.1) E422.1) u433
          have N424 := Fr.app N405 u432
          have pre441 : ∀ t, Steps p.tables e below (T424.setTop (mkF m 208 #[.val (.int p1), .val (.int p2), .val (.int p3), .val (.int p4), .val (.int p5), .val (.int p6), .val (.ref b7), .val (.ref b17), .val (.ref b22), .val (.ref b72), .val (.int (1 : Int32)), .val (.ref a355), .val (.int (0 : Int32)), .val (.ref b403), .val .null, .unset, .unset] [(.ref b422), (.ref b72), .null, (.ref b421), (.ref b421)])) t → Steps p.tables e below (s₁.setTop (entryFrame m #[(.int p1), (.int p2), (.int p3), (.int p4), (.int p5), (.int p6)] maxLocals)) t := by
            intro t kt
            refine pre420 t ?_
            show Steps p.tables e below (T405.setTop (mkF m 161 #[.val (.int p1), .val (.int p2), .val (.int p3), .val (.int p4), .val (.int p5), .val (.int p6), .val (.ref b7), .val (.ref b17), .val (.ref b22), .val (.ref b72), .val (.int (1 : Int32)), .val (.ref a355), .val (.int (0 : Int32)), .unset, .unset, .unset, .unset] [(.ref b403)])) _
            refine XS.goto X405.here hx rfl (pc0 := 161) (pc' := 165) rfl (hb hby at_161) (by decide) (by decide) ?_
            show Steps p.tables e below (T405.setTop (mkF m 165 #[.val (.int p1), .val (.int p2), .val (.int p3), .val (.int p4), .val (.int p5), .val (.int p6), .val (.ref b7), .val (.ref b17), .val (.ref b22), .val (.ref b72), .val (.int (1 : Int32)), .val (.ref a355), .val (.int (0 : Int32)), .unset, .unset, .unset, .unset] [(.ref b403)])) _
            refine XS.astore X405.here hx rfl (hb hby at_165) rfl rfl (l' := #[.val (.int p1), .val (.int p2), .val (.int p3), .val (.int p4), .val (.int p5), .val (.int p6), .val (.ref b7), .val (.ref b17), .val (.ref b22), .val (.ref b72), .val (.int (1 : Int32)), .val (.ref a355), .val (.int (0 : Int32)), .val (.ref b403), .unset, .unset, .unset]) rfl ?_
            show Steps p.tables e below (T405.setTop (mkF m 167 #[.val (.int p1), .val (.int p2), .val (.int p3), .val (.int p4), .val (.int p5), .val (.int p6), .val (.ref b7), .val (.ref b17), .val (.ref b22), .val (.ref b72), .val (.int (1 : Int32)), .val (.ref a355), .val (.int (0 : Int32)), .val (.ref b403), .unset, .unset, .unset] [])) _
            refine XS.iload X405.here hx rfl (hb hby at_167) rfl ?_
            show Steps p.tables e below (T405.setTop (mkF m 169 #[.val (.int p1), .val (.int p2), .val (.int p3), .val (.int p4), .val (.int p5), .val (.int p6), .val (.ref b7), .val (.ref b17), .val (.ref b22), .val (.ref b72), .val (.int (1 : Int32)), .val (.ref a355), .val (.int (0 : Int32)), .val (.ref b403), .unset, .unset, .unset] [(.int (0 : Int32))])) _
            refine XS.ifYes X405.here hx rfl (pc0 := 169) (pc' := 188) rfl (hb hby at_169) rfl ((if0 _ _).trans (teq (by decide +kernel : (0 : Int32) = (0 : Int32))).1) (by decide) (by decide) ?_
            show Steps p.tables e below (T405.setTop (mkF m 188 #[.val (.int p1), .val (.int p2), .val (.int p3), .val (.int p4), .val (.int p5), .val (.int p6), .val (.ref b7), .val (.ref b17), .val (.ref b22), .val (.ref b72), .val (.int (1 : Int32)), .val (.ref a355), .val (.int (0 : Int32)), .val (.ref b403), .unset, .unset, .unset] [])) _
            refine XS.aconstNull X405.here hx rfl (hb hby at_188) ?_
            show Steps p.tables e below (T405.setTop (mkF m 189 #[.val (.int p1), .val (.int p2), .val (.int p3), .val (.int p4), .val (.int p5), .val (.int p6), .val (.ref b7), .val (.ref b17), .val (.ref b22), .val (.ref b72), .val (.int (1 : Int32)), .val (.ref a355), .val (.int (0 : Int32)), .val (.ref b403), .unset, .unset, .unset] [.null])) _
            refine XS.astore X405.here hx rfl (hb hby at_189) rfl rfl (l' := #[.val (.int p1), .val (.int p2), .val (.int p3), .val (.int p4), .val (.int p5), .val (.int p6), .val (.ref b7), .val (.ref b17), .val (.ref b22), .val (.ref b72), .val (.int (1 : Int32)), .val (.ref a355), .val (.int (0 : Int32)), .val (.ref b403), .val .null, .unset, .unset]) rfl ?_
            show Steps p.tables e below (T405.setTop (mkF m 191 #[.val (.int p1), .val (.int p2), .val (.int p3), .val (.int p4), .val (.int p5), .val (.int p6), .val (.ref b7), .val (.ref b17), .val (.ref b22), .val (.ref b72), .val (.int (1 : Int32)), .val (.ref a355), .val (.int (0 : Int32)), .val (.ref b403), .val .null, .unset, .unset] [])) _
            refine st421 _ ?_
            show Steps p.tables e below (T421.setTop (mkF m 194 #[.val (.int p1), .val (.int p2), .val (.int p3), .val (.int p4), .val (.int p5), .val (.int p6), .val (.ref b7), .val (.ref b17), .val (.ref b22), .val (.ref b72), .val (.int (1 : Int32)), .val (.ref a355), .val (.int (0 : Int32)), .val (.ref b403), .val .null, .unset, .unset] [(.ref b421)])) _
            refine XS.dup X421.here hx rfl (hb hby at_194) rfl rfl ?_
            show Steps p.tables e below (T421.setTop (mkF m 195 #[.val (.int p1), .val (.int p2), .val (.int p3), .val (.int p4), .val (.int p5), .val (.int p6), .val (.ref b7), .val (.ref b17), .val (.ref b22), .val (.ref b72), .val (.int (1 : Int32)), .val (.ref a355), .val (.int (0 : Int32)), .val (.ref b403), .val .null, .unset, .unset] [(.ref b421), (.ref b421)])) _
            refine XS.aload X421.here hx rfl (hb hby at_195) rfl rfl ?_
            show Steps p.tables e below (T421.setTop (mkF m 197 #[.val (.int p1), .val (.int p2), .val (.int p3), .val (.int p4), .val (.int p5), .val (.int p6), .val (.ref b7), .val (.ref b17), .val (.ref b22), .val (.ref b72), .val (.int (1 : Int32)), .val (.ref a355), .val (.int (0 : Int32)), .val (.ref b403), .val .null, .unset, .unset] [.null, (.ref b421), (.ref b421)])) _
            refine XS.aload X421.here hx rfl (hb hby at_197) rfl rfl ?_
            show Steps p.tables e below (T421.setTop (mkF m 199 #[.val (.int p1), .val (.int p2), .val (.int p3), .val (.int p4), .val (.int p5), .val (.int p6), .val (.ref b7), .val (.ref b17), .val (.ref b22), .val (.ref b72), .val (.int (1 : Int32)), .val (.ref a355), .val (.int (0 : Int32)), .val (.ref b403), .val .null, .unset, .unset] [(.ref b72), .null, (.ref b421), (.ref b421)])) _
            refine st422 _ ?_
            show Steps p.tables e below (T422.setTop (mkF m 202 #[.val (.int p1), .val (.int p2), .val (.int p3), .val (.int p4), .val (.int p5), .val (.int p6), .val (.ref b7), .val (.ref b17), .val (.ref b22), .val (.ref b72), .val (.int (1 : Int32)), .val (.ref a355), .val (.int (0 : Int32)), .val (.ref b403), .val .null, .unset, .unset] [(.ref b422), (.ref b72), .null, (.ref b421), (.ref b421)])) _
            refine XS.dup X422.here hx rfl (hb hby at_202) rfl rfl ?_
            show Steps p.tables e below (T422.setTop (mkF m 203 #[.val (.int p1), .val (.int p2), .val (.int p3), .val (.int p4), .val (.int p5), .val (.int p6), .val (.ref b7), .val (.ref b17), .val (.ref b22), .val (.ref b72), .val (.int (1 : Int32)), .val (.ref a355), .val (.int (0 : Int32)), .val (.ref b403), .val .null, .unset, .unset] [(.ref b422), (.ref b422), (.ref b72), .null, (.ref b421), (.ref b421)])) _
            refine XS.aload X422.here hx rfl (hb hby at_203) rfl rfl ?_
            show Steps p.tables e below (T422.setTop (mkF m 205 #[.val (.int p1), .val (.int p2), .val (.int p3), .val (.int p4), .val (.int p5), .val (.int p6), .val (.ref b7), .val (.ref b17), .val (.ref b22), .val (.ref b72), .val (.int (1 : Int32)), .val (.ref a355), .val (.int (0 : Int32)), .val (.ref b403), .val .null, .unset, .unset] [(.ref b7), (.ref b422), (.ref b422), (.ref b72), .null, (.ref b421), (.ref b421)])) _
            refine st424.trans ?_
            exact kt
          obtain rfl : i30 = i426 := (u429.trans u33.symm).symm
          obtain rfl : i29 = i425 := (u430.trans u34.symm).symm
          have f442 : Exa Z T424.heap b421 "com/example/stemline/stemline/graph/Edge" := ((Exa.ext E422 A421).keep Ku435)
          have f443 : Fld Z T424.heap b421 "com/example/stemline/stemline/graph/Edge" "file" "Ljava/lang/String;" .null := ((Fld.ext E422 D421_102).keep Ku435 (ninS (Nat.ne_of_lt (Nat.lt_of_lt_of_le lt_b421 bd_b422)) nin0))
          have f444 : Fld Z T424.heap b421 "com/example/stemline/stemline/graph/Edge" "line" "I" (.int (0 : Int32)) := ((Fld.ext E422 D421_104).keep Ku435 (ninS (Nat.ne_of_lt (Nat.lt_of_lt_of_le lt_b421 bd_b422)) nin0))
          have f445 : Fld Z T424.heap b421 "com/example/stemline/stemline/graph/Edge" "source" "Lcom/example/stemline/stemline/model/ColumnSource;" .null := ((Fld.ext E422 D421_98).keep Ku435 (ninS (Nat.ne_of_lt (Nat.lt_of_lt_of_le lt_b421 bd_b422)) nin0))
          have f446 : Fld Z T424.heap b421 "com/example/stemline/stemline/graph/Edge" "target" "Lcom/example/stemline/stemline/model/TableColumn;" .null := ((Fld.ext E422 D421_100).keep Ku435 (ninS (Nat.ne_of_lt (Nat.lt_of_lt_of_le lt_b421 bd_b422)) nin0))
          obtain ⟨_, _, ⟨T447, L447, k447, n447⟩, -, X447, sn447, gr447, ⟨Lc447, hQ447, l447, y447, z447⟩, st447⟩ := X424.specialBackS hx (y := M_12) rfl hown116 (mvT hZ116 (hw _ (gw 90 rfl))) (mvT hZ116 (hw _ (gw 91 rfl))) (mvT hZ116 (hw _ (gw 92 rfl))) (by decide) (backOfS (W := 1) (rm15_19 l Z a0 hw [] b421 b72 b422 p5 T424.heap n0  Ou435 f442 f443 f444 f445 f446 g_b421) hZ116 (hw _ (gw 92 rfl)) (hw _ (gw 89 rfl)) (by decide) (by decide)) (g := (mkF m 210 #[.val (.int p1), .val (.int p2), .val (.int p3), .val (.int p4), .val (.int p5), .val (.int p6), .val (.ref b7), .val (.ref b17), .val (.ref b22), .val (.ref b72), .val (.int (1 : Int32)), .val (.ref a355), .val (.int (0 : Int32)), .val (.ref b403), .val .null, .unset, .unset] [(.int p5), (.ref b422), (.ref b72), .null, (.ref b421), (.ref b421)])) rfl (by rw [hml]; rfl) (Steps.refl _) (a := b421) (argsL := [.null, (.ref b72), (.ref b422), (.int p5)]) (rest := [(.ref b421)]) (lenOf pd_12 rfl) rfl (by show 2 * 0 + _ ≤ _; exact Nat.le_of_eq rfl) (hb hby at_210) (fun _ _ => ⟨rfl, rfl, (by decide : 25 + 4 ≤ _), (by decide : 131 + 48 ≤ _)⟩)
          dsimp only [Pt.U, Pt.locs, Pt.cells, Pt.slots] at X447 l447 y447 z447 st447 hQ447 sn447 gr447
          subst l447 y447 z447
          have gs447 : T424.heap.size ≤ T447.heap.size := gr447
          have hS447 : s.Since T447.vm T447.heap.size := hS116.trans sn447 (Nat.le_trans (Nat.le_trans (Nat.le_trans (Nat.le_trans (Nat.le_trans (Nat.le_trans (Nat.le_refl _) E403.1) Ku414.1) E421.1) E422.1) Ku435.1) gs447)
          have hZ447 : Z.Warmed39 (s.setVm T447.vm).vm := State.Warmed39.trans (t := (s.setVm T116.vm)) hZ116 sn447.1
          have hown447 : (s.setVm T447.vm).vm.findClass "com/example/stemline/stemline/graph/EdgeSourceColumnPinLaw" = some m.cls := by rw [show (s.setVm T447.vm).vm = T447.vm from rfl, sn447.1.alike.findClass]; exact hown116
          obtain ⟨rfl, u449, Ku450, u451, u452, u453, u454, u455⟩ := hQ447
          have Ou450 : Old Z n0 T447.heap := Ou435.keep Ku450 (allS g_b421 all0)
          have N447 := Fr.app N424 u449
          obtain ⟨cq456, kq456, q456a, q456b, q456c⟩ := isOf hZ447 rfl u451
          obtain ⟨_, _, ⟨T456, L456, k456, n456⟩, -, X456, ⟨Lc456, hQ456, l456, y456, z456⟩, st456⟩ := X447.virtualBack hx (y := M_13) (z := M_13) hown447 (mvT hZ447 (hw _ (gw 105 rfl))) (mvT hZ447 (hw _ (gw 106 rfl))) (notFace_of_selects (args := #[]) (mvT hZ447 (hw _ (gw 108 rfl)))) (mvT hZ447 (hw _ (gw 108 rfl))) (mvT hZ447 (hw _ (gw 107 rfl))) (by decide) (backOf (W := 0) (rm16_20 l Z a0 hw [] b421 T447.heap n0  Ou450 u454) hZ447 (hw _ (gw 109 rfl)) (hw _ (gw 89 rfl)) (by decide) (by decide)) q456a q456c (g := (mkF m 217 #[.val (.int p1), .val (.int p2), .val (.int p3), .val (.int p4), .val (.int p5), .val (.int p6), .val (.ref b7), .val (.ref b17), .val (.ref b22), .val (.ref b72), .val (.int (1 : Int32)), .val (.ref a355), .val (.int (0 : Int32)), .val (.ref b403), .val .null, .val (.ref b421), .unset] [(.ref b421)])) rfl (by rw [hml]; rfl) (Steps.refl _) (argsL := []) (rest := []) (lenOf pd_13 rfl) rfl (by show 2 * 0 + _ ≤ _; exact Nat.le_of_eq rfl) (hb hby at_217) (fun _ _ => ⟨rfl, rfl, (by decide : 29 + 0 ≤ _), (by decide : 179 + 0 ≤ _)⟩)
          dsimp only [Pt.U, Pt.locs, Pt.cells, Pt.slots] at X456 l456 y456 z456 st456 hQ456
          subst l456 y456 z456
          obtain ⟨rfl, u458, u459⟩ := hQ456
          have N456 := Fr.app N447 u458
          obtain ⟨fs, hr, hrun, hended, hEnd⟩ := X456.leaveW (s := s) (vm₁ := T447.vm) hS447 (by rw [u459]; exact (Nat.le_refl _)) (v := some (.int (1 : Int32))) (fun h => by rw [Bd.returns] at h; cases h)
          refine ⟨_, _, pre441 _ ?_, hrun, hended, _, _, rfl, ?_, hEnd.1, hEnd.2.1, hEnd.2.2.1, hEnd.2.2.2.mono (by decide) (by decide)⟩
          · show Steps p.tables e below (T424.setTop (mkF m 208 #[.val (.int p1), .val (.int p2), .val (.int p3), .val (.int p4), .val (.int p5), .val (.int p6), .val (.ref b7), .val (.ref b17), .val (.ref b22), .val (.ref b72), .val (.int (1 : Int32)), .val (.ref a355), .val (.int (0 : Int32)), .val (.ref b403), .val .null, .unset, .unset] [(.ref b422), (.ref b72), .null, (.ref b421), (.ref b421)])) _
            refine XS.iload X424.here hx rfl (hb hby at_208) rfl ?_
            show Steps p.tables e below (T424.setTop (mkF m 210 #[.val (.int p1), .val (.int p2), .val (.int p3), .val (.int p4), .val (.int p5), .val (.int p6), .val (.ref b7), .val (.ref b17), .val (.ref b22), .val (.ref b72), .val (.int (1 : Int32)), .val (.ref a355), .val (.int (0 : Int32)), .val (.ref b403), .val .null, .unset, .unset] [(.int p5), (.ref b422), (.ref b72), .null, (.ref b421), (.ref b421)])) _
            refine st447.trans ?_
            show Steps p.tables e below (T447.setTop (mkF m 213 #[.val (.int p1), .val (.int p2), .val (.int p3), .val (.int p4), .val (.int p5), .val (.int p6), .val (.ref b7), .val (.ref b17), .val (.ref b22), .val (.ref b72), .val (.int (1 : Int32)), .val (.ref a355), .val (.int (0 : Int32)), .val (.ref b403), .val .null, .unset, .unset] [(.ref b421)])) _
            refine XS.astore X447.here hx rfl (hb hby at_213) rfl rfl (l' := #[.val (.int p1), .val (.int p2), .val (.int p3), .val (.int p4), .val (.int p5), .val (.int p6), .val (.ref b7), .val (.ref b17), .val (.ref b22), .val (.ref b72), .val (.int (1 : Int32)), .val (.ref a355), .val (.int (0 : Int32)), .val (.ref b403), .val .null, .val (.ref b421), .unset]) rfl ?_
            show Steps p.tables e below (T447.setTop (mkF m 215 #[.val (.int p1), .val (.int p2), .val (.int p3), .val (.int p4), .val (.int p5), .val (.int p6), .val (.ref b7), .val (.ref b17), .val (.ref b22), .val (.ref b72), .val (.int (1 : Int32)), .val (.ref a355), .val (.int (0 : Int32)), .val (.ref b403), .val .null, .val (.ref b421), .unset] [])) _
            refine XS.aload X447.here hx rfl (hb hby at_215) rfl rfl ?_
            show Steps p.tables e below (T447.setTop (mkF m 217 #[.val (.int p1), .val (.int p2), .val (.int p3), .val (.int p4), .val (.int p5), .val (.int p6), .val (.ref b7), .val (.ref b17), .val (.ref b22), .val (.ref b72), .val (.int (1 : Int32)), .val (.ref a355), .val (.int (0 : Int32)), .val (.ref b403), .val .null, .val (.ref b421), .unset] [(.ref b421)])) _
            refine st456.trans ?_
            show Steps p.tables e below (T456.setTop (mkF m 220 #[.val (.int p1), .val (.int p2), .val (.int p3), .val (.int p4), .val (.int p5), .val (.int p6), .val (.ref b7), .val (.ref b17), .val (.ref b22), .val (.ref b72), .val (.int (1 : Int32)), .val (.ref a355), .val (.int (0 : Int32)), .val (.ref b403), .val .null, .val (.ref b421), .unset] [.null])) _
            refine XS.astore X456.here hx rfl (hb hby at_220) rfl rfl (l' := #[.val (.int p1), .val (.int p2), .val (.int p3), .val (.int p4), .val (.int p5), .val (.int p6), .val (.ref b7), .val (.ref b17), .val (.ref b22), .val (.ref b72), .val (.int (1 : Int32)), .val (.ref a355), .val (.int (0 : Int32)), .val (.ref b403), .val .null, .val (.ref b421), .val .null]) rfl ?_
            show Steps p.tables e below (T456.setTop (mkF m 222 #[.val (.int p1), .val (.int p2), .val (.int p3), .val (.int p4), .val (.int p5), .val (.int p6), .val (.ref b7), .val (.ref b17), .val (.ref b22), .val (.ref b72), .val (.int (1 : Int32)), .val (.ref a355), .val (.int (0 : Int32)), .val (.ref b403), .val .null, .val (.ref b421), .val .null] [])) _
            refine XS.iload X456.here hx rfl (hb hby at_222) rfl ?_
            show Steps p.tables e below (T456.setTop (mkF m 224 #[.val (.int p1), .val (.int p2), .val (.int p3), .val (.int p4), .val (.int p5), .val (.int p6), .val (.ref b7), .val (.ref b17), .val (.ref b22), .val (.ref b72), .val (.int (1 : Int32)), .val (.ref a355), .val (.int (0 : Int32)), .val (.ref b403), .val .null, .val (.ref b421), .val .null] [(.int (0 : Int32))])) _
            refine XS.ifNo X456.here hx rfl (hb hby at_224) rfl ((if0 _ _).trans (teq (by decide +kernel : (0 : Int32) = (0 : Int32))).2) ?_
            show Steps p.tables e below (T456.setTop (mkF m 227 #[.val (.int p1), .val (.int p2), .val (.int p3), .val (.int p4), .val (.int p5), .val (.int p6), .val (.ref b7), .val (.ref b17), .val (.ref b22), .val (.ref b72), .val (.int (1 : Int32)), .val (.ref a355), .val (.int (0 : Int32)), .val (.ref b403), .val .null, .val (.ref b421), .val .null] [])) _
            refine XS.aload X456.here hx rfl (hb hby at_227) rfl rfl ?_
            show Steps p.tables e below (T456.setTop (mkF m 229 #[.val (.int p1), .val (.int p2), .val (.int p3), .val (.int p4), .val (.int p5), .val (.int p6), .val (.ref b7), .val (.ref b17), .val (.ref b22), .val (.ref b72), .val (.int (1 : Int32)), .val (.ref a355), .val (.int (0 : Int32)), .val (.ref b403), .val .null, .val (.ref b421), .val .null] [.null])) _
            refine XS.ifnonnullNo X456.here hx rfl (hb hby at_229) rfl ?_
            show Steps p.tables e below (T456.setTop (mkF m 232 #[.val (.int p1), .val (.int p2), .val (.int p3), .val (.int p4), .val (.int p5), .val (.int p6), .val (.ref b7), .val (.ref b17), .val (.ref b22), .val (.ref b72), .val (.int (1 : Int32)), .val (.ref a355), .val (.int (0 : Int32)), .val (.ref b403), .val .null, .val (.ref b421), .val .null] [])) _
            refine XS.iconst X456.here hx rfl (hb hby at_232) ?_
            show Steps p.tables e below (T456.setTop (mkF m 233 #[.val (.int p1), .val (.int p2), .val (.int p3), .val (.int p4), .val (.int p5), .val (.int p6), .val (.ref b7), .val (.ref b17), .val (.ref b22), .val (.ref b72), .val (.int (1 : Int32)), .val (.ref a355), .val (.int (0 : Int32)), .val (.ref b403), .val .null, .val (.ref b421), .val .null] [(.int (1 : Int32))])) _
            refine XS.goto X456.here hx rfl (pc0 := 233) (pc' := 237) rfl (hb hby at_233) (by decide) (by decide) ?_
            show Steps p.tables e below (T456.setTop (mkF m 237 #[.val (.int p1), .val (.int p2), .val (.int p3), .val (.int p4), .val (.int p5), .val (.int p6), .val (.ref b7), .val (.ref b17), .val (.ref b22), .val (.ref b72), .val (.int (1 : Int32)), .val (.ref a355), .val (.int (0 : Int32)), .val (.ref b403), .val .null, .val (.ref b421), .val .null] [(.int (1 : Int32))])) _
            exact retN X456 hx (t := .boolean) Bd.returns (by simp) (hb hby at_237) hr
          · show Q0 Z _ _ _ _ _ _ _ _ _ _ h0 n0 _ T456.heap _
            rw [u459]
            exact ⟨rfl, N456⟩
      · skip
        obtain ⟨i460, hi460⟩ : ∃ z, z = (p6 &&& (8 : Int32)) := ⟨_, rfl⟩
        have pre461 : ∀ t, Steps p.tables e below (T357.setTop (mkF m 149 #[.val (.int p1), .val (.int p2), .val (.int p3), .val (.int p4), .val (.int p5), .val (.int p6), .val (.ref b7), .val (.ref b17), .val (.ref b22), .val (.ref b72), .val (.int (1 : Int32)), .val (.ref a355), .val (.int (1 : Int32)), .unset, .unset, .unset, .unset] [(.int i460)])) t → Steps p.tables e below (s₁.setTop (entryFrame m #[(.int p1), (.int p2), (.int p3), (.int p4), (.int p5), (.int p6)] maxLocals)) t := by
          intro t kt
          refine pre359 t ?_
          show Steps p.tables e below (T357.setTop (mkF m 134 #[.val (.int p1), .val (.int p2), .val (.int p3), .val (.int p4), .val (.int p5), .val (.int p6), .val (.ref b7), .val (.ref b17), .val (.ref b22), .val (.ref b72), .val (.int (1 : Int32)), .val (.ref a355), .unset, .unset, .unset, .unset, .unset] [(.int i358)])) _
          refine XS.ifNo X357.here hx rfl (hb hby at_134) rfl ((if0 _ _).trans (feq hc360).1) ?_
          show Steps p.tables e below (T357.setTop (mkF m 137 #[.val (.int p1), .val (.int p2), .val (.int p3), .val (.int p4), .val (.int p5), .val (.int p6), .val (.ref b7), .val (.ref b17), .val (.ref b22), .val (.ref b72), .val (.int (1 : Int32)), .val (.ref a355), .unset, .unset, .unset, .unset, .unset] [])) _
          refine XS.iconst X357.here hx rfl (hb hby at_137) ?_
          show Steps p.tables e below (T357.setTop (mkF m 138 #[.val (.int p1), .val (.int p2), .val (.int p3), .val (.int p4), .val (.int p5), .val (.int p6), .val (.ref b7), .val (.ref b17), .val (.ref b22), .val (.ref b72), .val (.int (1 : Int32)), .val (.ref a355), .unset, .unset, .unset, .unset, .unset] [(.int (1 : Int32))])) _
          refine XS.goto X357.here hx rfl (pc0 := 138) (pc' := 142) rfl (hb hby at_138) (by decide) (by decide) ?_
          show Steps p.tables e below (T357.setTop (mkF m 142 #[.val (.int p1), .val (.int p2), .val (.int p3), .val (.int p4), .val (.int p5), .val (.int p6), .val (.ref b7), .val (.ref b17), .val (.ref b22), .val (.ref b72), .val (.int (1 : Int32)), .val (.ref a355), .unset, .unset, .unset, .unset, .unset] [(.int (1 : Int32))])) _
          refine XS.istore X357.here hx rfl (hb hby at_142) rfl (l' := #[.val (.int p1), .val (.int p2), .val (.int p3), .val (.int p4), .val (.int p5), .val (.int p6), .val (.ref b7), .val (.ref b17), .val (.ref b22), .val (.ref b72), .val (.int (1 : Int32)), .val (.ref a355), .val (.int (1 : Int32)), .unset, .unset, .unset, .unset]) rfl ?_
          show Steps p.tables e below (T357.setTop (mkF m 144 #[.val (.int p1), .val (.int p2), .val (.int p3), .val (.int p4), .val (.int p5), .val (.int p6), .val (.ref b7), .val (.ref b17), .val (.ref b22), .val (.ref b72), .val (.int (1 : Int32)), .val (.ref a355), .val (.int (1 : Int32)), .unset, .unset, .unset, .unset] [])) _
          refine XS.iload X357.here hx rfl (hb hby at_144) rfl ?_
          show Steps p.tables e below (T357.setTop (mkF m 146 #[.val (.int p1), .val (.int p2), .val (.int p3), .val (.int p4), .val (.int p5), .val (.int p6), .val (.ref b7), .val (.ref b17), .val (.ref b22), .val (.ref b72), .val (.int (1 : Int32)), .val (.ref a355), .val (.int (1 : Int32)), .unset, .unset, .unset, .unset] [(.int p6)])) _
          refine XS.bipush X357.here hx rfl (hb hby at_146) ?_
          show Steps p.tables e below (T357.setTop (mkF m 148 #[.val (.int p1), .val (.int p2), .val (.int p3), .val (.int p4), .val (.int p5), .val (.int p6), .val (.ref b7), .val (.ref b17), .val (.ref b22), .val (.ref b72), .val (.int (1 : Int32)), .val (.ref a355), .val (.int (1 : Int32)), .unset, .unset, .unset, .unset] [(.int (8 : Int32)), (.int p6)])) _
          refine XS.iand X357.here hx rfl (hb hby at_148) rfl ?_
          show Steps p.tables e below (T357.setTop (mkF m 149 #[.val (.int p1), .val (.int p2), .val (.int p3), .val (.int p4), .val (.int p5), .val (.int p6), .val (.ref b7), .val (.ref b17), .val (.ref b22), .val (.ref b72), .val (.int (1 : Int32)), .val (.ref a355), .val (.int (1 : Int32)), .unset, .unset, .unset, .unset] [(.int (p6 &&& (8 : Int32)))])) _
          rw [← hi460]
          exact kt
        by_cases hc462 : i460 = (0 : Int32)
        · skip
          subst hc462
          obtain ⟨T463, h463, X463, e463, E463, A463, D463, -, st463⟩ := newO X357 hx hZ116 hown116 (hw _ (gw 71 rfl)) (hw _ (gw 72 rfl)) (hw _ (gw 73 rfl)) e357 (g := (mkF m 172 #[.val (.int p1), .val (.int p2), .val (.int p3), .val (.int p4), .val (.int p5), .val (.int p6), .val (.ref b7), .val (.ref b17), .val (.ref b22), .val (.ref b72), .val (.int (1 : Int32)), .val (.ref a355), .val (.int (1 : Int32)), .val .null, .unset, .unset, .unset] [])) rfl (hb hby at_172) (by decide) (by decide)
          obtain ⟨b463, g463⟩ : ∃ z, z = T116.heap.size := ⟨_, rfl⟩
          rw [← g463] at A463 D463 st463
          have O463 : Old Z n0 h463 := Ou119.ext E463
          have bd_b463 : T116.heap.size ≤ b463 := Nat.le_of_eq g463.symm
          have g_b463 : n0 ≤ b463 := Nat.le_trans (own_z Ou119) bd_b463
          have sz_b463 : h0.size ≤ b463 := Nat.le_trans (Nat.le_trans (Nat.le_trans (Nat.le_trans (Nat.le_trans (Nat.le_trans (Nat.le_trans (Nat.le_trans (Nat.le_trans (Nat.le_trans (Nat.le_trans (Nat.le_trans (Nat.le_trans (Nat.le_trans (Nat.le_trans E7.1 (Keep.of_wr W11).1) (Keep.of_wr W16).1) E17.1) (Keep.of_wr W21).1) E22.1) E23.1) Ku39.1) E45.1) Ku56.1) Ku68.1) E72.1) Ku87.1) Ku107.1) Ku119.1) bd_b463
          have lt_b463 : b463 < h463.size := A463.lt
          have D463_82 : Fld Z h463 b463 "com/example/stemline/stemline/model/ColumnSource" "column" "Lcom/example/stemline/stemline/model/TableColumn;" .null := D463 (Or.inr (hw _ (gw 82 rfl))) (ty := (.object "com/example/stemline/stemline/model/TableColumn")) (by decide)
          have D463_84 : Fld Z h463 b463 "com/example/stemline/stemline/model/ColumnSource" "kind" "Lcom/example/stemline/stemline/model/SourceKind;" .null := D463 (Or.inr (hw _ (gw 84 rfl))) (ty := (.object "com/example/stemline/stemline/model/SourceKind")) (by decide)
          have D463_86 : Fld Z h463 b463 "com/example/stemline/stemline/model/ColumnSource" "expression" "Ljava/lang/String;" .null := D463 (Or.inr (hw _ (gw 86 rfl))) (ty := (.object "java/lang/String")) (by decide)
          obtain ⟨_, _, ⟨T464, L464, k464, n464⟩, -, X464, sn464, gr464, ⟨Lc464, hQ464, l464, y464, z464⟩, st464⟩ := X463.specialBackS hx (y := M_14) rfl hown116 (mvT hZ116 (hw _ (gw 74 rfl))) (mvT hZ116 (hw _ (gw 75 rfl))) (mvT hZ116 (hw _ (gw 76 rfl))) (by decide) (backOfS (W := 1) (rm14_21 l Z a0 hw [] b463 b22 a355 h463 n0  O463 A463 D463_82 D463_86 D463_84 g_b463) hZ116 (hw _ (gw 76 rfl)) (hw _ (gw 73 rfl)) (by decide) (by decide)) (g := (mkF m 182 #[.val (.int p1), .val (.int p2), .val (.int p3), .val (.int p4), .val (.int p5), .val (.int p6), .val (.ref b7), .val (.ref b17), .val (.ref b22), .val (.ref b72), .val (.int (1 : Int32)), .val (.ref a355), .val (.int (1 : Int32)), .val .null, .unset, .unset, .unset] [.null, (.ref a355), (.ref b22), (.ref b463), (.ref b463)])) rfl (by rw [hml]; rfl) (Steps.refl _) (a := b463) (argsL := [(.ref b22), (.ref a355), .null]) (rest := [(.ref b463)]) (lenOf pd_14 rfl) rfl (by show 2 * 0 + _ ≤ _; exact Nat.le_of_eq rfl) (hb hby at_182) (fun _ _ => ⟨rfl, e463, (by decide : 21 + 4 ≤ _), (by decide : 119 + 48 ≤ _)⟩)
          dsimp only [Pt.U, Pt.locs, Pt.cells, Pt.slots] at X464 l464 y464 z464 st464 hQ464 sn464 gr464
          subst l464 y464 z464
          have gs464 : h463.size ≤ T464.heap.size := by have q := gr464; rw [e463] at q; exact q
          have hS464 : s.Since T464.vm T464.heap.size := hS116.trans sn464 (Nat.le_trans (Nat.le_trans (Nat.le_refl _) E463.1) gs464)
          have hZ464 : Z.Warmed39 (s.setVm T464.vm).vm := State.Warmed39.trans (t := (s.setVm T116.vm)) hZ116 sn464.1
          have hown464 : (s.setVm T464.vm).vm.findClass "com/example/stemline/stemline/graph/EdgeSourceColumnPinLaw" = some m.cls := by rw [show (s.setVm T464.vm).vm = T464.vm from rfl, sn464.1.alike.findClass]; exact hown116
          obtain ⟨rfl, u466, Ku467, u468, u469, u470, u471⟩ := hQ464
          have Ou467 : Old Z n0 T464.heap := O463.keep Ku467 (allS g_b463 all0)
          have N464 := Fr.app N116 u466
          obtain ⟨T472, h472, X472, e472, E472, A472, D472, -, st472⟩ := newO X464 hx hZ464 hown464 (hw _ (gw 87 rfl)) (hw _ (gw 88 rfl)) (hw _ (gw 89 rfl)) rfl (g := (mkF m 191 #[.val (.int p1), .val (.int p2), .val (.int p3), .val (.int p4), .val (.int p5), .val (.int p6), .val (.ref b7), .val (.ref b17), .val (.ref b22), .val (.ref b72), .val (.int (1 : Int32)), .val (.ref a355), .val (.int (1 : Int32)), .val .null, .val (.ref b463), .unset, .unset] [])) rfl (hb hby at_191) (by decide) (by decide)
          obtain ⟨b472, g472⟩ : ∃ z, z = T464.heap.size := ⟨_, rfl⟩
          rw [← g472] at A472 D472 st472
          have O472 : Old Z n0 h472 := Ou467.ext E472
          have bd_b472 : T464.heap.size ≤ b472 := Nat.le_of_eq g472.symm
          have g_b472 : n0 ≤ b472 := Nat.le_trans (own_z Ou467) bd_b472
          have sz_b472 : h0.size ≤ b472 := Nat.le_trans (Nat.le_trans (Nat.le_trans (Nat.le_trans (Nat.le_trans (Nat.le_trans (Nat.le_trans (Nat.le_trans (Nat.le_trans (Nat.le_trans (Nat.le_trans (Nat.le_trans (Nat.le_trans (Nat.le_trans (Nat.le_trans (Nat.le_trans (Nat.le_trans E7.1 (Keep.of_wr W11).1) (Keep.of_wr W16).1) E17.1) (Keep.of_wr W21).1) E22.1) E23.1) Ku39.1) E45.1) Ku56.1) Ku68.1) E72.1) Ku87.1) Ku107.1) Ku119.1) E463.1) Ku467.1) bd_b472
          have lt_b472 : b472 < h472.size := A472.lt
          have D472_98 : Fld Z h472 b472 "com/example/stemline/stemline/graph/Edge" "source" "Lcom/example/stemline/stemline/model/ColumnSource;" .null := D472 (Or.inr (hw _ (gw 98 rfl))) (ty := (.object "com/example/stemline/stemline/model/ColumnSource")) (by decide)
          have D472_100 : Fld Z h472 b472 "com/example/stemline/stemline/graph/Edge" "target" "Lcom/example/stemline/stemline/model/TableColumn;" .null := D472 (Or.inr (hw _ (gw 100 rfl))) (ty := (.object "com/example/stemline/stemline/model/TableColumn")) (by decide)
          have D472_102 : Fld Z h472 b472 "com/example/stemline/stemline/graph/Edge" "file" "Ljava/lang/String;" .null := D472 (Or.inr (hw _ (gw 102 rfl))) (ty := (.object "java/lang/String")) (by decide)
          have D472_104 : Fld Z h472 b472 "com/example/stemline/stemline/graph/Edge" "line" "I" (.int (0 : Int32)) := D472 (Or.inr (hw _ (gw 104 rfl))) (ty := .int) (by decide)
          obtain ⟨T473, h473, X473, e473, E473, A473, D473, -, st473⟩ := newO X472 hx hZ464 hown464 (hw _ (gw 4 rfl)) (hw _ (gw 5 rfl)) (hw _ (gw 6 rfl)) e472 (g := (mkF m 199 #[.val (.int p1), .val (.int p2), .val (.int p3), .val (.int p4), .val (.int p5), .val (.int p6), .val (.ref b7), .val (.ref b17), .val (.ref b22), .val (.ref b72), .val (.int (1 : Int32)), .val (.ref a355), .val (.int (1 : Int32)), .val .null, .val (.ref b463), .unset, .unset] [(.ref b72), (.ref b463), (.ref b472), (.ref b472)])) rfl (hb hby at_199) (by decide) (by decide)
          obtain ⟨b473, g473⟩ : ∃ z, z = h472.size := ⟨_, rfl⟩
          rw [← g473] at A473 D473 st473
          have O473 : Old Z n0 h473 := O472.ext E473
          have bd_b473 : h472.size ≤ b473 := Nat.le_of_eq g473.symm
          have g_b473 : n0 ≤ b473 := Nat.le_trans (own_z O472) bd_b473
          have sz_b473 : h0.size ≤ b473 := Nat.le_trans (Nat.le_trans (Nat.le_trans (Nat.le_trans (Nat.le_trans (Nat.le_trans (Nat.le_trans (Nat.le_trans (Nat.le_trans (Nat.le_trans (Nat.le_trans (Nat.le_trans (Nat.le_trans (Nat.le_trans (Nat.le_trans (Nat.le_trans (Nat.le_trans (Nat.le_trans E7.1 (Keep.of_wr W11).1) (Keep.of_wr W16).1) E17.1) (Keep.of_wr W21).1) E22.1) E23.1) Ku39.1) E45.1) Ku56.1) Ku68.1) E72.1) Ku87.1) Ku107.1) Ku119.1) E463.1) Ku467.1) E472.1) bd_b473
          have lt_b473 : b473 < h473.size := A473.lt
          have D473_30 : Fld Z h473 b473 "java/lang/String" "coder" "B" (.int (0 : Int32)) := D473 (Or.inr (hw _ (gw 30 rfl))) (ty := .byte) (by decide)
          have D473_32 : Fld Z h473 b473 "java/lang/String" "value" "[B" .null := D473 (Or.inr (hw _ (gw 32 rfl))) (ty := (.array .byte)) (by decide)
          have f474 : Arv Z h473 b7 k7 .char (2 : Int32) [(.int i8), (.int i13)] (.int (0 : Int32)) := ((((((((((((f27.keep Ku39 (ninS (Nat.ne_of_lt (Nat.lt_of_lt_of_le (Nat.lt_of_lt_of_le (Nat.lt_of_lt_of_le (Nat.lt_of_lt_of_le (Nat.lt_of_lt_of_le (Nat.lt_of_lt_of_le lt_b7 (Keep.of_wr W11).1) (Keep.of_wr W16).1) E17.1) (Keep.of_wr W21).1) E22.1) bd_b23)) nin0)).ext E45).keep Ku56 (ninS (Nat.ne_of_lt (Nat.lt_of_lt_of_le (Nat.lt_of_lt_of_le (Nat.lt_of_lt_of_le (Nat.lt_of_lt_of_le (Nat.lt_of_lt_of_le (Nat.lt_of_lt_of_le (Nat.lt_of_lt_of_le (Nat.lt_of_lt_of_le lt_b7 (Keep.of_wr W11).1) (Keep.of_wr W16).1) E17.1) (Keep.of_wr W21).1) E22.1) E23.1) Ku39.1) bd_b45)) nin0)).keep Ku68 (ninS (Nat.ne_of_lt (Nat.lt_of_lt_of_le (Nat.lt_of_lt_of_le (Nat.lt_of_lt_of_le (Nat.lt_of_lt_of_le (Nat.lt_of_lt_of_le lt_b7 (Keep.of_wr W11).1) (Keep.of_wr W16).1) E17.1) (Keep.of_wr W21).1) bd_b22)) nin0)).ext E72).keep Ku87 nin0).keep Ku107 nin0).keep Ku119 (ninS (Nat.ne_of_lt (Nat.lt_of_lt_of_le (Nat.lt_of_lt_of_le (Nat.lt_of_lt_of_le (Nat.lt_of_lt_of_le (Nat.lt_of_lt_of_le (Nat.lt_of_lt_of_le (Nat.lt_of_lt_of_le (Nat.lt_of_lt_of_le (Nat.lt_of_lt_of_le (Nat.lt_of_lt_of_le (Nat.lt_of_lt_of_le lt_b7 (Keep.of_wr W11).1) (Keep.of_wr W16).1) E17.1) (Keep.of_wr W21).1) E22.1) E23.1) Ku39.1) E45.1) Ku56.1) Ku68.1) bd_b72)) nin0)).ext E463).keep Ku467 (ninS (Nat.ne_of_lt (Nat.lt_of_lt_of_le (Nat.lt_of_lt_of_le (Nat.lt_of_lt_of_le (Nat.lt_of_lt_of_le (Nat.lt_of_lt_of_le (Nat.lt_of_lt_of_le (Nat.lt_of_lt_of_le (Nat.lt_of_lt_of_le (Nat.lt_of_lt_of_le (Nat.lt_of_lt_of_le (Nat.lt_of_lt_of_le (Nat.lt_of_lt_of_le (Nat.lt_of_lt_of_le (Nat.lt_of_lt_of_le (Nat.lt_of_lt_of_le lt_b7 (Keep.of_wr W11).1) (Keep.of_wr W16).1) E17.1) (Keep.of_wr W21).1) E22.1) E23.1) Ku39.1) E45.1) Ku56.1) Ku68.1) E72.1) Ku87.1) Ku107.1) Ku119.1) bd_b463)) nin0)).ext E472).ext E473)
          obtain ⟨_, _, ⟨T475, L475, k475, n475⟩, -, X475, ⟨Lc475, hQ475, l475, y475, z475⟩, st475⟩ := X473.specialBack hx (y := M_4) rfl hown464 (mvT hZ464 (hw _ (gw 7 rfl))) (mvT hZ464 (hw _ (gw 8 rfl))) (mvT hZ464 (hw _ (gw 9 rfl))) (by decide) (backOf (W := 5) (rm1_2 l Z a0 hw [] b473 b7 i8 i13 k7 p24 h473 n0  O473 f474 S_25 hk26 (own_lt255 hi8) (own_lt255 hi13) A473 D473_30 D473_32 (Nat.lt_of_lt_of_le (Nat.lt_of_lt_of_le (Nat.lt_of_lt_of_le (Nat.lt_of_lt_of_le (Nat.lt_of_lt_of_le (Nat.lt_of_lt_of_le (Nat.lt_of_lt_of_le (Nat.lt_of_lt_of_le (Nat.lt_of_lt_of_le (Nat.lt_of_lt_of_le (Nat.lt_of_lt_of_le (Nat.lt_of_lt_of_le (Nat.lt_of_lt_of_le (Nat.lt_of_lt_of_le (Nat.lt_of_lt_of_le (Nat.lt_of_lt_of_le (Nat.lt_of_lt_of_le (Nat.lt_of_lt_of_le lt_b7 (Keep.of_wr W11).1) (Keep.of_wr W16).1) E17.1) (Keep.of_wr W21).1) E22.1) E23.1) Ku39.1) E45.1) Ku56.1) Ku68.1) E72.1) Ku87.1) Ku107.1) Ku119.1) E463.1) Ku467.1) E472.1) E473.1) g_b473 lt_b473) hZ464 (hw _ (gw 9 rfl)) (hw _ (gw 6 rfl)) (by decide) (by decide)) (g := (mkF m 205 #[.val (.int p1), .val (.int p2), .val (.int p3), .val (.int p4), .val (.int p5), .val (.int p6), .val (.ref b7), .val (.ref b17), .val (.ref b22), .val (.ref b72), .val (.int (1 : Int32)), .val (.ref a355), .val (.int (1 : Int32)), .val .null, .val (.ref b463), .unset, .unset] [(.ref b7), (.ref b473), (.ref b473), (.ref b72), (.ref b463), (.ref b472), (.ref b472)])) rfl (by rw [hml]; rfl) (Steps.refl _) (a := b473) (argsL := [(.ref b7)]) (rest := [(.ref b473), (.ref b72), (.ref b463), (.ref b472), (.ref b472)]) (lenOf pd_4 rfl) rfl (by show 2 * 0 + _ ≤ _; exact Nat.le_of_eq rfl) (hb hby at_205) (fun _ _ => ⟨rfl, e473, (by decide : 27 + 1 ≤ _), (by decide : 175 + 2 ≤ _)⟩)
          dsimp only [Pt.U, Pt.locs, Pt.cells, Pt.slots] at X475 l475 y475 z475 st475 hQ475
          subst l475 y475 z475
          obtain ⟨i476, i477, b478, k479, u480, u481, rfl, u483, u484, u485, Ku486, u487, u488, u489, u490, u491⟩ := hQ475
          have Ou486 : Old Z n0 T475.heap := O473.keep Ku486 (allS g_b473 all0)
          have g_b478 : n0 ≤ b478 := Nat.le_trans (own_z O473) u484
          have sz_b478 : h0.size ≤ b478 := Nat.le_trans (Nat.le_trans (Nat.le_trans (Nat.le_trans (Nat.le_trans (Nat.le_trans (Nat.le_trans (Nat.le_trans (Nat.le_trans (Nat.le_trans (Nat.le_trans (Nat.le_trans (Nat.le_trans (Nat.le_trans (Nat.le_trans (Nat.le_trans (Nat.le_trans (Nat.le_trans (Nat.le_trans E7.1 (Keep.of_wr W11).1) (Keep.of_wr W16).1) E17.1) (Keep.of_wr W21).1) E22.1) E23.1) Ku39.1) E45.1) Ku56.1) Ku68.1) E72.1) Ku87.1) Ku107.1) Ku119.1) E463.1) Ku467.1) E472.1) E473.1) u484
          have N475 := Fr.app N464 u483
          have pre492 : ∀ t, Steps p.tables e below (T475.setTop (mkF m 208 #[.val (.int p1), .val (.int p2), .val (.int p3), .val (.int p4), .val (.int p5), .val (.int p6), .val (.ref b7), .val (.ref b17), .val (.ref b22), .val (.ref b72), .val (.int (1 : Int32)), .val (.ref a355), .val (.int (1 : Int32)), .val .null, .val (.ref b463), .unset, .unset] [(.ref b473), (.ref b72), (.ref b463), (.ref b472), (.ref b472)])) t → Steps p.tables e below (s₁.setTop (entryFrame m #[(.int p1), (.int p2), (.int p3), (.int p4), (.int p5), (.int p6)] maxLocals)) t := by
            intro t kt
            refine pre461 t ?_
            show Steps p.tables e below (T357.setTop (mkF m 149 #[.val (.int p1), .val (.int p2), .val (.int p3), .val (.int p4), .val (.int p5), .val (.int p6), .val (.ref b7), .val (.ref b17), .val (.ref b22), .val (.ref b72), .val (.int (1 : Int32)), .val (.ref a355), .val (.int (1 : Int32)), .unset, .unset, .unset, .unset] [(.int (0 : Int32))])) _
            refine XS.ifYes X357.here hx rfl (pc0 := 149) (pc' := 164) rfl (hb hby at_149) rfl ((if0 _ _).trans (teq (by decide +kernel : (0 : Int32) = (0 : Int32))).1) (by decide) (by decide) ?_
            show Steps p.tables e below (T357.setTop (mkF m 164 #[.val (.int p1), .val (.int p2), .val (.int p3), .val (.int p4), .val (.int p5), .val (.int p6), .val (.ref b7), .val (.ref b17), .val (.ref b22), .val (.ref b72), .val (.int (1 : Int32)), .val (.ref a355), .val (.int (1 : Int32)), .unset, .unset, .unset, .unset] [])) _
            refine XS.aconstNull X357.here hx rfl (hb hby at_164) ?_
            show Steps p.tables e below (T357.setTop (mkF m 165 #[.val (.int p1), .val (.int p2), .val (.int p3), .val (.int p4), .val (.int p5), .val (.int p6), .val (.ref b7), .val (.ref b17), .val (.ref b22), .val (.ref b72), .val (.int (1 : Int32)), .val (.ref a355), .val (.int (1 : Int32)), .unset, .unset, .unset, .unset] [.null])) _
            refine XS.astore X357.here hx rfl (hb hby at_165) rfl rfl (l' := #[.val (.int p1), .val (.int p2), .val (.int p3), .val (.int p4), .val (.int p5), .val (.int p6), .val (.ref b7), .val (.ref b17), .val (.ref b22), .val (.ref b72), .val (.int (1 : Int32)), .val (.ref a355), .val (.int (1 : Int32)), .val .null, .unset, .unset, .unset]) rfl ?_
            show Steps p.tables e below (T357.setTop (mkF m 167 #[.val (.int p1), .val (.int p2), .val (.int p3), .val (.int p4), .val (.int p5), .val (.int p6), .val (.ref b7), .val (.ref b17), .val (.ref b22), .val (.ref b72), .val (.int (1 : Int32)), .val (.ref a355), .val (.int (1 : Int32)), .val .null, .unset, .unset, .unset] [])) _
            refine XS.iload X357.here hx rfl (hb hby at_167) rfl ?_
            show Steps p.tables e below (T357.setTop (mkF m 169 #[.val (.int p1), .val (.int p2), .val (.int p3), .val (.int p4), .val (.int p5), .val (.int p6), .val (.ref b7), .val (.ref b17), .val (.ref b22), .val (.ref b72), .val (.int (1 : Int32)), .val (.ref a355), .val (.int (1 : Int32)), .val .null, .unset, .unset, .unset] [(.int (1 : Int32))])) _
            refine XS.ifNo X357.here hx rfl (hb hby at_169) rfl ((if0 _ _).trans (feq (by decide +kernel : ¬ ((1 : Int32) = (0 : Int32)))).1) ?_
            show Steps p.tables e below (T357.setTop (mkF m 172 #[.val (.int p1), .val (.int p2), .val (.int p3), .val (.int p4), .val (.int p5), .val (.int p6), .val (.ref b7), .val (.ref b17), .val (.ref b22), .val (.ref b72), .val (.int (1 : Int32)), .val (.ref a355), .val (.int (1 : Int32)), .val .null, .unset, .unset, .unset] [])) _
            refine st463 _ ?_
            show Steps p.tables e below (T463.setTop (mkF m 175 #[.val (.int p1), .val (.int p2), .val (.int p3), .val (.int p4), .val (.int p5), .val (.int p6), .val (.ref b7), .val (.ref b17), .val (.ref b22), .val (.ref b72), .val (.int (1 : Int32)), .val (.ref a355), .val (.int (1 : Int32)), .val .null, .unset, .unset, .unset] [(.ref b463)])) _
            refine XS.dup X463.here hx rfl (hb hby at_175) rfl rfl ?_
            show Steps p.tables e below (T463.setTop (mkF m 176 #[.val (.int p1), .val (.int p2), .val (.int p3), .val (.int p4), .val (.int p5), .val (.int p6), .val (.ref b7), .val (.ref b17), .val (.ref b22), .val (.ref b72), .val (.int (1 : Int32)), .val (.ref a355), .val (.int (1 : Int32)), .val .null, .unset, .unset, .unset] [(.ref b463), (.ref b463)])) _
            refine XS.aload X463.here hx rfl (hb hby at_176) rfl rfl ?_
            show Steps p.tables e below (T463.setTop (mkF m 178 #[.val (.int p1), .val (.int p2), .val (.int p3), .val (.int p4), .val (.int p5), .val (.int p6), .val (.ref b7), .val (.ref b17), .val (.ref b22), .val (.ref b72), .val (.int (1 : Int32)), .val (.ref a355), .val (.int (1 : Int32)), .val .null, .unset, .unset, .unset] [(.ref b22), (.ref b463), (.ref b463)])) _
            refine XS.aload X463.here hx rfl (hb hby at_178) rfl rfl ?_
            show Steps p.tables e below (T463.setTop (mkF m 180 #[.val (.int p1), .val (.int p2), .val (.int p3), .val (.int p4), .val (.int p5), .val (.int p6), .val (.ref b7), .val (.ref b17), .val (.ref b22), .val (.ref b72), .val (.int (1 : Int32)), .val (.ref a355), .val (.int (1 : Int32)), .val .null, .unset, .unset, .unset] [(.ref a355), (.ref b22), (.ref b463), (.ref b463)])) _
            refine XS.aload X463.here hx rfl (hb hby at_180) rfl rfl ?_
            show Steps p.tables e below (T463.setTop (mkF m 182 #[.val (.int p1), .val (.int p2), .val (.int p3), .val (.int p4), .val (.int p5), .val (.int p6), .val (.ref b7), .val (.ref b17), .val (.ref b22), .val (.ref b72), .val (.int (1 : Int32)), .val (.ref a355), .val (.int (1 : Int32)), .val .null, .unset, .unset, .unset] [.null, (.ref a355), (.ref b22), (.ref b463), (.ref b463)])) _
            refine st464.trans ?_
            show Steps p.tables e below (T464.setTop (mkF m 185 #[.val (.int p1), .val (.int p2), .val (.int p3), .val (.int p4), .val (.int p5), .val (.int p6), .val (.ref b7), .val (.ref b17), .val (.ref b22), .val (.ref b72), .val (.int (1 : Int32)), .val (.ref a355), .val (.int (1 : Int32)), .val .null, .unset, .unset, .unset] [(.ref b463)])) _
            refine XS.goto X464.here hx rfl (pc0 := 185) (pc' := 189) rfl (hb hby at_185) (by decide) (by decide) ?_
            show Steps p.tables e below (T464.setTop (mkF m 189 #[.val (.int p1), .val (.int p2), .val (.int p3), .val (.int p4), .val (.int p5), .val (.int p6), .val (.ref b7), .val (.ref b17), .val (.ref b22), .val (.ref b72), .val (.int (1 : Int32)), .val (.ref a355), .val (.int (1 : Int32)), .val .null, .unset, .unset, .unset] [(.ref b463)])) _
            refine XS.astore X464.here hx rfl (hb hby at_189) rfl rfl (l' := #[.val (.int p1), .val (.int p2), .val (.int p3), .val (.int p4), .val (.int p5), .val (.int p6), .val (.ref b7), .val (.ref b17), .val (.ref b22), .val (.ref b72), .val (.int (1 : Int32)), .val (.ref a355), .val (.int (1 : Int32)), .val .null, .val (.ref b463), .unset, .unset]) rfl ?_
            show Steps p.tables e below (T464.setTop (mkF m 191 #[.val (.int p1), .val (.int p2), .val (.int p3), .val (.int p4), .val (.int p5), .val (.int p6), .val (.ref b7), .val (.ref b17), .val (.ref b22), .val (.ref b72), .val (.int (1 : Int32)), .val (.ref a355), .val (.int (1 : Int32)), .val .null, .val (.ref b463), .unset, .unset] [])) _
            refine st472 _ ?_
            show Steps p.tables e below (T472.setTop (mkF m 194 #[.val (.int p1), .val (.int p2), .val (.int p3), .val (.int p4), .val (.int p5), .val (.int p6), .val (.ref b7), .val (.ref b17), .val (.ref b22), .val (.ref b72), .val (.int (1 : Int32)), .val (.ref a355), .val (.int (1 : Int32)), .val .null, .val (.ref b463), .unset, .unset] [(.ref b472)])) _
            refine XS.dup X472.here hx rfl (hb hby at_194) rfl rfl ?_
            show Steps p.tables e below (T472.setTop (mkF m 195 #[.val (.int p1), .val (.int p2), .val (.int p3), .val (.int p4), .val (.int p5), .val (.int p6), .val (.ref b7), .val (.ref b17), .val (.ref b22), .val (.ref b72), .val (.int (1 : Int32)), .val (.ref a355), .val (.int (1 : Int32)), .val .null, .val (.ref b463), .unset, .unset] [(.ref b472), (.ref b472)])) _
            refine XS.aload X472.here hx rfl (hb hby at_195) rfl rfl ?_
            show Steps p.tables e below (T472.setTop (mkF m 197 #[.val (.int p1), .val (.int p2), .val (.int p3), .val (.int p4), .val (.int p5), .val (.int p6), .val (.ref b7), .val (.ref b17), .val (.ref b22), .val (.ref b72), .val (.int (1 : Int32)), .val (.ref a355), .val (.int (1 : Int32)), .val .null, .val (.ref b463), .unset, .unset] [(.ref b463), (.ref b472), (.ref b472)])) _
            refine XS.aload X472.here hx rfl (hb hby at_197) rfl rfl ?_
            show Steps p.tables e below (T472.setTop (mkF m 199 #[.val (.int p1), .val (.int p2), .val (.int p3), .val (.int p4), .val (.int p5), .val (.int p6), .val (.ref b7), .val (.ref b17), .val (.ref b22), .val (.ref b72), .val (.int (1 : Int32)), .val (.ref a355), .val (.int (1 : Int32)), .val .null, .val (.ref b463), .unset, .unset] [(.ref b72), (.ref b463), (.ref b472), (.ref b472)])) _
            refine st473 _ ?_
            show Steps p.tables e below (T473.setTop (mkF m 202 #[.val (.int p1), .val (.int p2), .val (.int p3), .val (.int p4), .val (.int p5), .val (.int p6), .val (.ref b7), .val (.ref b17), .val (.ref b22), .val (.ref b72), .val (.int (1 : Int32)), .val (.ref a355), .val (.int (1 : Int32)), .val .null, .val (.ref b463), .unset, .unset] [(.ref b473), (.ref b72), (.ref b463), (.ref b472), (.ref b472)])) _
            refine XS.dup X473.here hx rfl (hb hby at_202) rfl rfl ?_
            show Steps p.tables e below (T473.setTop (mkF m 203 #[.val (.int p1), .val (.int p2), .val (.int p3), .val (.int p4), .val (.int p5), .val (.int p6), .val (.ref b7), .val (.ref b17), .val (.ref b22), .val (.ref b72), .val (.int (1 : Int32)), .val (.ref a355), .val (.int (1 : Int32)), .val .null, .val (.ref b463), .unset, .unset] [(.ref b473), (.ref b473), (.ref b72), (.ref b463), (.ref b472), (.ref b472)])) _
            refine XS.aload X473.here hx rfl (hb hby at_203) rfl rfl ?_
            show Steps p.tables e below (T473.setTop (mkF m 205 #[.val (.int p1), .val (.int p2), .val (.int p3), .val (.int p4), .val (.int p5), .val (.int p6), .val (.ref b7), .val (.ref b17), .val (.ref b22), .val (.ref b72), .val (.int (1 : Int32)), .val (.ref a355), .val (.int (1 : Int32)), .val .null, .val (.ref b463), .unset, .unset] [(.ref b7), (.ref b473), (.ref b473), (.ref b72), (.ref b463), (.ref b472), (.ref b472)])) _
            refine st475.trans ?_
            exact kt
          obtain rfl : i30 = i477 := (u480.trans u33.symm).symm
          obtain rfl : i29 = i476 := (u481.trans u34.symm).symm
          have f493 : Exa Z T475.heap b472 "com/example/stemline/stemline/graph/Edge" := ((Exa.ext E473 A472).keep Ku486)
          have f494 : Fld Z T475.heap b472 "com/example/stemline/stemline/graph/Edge" "file" "Ljava/lang/String;" .null := ((Fld.ext E473 D472_102).keep Ku486 (ninS (Nat.ne_of_lt (Nat.lt_of_lt_of_le lt_b472 bd_b473)) nin0))
          have f495 : Fld Z T475.heap b472 "com/example/stemline/stemline/graph/Edge" "line" "I" (.int (0 : Int32)) := ((Fld.ext E473 D472_104).keep Ku486 (ninS (Nat.ne_of_lt (Nat.lt_of_lt_of_le lt_b472 bd_b473)) nin0))
          have f496 : Fld Z T475.heap b472 "com/example/stemline/stemline/graph/Edge" "source" "Lcom/example/stemline/stemline/model/ColumnSource;" .null := ((Fld.ext E473 D472_98).keep Ku486 (ninS (Nat.ne_of_lt (Nat.lt_of_lt_of_le lt_b472 bd_b473)) nin0))
          have f497 : Fld Z T475.heap b472 "com/example/stemline/stemline/graph/Edge" "target" "Lcom/example/stemline/stemline/model/TableColumn;" .null := ((Fld.ext E473 D472_100).keep Ku486 (ninS (Nat.ne_of_lt (Nat.lt_of_lt_of_le lt_b472 bd_b473)) nin0))
          obtain ⟨_, _, ⟨T498, L498, k498, n498⟩, -, X498, sn498, gr498, ⟨Lc498, hQ498, l498, y498, z498⟩, st498⟩ := X475.specialBackS hx (y := M_12) rfl hown464 (mvT hZ464 (hw _ (gw 90 rfl))) (mvT hZ464 (hw _ (gw 91 rfl))) (mvT hZ464 (hw _ (gw 92 rfl))) (by decide) (backOfS (W := 1) (rm15_22 l Z a0 hw [] b472 b463 b72 b473 p5 T475.heap n0  Ou486 f493 f494 f495 f496 f497 g_b472) hZ464 (hw _ (gw 92 rfl)) (hw _ (gw 89 rfl)) (by decide) (by decide)) (g := (mkF m 210 #[.val (.int p1), .val (.int p2), .val (.int p3), .val (.int p4), .val (.int p5), .val (.int p6), .val (.ref b7), .val (.ref b17), .val (.ref b22), .val (.ref b72), .val (.int (1 : Int32)), .val (.ref a355), .val (.int (1 : Int32)), .val .null, .val (.ref b463), .unset, .unset] [(.int p5), (.ref b473), (.ref b72), (.ref b463), (.ref b472), (.ref b472)])) rfl (by rw [hml]; rfl) (Steps.refl _) (a := b472) (argsL := [(.ref b463), (.ref b72), (.ref b473), (.int p5)]) (rest := [(.ref b472)]) (lenOf pd_12 rfl) rfl (by show 2 * 0 + _ ≤ _; exact Nat.le_of_eq rfl) (hb hby at_210) (fun _ _ => ⟨rfl, rfl, (by decide : 28 + 4 ≤ _), (by decide : 177 + 48 ≤ _)⟩)
          dsimp only [Pt.U, Pt.locs, Pt.cells, Pt.slots] at X498 l498 y498 z498 st498 hQ498 sn498 gr498
          subst l498 y498 z498
          have gs498 : T475.heap.size ≤ T498.heap.size := gr498
          have hS498 : s.Since T498.vm T498.heap.size := hS464.trans sn498 (Nat.le_trans (Nat.le_trans (Nat.le_trans (Nat.le_trans (Nat.le_refl _) E472.1) E473.1) Ku486.1) gs498)
          have hZ498 : Z.Warmed39 (s.setVm T498.vm).vm := State.Warmed39.trans (t := (s.setVm T464.vm)) hZ464 sn498.1
          have hown498 : (s.setVm T498.vm).vm.findClass "com/example/stemline/stemline/graph/EdgeSourceColumnPinLaw" = some m.cls := by rw [show (s.setVm T498.vm).vm = T498.vm from rfl, sn498.1.alike.findClass]; exact hown464
          obtain ⟨rfl, u500, Ku501, u502, u503, u504, u505, u506⟩ := hQ498
          have Ou501 : Old Z n0 T498.heap := Ou486.keep Ku501 (allS g_b472 all0)
          have N498 := Fr.app N475 u500
          have f507 : Exa Z T498.heap b463 "com/example/stemline/stemline/model/ColumnSource" := (((Exa.ext E473 (Exa.ext E472 u468)).keep Ku486).keep Ku501)
          have f508 : Fld Z T498.heap b463 "com/example/stemline/stemline/model/ColumnSource" "column" "Lcom/example/stemline/stemline/model/TableColumn;" (.ref b22) := (((Fld.ext E473 (Fld.ext E472 u469)).keep Ku486 (ninS (Nat.ne_of_lt (Nat.lt_of_lt_of_le (Nat.lt_of_lt_of_le (Nat.lt_of_lt_of_le lt_b463 Ku467.1) E472.1) bd_b473)) nin0)).keep Ku501 (ninS (Nat.ne_of_lt (Nat.lt_of_lt_of_le (Nat.lt_of_lt_of_le lt_b463 Ku467.1) bd_b472)) nin0))
          obtain ⟨cq509, kq509, q509a, q509b, q509c⟩ := isOf hZ498 rfl u502
          obtain ⟨_, _, ⟨T509, L509, k509, n509⟩, -, X509, ⟨Lc509, hQ509, l509, y509, z509⟩, st509⟩ := X498.virtualBack hx (y := M_13) (z := M_13) hown498 (mvT hZ498 (hw _ (gw 105 rfl))) (mvT hZ498 (hw _ (gw 106 rfl))) (notFace_of_selects (args := #[]) (mvT hZ498 (hw _ (gw 108 rfl)))) (mvT hZ498 (hw _ (gw 108 rfl))) (mvT hZ498 (hw _ (gw 107 rfl))) (by decide) (backOf (W := 0) (rm16_23 l Z a0 hw [] b472 b463 b22 T498.heap n0  Ou501 u505 f507 f508) hZ498 (hw _ (gw 109 rfl)) (hw _ (gw 89 rfl)) (by decide) (by decide)) q509a q509c (g := (mkF m 217 #[.val (.int p1), .val (.int p2), .val (.int p3), .val (.int p4), .val (.int p5), .val (.int p6), .val (.ref b7), .val (.ref b17), .val (.ref b22), .val (.ref b72), .val (.int (1 : Int32)), .val (.ref a355), .val (.int (1 : Int32)), .val .null, .val (.ref b463), .val (.ref b472), .unset] [(.ref b472)])) rfl (by rw [hml]; rfl) (Steps.refl _) (argsL := []) (rest := []) (lenOf pd_13 rfl) rfl (by show 2 * 0 + _ ≤ _; exact Nat.le_of_eq rfl) (hb hby at_217) (fun _ _ => ⟨rfl, rfl, (by decide : 32 + 0 ≤ _), (by decide : 225 + 0 ≤ _)⟩)
          dsimp only [Pt.U, Pt.locs, Pt.cells, Pt.slots] at X509 l509 y509 z509 st509 hQ509
          subst l509 y509 z509
          obtain ⟨rfl, u511, u512⟩ := hQ509
          have N509 := Fr.app N498 u511
          obtain ⟨fs, hr, hrun, hended, hEnd⟩ := X509.leaveW (s := s) (vm₁ := T498.vm) hS498 (by rw [u512]; exact (Nat.le_refl _)) (v := some (.int (1 : Int32))) (fun h => by rw [Bd.returns] at h; cases h)
          refine ⟨_, _, pre492 _ ?_, hrun, hended, _, _, rfl, ?_, hEnd.1, hEnd.2.1, hEnd.2.2.1, hEnd.2.2.2.mono (by decide) (by decide)⟩
          · show Steps p.tables e below (T475.setTop (mkF m 208 #[.val (.int p1), .val (.int p2), .val (.int p3), .val (.int p4), .val (.int p5), .val (.int p6), .val (.ref b7), .val (.ref b17), .val (.ref b22), .val (.ref b72), .val (.int (1 : Int32)), .val (.ref a355), .val (.int (1 : Int32)), .val .null, .val (.ref b463), .unset, .unset] [(.ref b473), (.ref b72), (.ref b463), (.ref b472), (.ref b472)])) _
            refine XS.iload X475.here hx rfl (hb hby at_208) rfl ?_
            show Steps p.tables e below (T475.setTop (mkF m 210 #[.val (.int p1), .val (.int p2), .val (.int p3), .val (.int p4), .val (.int p5), .val (.int p6), .val (.ref b7), .val (.ref b17), .val (.ref b22), .val (.ref b72), .val (.int (1 : Int32)), .val (.ref a355), .val (.int (1 : Int32)), .val .null, .val (.ref b463), .unset, .unset] [(.int p5), (.ref b473), (.ref b72), (.ref b463), (.ref b472), (.ref b472)])) _
            refine st498.trans ?_
            show Steps p.tables e below (T498.setTop (mkF m 213 #[.val (.int p1), .val (.int p2), .val (.int p3), .val (.int p4), .val (.int p5), .val (.int p6), .val (.ref b7), .val (.ref b17), .val (.ref b22), .val (.ref b72), .val (.int (1 : Int32)), .val (.ref a355), .val (.int (1 : Int32)), .val .null, .val (.ref b463), .unset, .unset] [(.ref b472)])) _
            refine XS.astore X498.here hx rfl (hb hby at_213) rfl rfl (l' := #[.val (.int p1), .val (.int p2), .val (.int p3), .val (.int p4), .val (.int p5), .val (.int p6), .val (.ref b7), .val (.ref b17), .val (.ref b22), .val (.ref b72), .val (.int (1 : Int32)), .val (.ref a355), .val (.int (1 : Int32)), .val .null, .val (.ref b463), .val (.ref b472), .unset]) rfl ?_
            show Steps p.tables e below (T498.setTop (mkF m 215 #[.val (.int p1), .val (.int p2), .val (.int p3), .val (.int p4), .val (.int p5), .val (.int p6), .val (.ref b7), .val (.ref b17), .val (.ref b22), .val (.ref b72), .val (.int (1 : Int32)), .val (.ref a355), .val (.int (1 : Int32)), .val .null, .val (.ref b463), .val (.ref b472), .unset] [])) _
            refine XS.aload X498.here hx rfl (hb hby at_215) rfl rfl ?_
            show Steps p.tables e below (T498.setTop (mkF m 217 #[.val (.int p1), .val (.int p2), .val (.int p3), .val (.int p4), .val (.int p5), .val (.int p6), .val (.ref b7), .val (.ref b17), .val (.ref b22), .val (.ref b72), .val (.int (1 : Int32)), .val (.ref a355), .val (.int (1 : Int32)), .val .null, .val (.ref b463), .val (.ref b472), .unset] [(.ref b472)])) _
            refine st509.trans ?_
            show Steps p.tables e below (T509.setTop (mkF m 220 #[.val (.int p1), .val (.int p2), .val (.int p3), .val (.int p4), .val (.int p5), .val (.int p6), .val (.ref b7), .val (.ref b17), .val (.ref b22), .val (.ref b72), .val (.int (1 : Int32)), .val (.ref a355), .val (.int (1 : Int32)), .val .null, .val (.ref b463), .val (.ref b472), .unset] [(.ref b22)])) _
            refine XS.astore X509.here hx rfl (hb hby at_220) rfl rfl (l' := #[.val (.int p1), .val (.int p2), .val (.int p3), .val (.int p4), .val (.int p5), .val (.int p6), .val (.ref b7), .val (.ref b17), .val (.ref b22), .val (.ref b72), .val (.int (1 : Int32)), .val (.ref a355), .val (.int (1 : Int32)), .val .null, .val (.ref b463), .val (.ref b472), .val (.ref b22)]) rfl ?_
            show Steps p.tables e below (T509.setTop (mkF m 222 #[.val (.int p1), .val (.int p2), .val (.int p3), .val (.int p4), .val (.int p5), .val (.int p6), .val (.ref b7), .val (.ref b17), .val (.ref b22), .val (.ref b72), .val (.int (1 : Int32)), .val (.ref a355), .val (.int (1 : Int32)), .val .null, .val (.ref b463), .val (.ref b472), .val (.ref b22)] [])) _
            refine XS.iload X509.here hx rfl (hb hby at_222) rfl ?_
            show Steps p.tables e below (T509.setTop (mkF m 224 #[.val (.int p1), .val (.int p2), .val (.int p3), .val (.int p4), .val (.int p5), .val (.int p6), .val (.ref b7), .val (.ref b17), .val (.ref b22), .val (.ref b72), .val (.int (1 : Int32)), .val (.ref a355), .val (.int (1 : Int32)), .val .null, .val (.ref b463), .val (.ref b472), .val (.ref b22)] [(.int (1 : Int32))])) _
            refine XS.ifYes X509.here hx rfl (pc0 := 224) (pc' := 238) rfl (hb hby at_224) rfl ((if0 _ _).trans (feq (by decide +kernel : ¬ ((1 : Int32) = (0 : Int32)))).2) (by decide) (by decide) ?_
            show Steps p.tables e below (T509.setTop (mkF m 238 #[.val (.int p1), .val (.int p2), .val (.int p3), .val (.int p4), .val (.int p5), .val (.int p6), .val (.ref b7), .val (.ref b17), .val (.ref b22), .val (.ref b72), .val (.int (1 : Int32)), .val (.ref a355), .val (.int (1 : Int32)), .val .null, .val (.ref b463), .val (.ref b472), .val (.ref b22)] [])) _
            refine XS.aload X509.here hx rfl (hb hby at_238) rfl rfl ?_
            show Steps p.tables e below (T509.setTop (mkF m 240 #[.val (.int p1), .val (.int p2), .val (.int p3), .val (.int p4), .val (.int p5), .val (.int p6), .val (.ref b7), .val (.ref b17), .val (.ref b22), .val (.ref b72), .val (.int (1 : Int32)), .val (.ref a355), .val (.int (1 : Int32)), .val .null, .val (.ref b463), .val (.ref b472), .val (.ref b22)] [(.ref b22)])) _
            refine XS.aload X509.here hx rfl (hb hby at_240) rfl rfl ?_
            show Steps p.tables e below (T509.setTop (mkF m 242 #[.val (.int p1), .val (.int p2), .val (.int p3), .val (.int p4), .val (.int p5), .val (.int p6), .val (.ref b7), .val (.ref b17), .val (.ref b22), .val (.ref b72), .val (.int (1 : Int32)), .val (.ref a355), .val (.int (1 : Int32)), .val .null, .val (.ref b463), .val (.ref b472), .val (.ref b22)] [(.ref b22), (.ref b22)])) _
            refine Jvm.RoadKit.acmp (g := (mkF m 242 #[.val (.int p1), .val (.int p2), .val (.int p3), .val (.int p4), .val (.int p5), .val (.int p6), .val (.ref b7), .val (.ref b17), .val (.ref b22), .val (.ref b72), .val (.int (1 : Int32)), .val (.ref a355), .val (.int (1 : Int32)), .val .null, .val (.ref b463), .val (.ref b472), .val (.ref b22)] [(.ref b22), (.ref b22)])) X509 hx rfl rfl rfl (pc0 := 242) (pc' := 245) (same := true) rfl (hb hby at_242) rfl (decide_eq_true rfl) (by decide) (by decide) ?_
            show Steps p.tables e below (T509.setTop (mkF m 245 #[.val (.int p1), .val (.int p2), .val (.int p3), .val (.int p4), .val (.int p5), .val (.int p6), .val (.ref b7), .val (.ref b17), .val (.ref b22), .val (.ref b72), .val (.int (1 : Int32)), .val (.ref a355), .val (.int (1 : Int32)), .val .null, .val (.ref b463), .val (.ref b472), .val (.ref b22)] [])) _
            refine XS.iconst X509.here hx rfl (hb hby at_245) ?_
            show Steps p.tables e below (T509.setTop (mkF m 246 #[.val (.int p1), .val (.int p2), .val (.int p3), .val (.int p4), .val (.int p5), .val (.int p6), .val (.ref b7), .val (.ref b17), .val (.ref b22), .val (.ref b72), .val (.int (1 : Int32)), .val (.ref a355), .val (.int (1 : Int32)), .val .null, .val (.ref b463), .val (.ref b472), .val (.ref b22)] [(.int (1 : Int32))])) _
            refine XS.goto X509.here hx rfl (pc0 := 246) (pc' := 250) rfl (hb hby at_246) (by decide) (by decide) ?_
            show Steps p.tables e below (T509.setTop (mkF m 250 #[.val (.int p1), .val (.int p2), .val (.int p3), .val (.int p4), .val (.int p5), .val (.int p6), .val (.ref b7), .val (.ref b17), .val (.ref b22), .val (.ref b72), .val (.int (1 : Int32)), .val (.ref a355), .val (.int (1 : Int32)), .val .null, .val (.ref b463), .val (.ref b472), .val (.ref b22)] [(.int (1 : Int32))])) _
            exact retN X509 hx (t := .boolean) Bd.returns (by simp) (hb hby at_250) hr
          · show Q0 Z _ _ _ _ _ _ _ _ _ _ h0 n0 _ T509.heap _
            rw [u512]
            exact ⟨rfl, N509⟩
        · skip
          obtain ⟨T513, h513, X513, e513, E513, A513, D513, -, st513⟩ := newO X357 hx hZ116 hown116 (hw _ (gw 4 rfl)) (hw _ (gw 5 rfl)) (hw _ (gw 6 rfl)) e357 (g := (mkF m 152 #[.val (.int p1), .val (.int p2), .val (.int p3), .val (.int p4), .val (.int p5), .val (.int p6), .val (.ref b7), .val (.ref b17), .val (.ref b22), .val (.ref b72), .val (.int (1 : Int32)), .val (.ref a355), .val (.int (1 : Int32)), .unset, .unset, .unset, .unset] [])) rfl (hb hby at_152) (by decide) (by decide)
          obtain ⟨b513, g513⟩ : ∃ z, z = T116.heap.size := ⟨_, rfl⟩
          rw [← g513] at A513 D513 st513
          have O513 : Old Z n0 h513 := Ou119.ext E513
          have bd_b513 : T116.heap.size ≤ b513 := Nat.le_of_eq g513.symm
          have g_b513 : n0 ≤ b513 := Nat.le_trans (own_z Ou119) bd_b513
          have sz_b513 : h0.size ≤ b513 := Nat.le_trans (Nat.le_trans (Nat.le_trans (Nat.le_trans (Nat.le_trans (Nat.le_trans (Nat.le_trans (Nat.le_trans (Nat.le_trans (Nat.le_trans (Nat.le_trans (Nat.le_trans (Nat.le_trans (Nat.le_trans (Nat.le_trans E7.1 (Keep.of_wr W11).1) (Keep.of_wr W16).1) E17.1) (Keep.of_wr W21).1) E22.1) E23.1) Ku39.1) E45.1) Ku56.1) Ku68.1) E72.1) Ku87.1) Ku107.1) Ku119.1) bd_b513
          have lt_b513 : b513 < h513.size := A513.lt
          have D513_30 : Fld Z h513 b513 "java/lang/String" "coder" "B" (.int (0 : Int32)) := D513 (Or.inr (hw _ (gw 30 rfl))) (ty := .byte) (by decide)
          have D513_32 : Fld Z h513 b513 "java/lang/String" "value" "[B" .null := D513 (Or.inr (hw _ (gw 32 rfl))) (ty := (.array .byte)) (by decide)
          have f514 : Arv Z h513 b17 k17 .char (1 : Int32) [(.int i18)] (.int (0 : Int32)) := (((((((f46.keep Ku56 (ninS (Nat.ne_of_lt (Nat.lt_of_lt_of_le (Nat.lt_of_lt_of_le (Nat.lt_of_lt_of_le (Nat.lt_of_lt_of_le (Nat.lt_of_lt_of_le lt_b17 (Keep.of_wr W21).1) E22.1) E23.1) Ku39.1) bd_b45)) nin0)).keep Ku68 (ninS (Nat.ne_of_lt (Nat.lt_of_lt_of_le (Nat.lt_of_lt_of_le lt_b17 (Keep.of_wr W21).1) bd_b22)) nin0)).ext E72).keep Ku87 nin0).keep Ku107 nin0).keep Ku119 (ninS (Nat.ne_of_lt (Nat.lt_of_lt_of_le (Nat.lt_of_lt_of_le (Nat.lt_of_lt_of_le (Nat.lt_of_lt_of_le (Nat.lt_of_lt_of_le (Nat.lt_of_lt_of_le (Nat.lt_of_lt_of_le (Nat.lt_of_lt_of_le lt_b17 (Keep.of_wr W21).1) E22.1) E23.1) Ku39.1) E45.1) Ku56.1) Ku68.1) bd_b72)) nin0)).ext E513)
          obtain ⟨_, _, ⟨T515, L515, k515, n515⟩, -, X515, ⟨Lc515, hQ515, l515, y515, z515⟩, st515⟩ := X513.specialBack hx (y := M_4) rfl hown116 (mvT hZ116 (hw _ (gw 7 rfl))) (mvT hZ116 (hw _ (gw 8 rfl))) (mvT hZ116 (hw _ (gw 9 rfl))) (by decide) (backOf (W := 1) (rm1_7 l Z a0 hw [] b513 b17 i18 k17 p24 h513 n0  O513 f514 S_25 hk26 (own_lt255 hi18) A513 D513_30 D513_32 g_b513 lt_b513) hZ116 (hw _ (gw 9 rfl)) (hw _ (gw 6 rfl)) (by decide) (by decide)) (g := (mkF m 158 #[.val (.int p1), .val (.int p2), .val (.int p3), .val (.int p4), .val (.int p5), .val (.int p6), .val (.ref b7), .val (.ref b17), .val (.ref b22), .val (.ref b72), .val (.int (1 : Int32)), .val (.ref a355), .val (.int (1 : Int32)), .unset, .unset, .unset, .unset] [(.ref b17), (.ref b513), (.ref b513)])) rfl (by rw [hml]; rfl) (Steps.refl _) (a := b513) (argsL := [(.ref b17)]) (rest := [(.ref b513)]) (lenOf pd_4 rfl) rfl (by show 2 * 0 + _ ≤ _; exact Nat.le_of_eq rfl) (hb hby at_158) (fun _ _ => ⟨rfl, e513, (by decide : 21 + 1 ≤ _), (by decide : 120 + 1 ≤ _)⟩)
          dsimp only [Pt.U, Pt.locs, Pt.cells, Pt.slots] at X515 l515 y515 z515 st515 hQ515
          subst l515 y515 z515
          obtain ⟨i516, b517, k518, u519, rfl, u521, u522, u523, Ku524, u525, u526, u527, u528, u529⟩ := hQ515
          have Ou524 : Old Z n0 T515.heap := O513.keep Ku524 (allS g_b513 all0)
          have g_b517 : n0 ≤ b517 := Nat.le_trans (own_z O513) u522
          have sz_b517 : h0.size ≤ b517 := Nat.le_trans (Nat.le_trans (Nat.le_trans (Nat.le_trans (Nat.le_trans (Nat.le_trans (Nat.le_trans (Nat.le_trans (Nat.le_trans (Nat.le_trans (Nat.le_trans (Nat.le_trans (Nat.le_trans (Nat.le_trans (Nat.le_trans (Nat.le_trans E7.1 (Keep.of_wr W11).1) (Keep.of_wr W16).1) E17.1) (Keep.of_wr W21).1) E22.1) E23.1) Ku39.1) E45.1) Ku56.1) Ku68.1) E72.1) Ku87.1) Ku107.1) Ku119.1) E513.1) u522
          have N515 := Fr.app N116 u521
          have pre530 : ∀ t, Steps p.tables e below (T515.setTop (mkF m 161 #[.val (.int p1), .val (.int p2), .val (.int p3), .val (.int p4), .val (.int p5), .val (.int p6), .val (.ref b7), .val (.ref b17), .val (.ref b22), .val (.ref b72), .val (.int (1 : Int32)), .val (.ref a355), .val (.int (1 : Int32)), .unset, .unset, .unset, .unset] [(.ref b513)])) t → Steps p.tables e below (s₁.setTop (entryFrame m #[(.int p1), (.int p2), (.int p3), (.int p4), (.int p5), (.int p6)] maxLocals)) t := by
            intro t kt
            refine pre461 t ?_
            show Steps p.tables e below (T357.setTop (mkF m 149 #[.val (.int p1), .val (.int p2), .val (.int p3), .val (.int p4), .val (.int p5), .val (.int p6), .val (.ref b7), .val (.ref b17), .val (.ref b22), .val (.ref b72), .val (.int (1 : Int32)), .val (.ref a355), .val (.int (1 : Int32)), .unset, .unset, .unset, .unset] [(.int i460)])) _
            refine XS.ifNo X357.here hx rfl (hb hby at_149) rfl ((if0 _ _).trans (feq hc462).1) ?_
            show Steps p.tables e below (T357.setTop (mkF m 152 #[.val (.int p1), .val (.int p2), .val (.int p3), .val (.int p4), .val (.int p5), .val (.int p6), .val (.ref b7), .val (.ref b17), .val (.ref b22), .val (.ref b72), .val (.int (1 : Int32)), .val (.ref a355), .val (.int (1 : Int32)), .unset, .unset, .unset, .unset] [])) _
            refine st513 _ ?_
            show Steps p.tables e below (T513.setTop (mkF m 155 #[.val (.int p1), .val (.int p2), .val (.int p3), .val (.int p4), .val (.int p5), .val (.int p6), .val (.ref b7), .val (.ref b17), .val (.ref b22), .val (.ref b72), .val (.int (1 : Int32)), .val (.ref a355), .val (.int (1 : Int32)), .unset, .unset, .unset, .unset] [(.ref b513)])) _
            refine XS.dup X513.here hx rfl (hb hby at_155) rfl rfl ?_
            show Steps p.tables e below (T513.setTop (mkF m 156 #[.val (.int p1), .val (.int p2), .val (.int p3), .val (.int p4), .val (.int p5), .val (.int p6), .val (.ref b7), .val (.ref b17), .val (.ref b22), .val (.ref b72), .val (.int (1 : Int32)), .val (.ref a355), .val (.int (1 : Int32)), .unset, .unset, .unset, .unset] [(.ref b513), (.ref b513)])) _
            refine XS.aload X513.here hx rfl (hb hby at_156) rfl rfl ?_
            show Steps p.tables e below (T513.setTop (mkF m 158 #[.val (.int p1), .val (.int p2), .val (.int p3), .val (.int p4), .val (.int p5), .val (.int p6), .val (.ref b7), .val (.ref b17), .val (.ref b22), .val (.ref b72), .val (.int (1 : Int32)), .val (.ref a355), .val (.int (1 : Int32)), .unset, .unset, .unset, .unset] [(.ref b17), (.ref b513), (.ref b513)])) _
            refine st515.trans ?_
            exact kt
          obtain rfl : i48 = i516 := (u519.trans u51.symm).symm
          obtain ⟨T531, h531, X531, e531, E531, A531, D531, -, st531⟩ := newO X515 hx hZ116 hown116 (hw _ (gw 71 rfl)) (hw _ (gw 72 rfl)) (hw _ (gw 73 rfl)) rfl (g := (mkF m 172 #[.val (.int p1), .val (.int p2), .val (.int p3), .val (.int p4), .val (.int p5), .val (.int p6), .val (.ref b7), .val (.ref b17), .val (.ref b22), .val (.ref b72), .val (.int (1 : Int32)), .val (.ref a355), .val (.int (1 : Int32)), .val (.ref b513), .unset, .unset, .unset] [])) rfl (hb hby at_172) (by decide) (by decide)
          obtain ⟨b531, g531⟩ : ∃ z, z = T515.heap.size := ⟨_, rfl⟩
          rw [← g531] at A531 D531 st531
          have O531 : Old Z n0 h531 := Ou524.ext E531
          have bd_b531 : T515.heap.size ≤ b531 := Nat.le_of_eq g531.symm
          have g_b531 : n0 ≤ b531 := Nat.le_trans (own_z Ou524) bd_b531
          have sz_b531 : h0.size ≤ b531 := Nat.le_trans (Nat.le_trans (Nat.le_trans (Nat.le_trans (Nat.le_trans (Nat.le_trans (Nat.le_trans (Nat.le_trans (Nat.le_trans (Nat.le_trans (Nat.le_trans (Nat.le_trans (Nat.le_trans (Nat.le_trans (Nat.le_trans (Nat.le_trans (Nat.le_trans E7.1 (Keep.of_wr W11).1) (Keep.of_wr W16).1) E17.1) (Keep.of_wr W21).1) E22.1) E23.1) Ku39.1) E45.1) Ku56.1) Ku68.1) E72.1) Ku87.1) Ku107.1) Ku119.1) E513.1) Ku524.1) bd_b531
          have lt_b531 : b531 < h531.size := A531.lt
          have D531_82 : Fld Z h531 b531 "com/example/stemline/stemline/model/ColumnSource" "column" "Lcom/example/stemline/stemline/model/TableColumn;" .null := D531 (Or.inr (hw _ (gw 82 rfl))) (ty := (.object "com/example/stemline/stemline/model/TableColumn")) (by decide)
          have D531_84 : Fld Z h531 b531 "com/example/stemline/stemline/model/ColumnSource" "kind" "Lcom/example/stemline/stemline/model/SourceKind;" .null := D531 (Or.inr (hw _ (gw 84 rfl))) (ty := (.object "com/example/stemline/stemline/model/SourceKind")) (by decide)
          have D531_86 : Fld Z h531 b531 "com/example/stemline/stemline/model/ColumnSource" "expression" "Ljava/lang/String;" .null := D531 (Or.inr (hw _ (gw 86 rfl))) (ty := (.object "java/lang/String")) (by decide)
          obtain ⟨_, _, ⟨T532, L532, k532, n532⟩, -, X532, sn532, gr532, ⟨Lc532, hQ532, l532, y532, z532⟩, st532⟩ := X531.specialBackS hx (y := M_14) rfl hown116 (mvT hZ116 (hw _ (gw 74 rfl))) (mvT hZ116 (hw _ (gw 75 rfl))) (mvT hZ116 (hw _ (gw 76 rfl))) (by decide) (backOfS (W := 1) (rm14_25 l Z a0 hw [] b531 b22 a355 b513 h531 n0  O531 A531 D531_82 D531_86 D531_84 g_b531) hZ116 (hw _ (gw 76 rfl)) (hw _ (gw 73 rfl)) (by decide) (by decide)) (g := (mkF m 182 #[.val (.int p1), .val (.int p2), .val (.int p3), .val (.int p4), .val (.int p5), .val (.int p6), .val (.ref b7), .val (.ref b17), .val (.ref b22), .val (.ref b72), .val (.int (1 : Int32)), .val (.ref a355), .val (.int (1 : Int32)), .val (.ref b513), .unset, .unset, .unset] [(.ref b513), (.ref a355), (.ref b22), (.ref b531), (.ref b531)])) rfl (by rw [hml]; rfl) (Steps.refl _) (a := b531) (argsL := [(.ref b22), (.ref a355), (.ref b513)]) (rest := [(.ref b531)]) (lenOf pd_14 rfl) rfl (by show 2 * 0 + _ ≤ _; exact Nat.le_of_eq rfl) (hb hby at_182) (fun _ _ => ⟨rfl, e531, (by decide : 23 + 4 ≤ _), (by decide : 124 + 48 ≤ _)⟩)
          dsimp only [Pt.U, Pt.locs, Pt.cells, Pt.slots] at X532 l532 y532 z532 st532 hQ532 sn532 gr532
          subst l532 y532 z532
          have gs532 : h531.size ≤ T532.heap.size := by have q := gr532; rw [e531] at q; exact q
          have hS532 : s.Since T532.vm T532.heap.size := hS116.trans sn532 (Nat.le_trans (Nat.le_trans (Nat.le_trans (Nat.le_trans (Nat.le_refl _) E513.1) Ku524.1) E531.1) gs532)
          have hZ532 : Z.Warmed39 (s.setVm T532.vm).vm := State.Warmed39.trans (t := (s.setVm T116.vm)) hZ116 sn532.1
          have hown532 : (s.setVm T532.vm).vm.findClass "com/example/stemline/stemline/graph/EdgeSourceColumnPinLaw" = some m.cls := by rw [show (s.setVm T532.vm).vm = T532.vm from rfl, sn532.1.alike.findClass]; exact hown116
          obtain ⟨rfl, u534, Ku535, u536, u537, u538, u539⟩ := hQ532
          have Ou535 : Old Z n0 T532.heap := O531.keep Ku535 (allS g_b531 all0)
          have N532 := Fr.app N515 u534
          obtain ⟨T540, h540, X540, e540, E540, A540, D540, -, st540⟩ := newO X532 hx hZ532 hown532 (hw _ (gw 87 rfl)) (hw _ (gw 88 rfl)) (hw _ (gw 89 rfl)) rfl (g := (mkF m 191 #[.val (.int p1), .val (.int p2), .val (.int p3), .val (.int p4), .val (.int p5), .val (.int p6), .val (.ref b7), .val (.ref b17), .val (.ref b22), .val (.ref b72), .val (.int (1 : Int32)), .val (.ref a355), .val (.int (1 : Int32)), .val (.ref b513), .val (.ref b531), .unset, .unset] [])) rfl (hb hby at_191) (by decide) (by decide)
          obtain ⟨b540, g540⟩ : ∃ z, z = T532.heap.size := ⟨_, rfl⟩
          rw [← g540] at A540 D540 st540
          have O540 : Old Z n0 h540 := Ou535.ext E540
          have bd_b540 : T532.heap.size ≤ b540 := Nat.le_of_eq g540.symm
          have g_b540 : n0 ≤ b540 := Nat.le_trans (own_z Ou535) bd_b540
          have sz_b540 : h0.size ≤ b540 := Nat.le_trans (Nat.le_trans (Nat.le_trans (Nat.le_trans (Nat.le_trans (Nat.le_trans (Nat.le_trans (Nat.le_trans (Nat.le_trans (Nat.le_trans (Nat.le_trans (Nat.le_trans (Nat.le_trans (Nat.le_trans (Nat.le_trans (Nat.le_trans (Nat.le_trans (Nat.le_trans (Nat.le_trans E7.1 (Keep.of_wr W11).1) (Keep.of_wr W16).1) E17.1) (Keep.of_wr W21).1) E22.1) E23.1) Ku39.1) E45.1) Ku56.1) Ku68.1) E72.1) Ku87.1) Ku107.1) Ku119.1) E513.1) Ku524.1) E531.1) Ku535.1) bd_b540
          have lt_b540 : b540 < h540.size := A540.lt
          have D540_98 : Fld Z h540 b540 "com/example/stemline/stemline/graph/Edge" "source" "Lcom/example/stemline/stemline/model/ColumnSource;" .null := D540 (Or.inr (hw _ (gw 98 rfl))) (ty := (.object "com/example/stemline/stemline/model/ColumnSource")) (by decide)
          have D540_100 : Fld Z h540 b540 "com/example/stemline/stemline/graph/Edge" "target" "Lcom/example/stemline/stemline/model/TableColumn;" .null := D540 (Or.inr (hw _ (gw 100 rfl))) (ty := (.object "com/example/stemline/stemline/model/TableColumn")) (by decide)
          have D540_102 : Fld Z h540 b540 "com/example/stemline/stemline/graph/Edge" "file" "Ljava/lang/String;" .null := D540 (Or.inr (hw _ (gw 102 rfl))) (ty := (.object "java/lang/String")) (by decide)
          have D540_104 : Fld Z h540 b540 "com/example/stemline/stemline/graph/Edge" "line" "I" (.int (0 : Int32)) := D540 (Or.inr (hw _ (gw 104 rfl))) (ty := .int) (by decide)
          obtain ⟨T541, h541, X541, e541, E541, A541, D541, -, st541⟩ := newO X540 hx hZ532 hown532 (hw _ (gw 4 rfl)) (hw _ (gw 5 rfl)) (hw _ (gw 6 rfl)) e540 (g := (mkF m 199 #[.val (.int p1), .val (.int p2), .val (.int p3), .val (.int p4), .val (.int p5), .val (.int p6), .val (.ref b7), .val (.ref b17), .val (.ref b22), .val (.ref b72), .val (.int (1 : Int32)), .val (.ref a355), .val (.int (1 : Int32)), .val (.ref b513), .val (.ref b531), .unset, .unset] [(.ref b72), (.ref b531), (.ref b540), (.ref b540)])) rfl (hb hby at_199) (by decide) (by decide)
          obtain ⟨b541, g541⟩ : ∃ z, z = h540.size := ⟨_, rfl⟩
          rw [← g541] at A541 D541 st541
          have O541 : Old Z n0 h541 := O540.ext E541
          have bd_b541 : h540.size ≤ b541 := Nat.le_of_eq g541.symm
          have g_b541 : n0 ≤ b541 := Nat.le_trans (own_z O540) bd_b541
          have sz_b541 : h0.size ≤ b541 := Nat.le_trans (Nat.le_trans (Nat.le_trans (Nat.le_trans (Nat.le_trans (Nat.le_trans (Nat.le_trans (Nat.le_trans (Nat.le_trans (Nat.le_trans (Nat.le_trans (Nat.le_trans (Nat.le_trans (Nat.le_trans (Nat.le_trans (Nat.le_trans (Nat.le_trans (Nat.le_trans (Nat.le_trans (Nat.le_trans E7.1 (Keep.of_wr W11).1) (Keep.of_wr W16).1) E17.1) (Keep.of_wr W21).1) E22.1) E23.1) Ku39.1) E45.1) Ku56.1) Ku68.1) E72.1) Ku87.1) Ku107.1) Ku119.1) E513.1) Ku524.1) E531.1) Ku535.1) E540.1) bd_b541
          have lt_b541 : b541 < h541.size := A541.lt
          have D541_30 : Fld Z h541 b541 "java/lang/String" "coder" "B" (.int (0 : Int32)) := D541 (Or.inr (hw _ (gw 30 rfl))) (ty := .byte) (by decide)
          have D541_32 : Fld Z h541 b541 "java/lang/String" "value" "[B" .null := D541 (Or.inr (hw _ (gw 32 rfl))) (ty := (.array .byte)) (by decide)
          have f542 : Arv Z h541 b7 k7 .char (2 : Int32) [(.int i8), (.int i13)] (.int (0 : Int32)) := ((((((((((((((f27.keep Ku39 (ninS (Nat.ne_of_lt (Nat.lt_of_lt_of_le (Nat.lt_of_lt_of_le (Nat.lt_of_lt_of_le (Nat.lt_of_lt_of_le (Nat.lt_of_lt_of_le (Nat.lt_of_lt_of_le lt_b7 (Keep.of_wr W11).1) (Keep.of_wr W16).1) E17.1) (Keep.of_wr W21).1) E22.1) bd_b23)) nin0)).ext E45).keep Ku56 (ninS (Nat.ne_of_lt (Nat.lt_of_lt_of_le (Nat.lt_of_lt_of_le (Nat.lt_of_lt_of_le (Nat.lt_of_lt_of_le (Nat.lt_of_lt_of_le (Nat.lt_of_lt_of_le (Nat.lt_of_lt_of_le (Nat.lt_of_lt_of_le lt_b7 (Keep.of_wr W11).1) (Keep.of_wr W16).1) E17.1) (Keep.of_wr W21).1) E22.1) E23.1) Ku39.1) bd_b45)) nin0)).keep Ku68 (ninS (Nat.ne_of_lt (Nat.lt_of_lt_of_le (Nat.lt_of_lt_of_le (Nat.lt_of_lt_of_le (Nat.lt_of_lt_of_le (Nat.lt_of_lt_of_le lt_b7 (Keep.of_wr W11).1) (Keep.of_wr W16).1) E17.1) (Keep.of_wr W21).1) bd_b22)) nin0)).ext E72).keep Ku87 nin0).keep Ku107 nin0).keep Ku119 (ninS (Nat.ne_of_lt (Nat.lt_of_lt_of_le (Nat.lt_of_lt_of_le (Nat.lt_of_lt_of_le (Nat.lt_of_lt_of_le (Nat.lt_of_lt_of_le (Nat.lt_of_lt_of_le (Nat.lt_of_lt_of_le (Nat.lt_of_lt_of_le (Nat.lt_of_lt_of_le (Nat.lt_of_lt_of_le (Nat.lt_of_lt_of_le lt_b7 (Keep.of_wr W11).1) (Keep.of_wr W16).1) E17.1) (Keep.of_wr W21).1) E22.1) E23.1) Ku39.1) E45.1) Ku56.1) Ku68.1) bd_b72)) nin0)).ext E513).keep Ku524 (ninS (Nat.ne_of_lt (Nat.lt_of_lt_of_le (Nat.lt_of_lt_of_le (Nat.lt_of_lt_of_le (Nat.lt_of_lt_of_le (Nat.lt_of_lt_of_le (Nat.lt_of_lt_of_le (Nat.lt_of_lt_of_le (Nat.lt_of_lt_of_le (Nat.lt_of_lt_of_le (Nat.lt_of_lt_of_le (Nat.lt_of_lt_of_le (Nat.lt_of_lt_of_le (Nat.lt_of_lt_of_le (Nat.lt_of_lt_of_le (Nat.lt_of_lt_of_le lt_b7 (Keep.of_wr W11).1) (Keep.of_wr W16).1) E17.1) (Keep.of_wr W21).1) E22.1) E23.1) Ku39.1) E45.1) Ku56.1) Ku68.1) E72.1) Ku87.1) Ku107.1) Ku119.1) bd_b513)) nin0)).ext E531).keep Ku535 (ninS (Nat.ne_of_lt (Nat.lt_of_lt_of_le (Nat.lt_of_lt_of_le (Nat.lt_of_lt_of_le (Nat.lt_of_lt_of_le (Nat.lt_of_lt_of_le (Nat.lt_of_lt_of_le (Nat.lt_of_lt_of_le (Nat.lt_of_lt_of_le (Nat.lt_of_lt_of_le (Nat.lt_of_lt_of_le (Nat.lt_of_lt_of_le (Nat.lt_of_lt_of_le (Nat.lt_of_lt_of_le (Nat.lt_of_lt_of_le (Nat.lt_of_lt_of_le (Nat.lt_of_lt_of_le (Nat.lt_of_lt_of_le lt_b7 (Keep.of_wr W11).1) (Keep.of_wr W16).1) E17.1) (Keep.of_wr W21).1) E22.1) E23.1) Ku39.1) E45.1) Ku56.1) Ku68.1) E72.1) Ku87.1) Ku107.1) Ku119.1) E513.1) Ku524.1) bd_b531)) nin0)).ext E540).ext E541)
          obtain ⟨_, _, ⟨T543, L543, k543, n543⟩, -, X543, ⟨Lc543, hQ543, l543, y543, z543⟩, st543⟩ := X541.specialBack hx (y := M_4) rfl hown532 (mvT hZ532 (hw _ (gw 7 rfl))) (mvT hZ532 (hw _ (gw 8 rfl))) (mvT hZ532 (hw _ (gw 9 rfl))) (by decide) (backOf (W := 5) (rm1_2 l Z a0 hw [] b541 b7 i8 i13 k7 p24 h541 n0  O541 f542 S_25 hk26 (own_lt255 hi8) (own_lt255 hi13) A541 D541_30 D541_32 (Nat.lt_of_lt_of_le (Nat.lt_of_lt_of_le (Nat.lt_of_lt_of_le (Nat.lt_of_lt_of_le (Nat.lt_of_lt_of_le (Nat.lt_of_lt_of_le (Nat.lt_of_lt_of_le (Nat.lt_of_lt_of_le (Nat.lt_of_lt_of_le (Nat.lt_of_lt_of_le (Nat.lt_of_lt_of_le (Nat.lt_of_lt_of_le (Nat.lt_of_lt_of_le (Nat.lt_of_lt_of_le (Nat.lt_of_lt_of_le (Nat.lt_of_lt_of_le (Nat.lt_of_lt_of_le (Nat.lt_of_lt_of_le (Nat.lt_of_lt_of_le (Nat.lt_of_lt_of_le lt_b7 (Keep.of_wr W11).1) (Keep.of_wr W16).1) E17.1) (Keep.of_wr W21).1) E22.1) E23.1) Ku39.1) E45.1) Ku56.1) Ku68.1) E72.1) Ku87.1) Ku107.1) Ku119.1) E513.1) Ku524.1) E531.1) Ku535.1) E540.1) E541.1) g_b541 lt_b541) hZ532 (hw _ (gw 9 rfl)) (hw _ (gw 6 rfl)) (by decide) (by decide)) (g := (mkF m 205 #[.val (.int p1), .val (.int p2), .val (.int p3), .val (.int p4), .val (.int p5), .val (.int p6), .val (.ref b7), .val (.ref b17), .val (.ref b22), .val (.ref b72), .val (.int (1 : Int32)), .val (.ref a355), .val (.int (1 : Int32)), .val (.ref b513), .val (.ref b531), .unset, .unset] [(.ref b7), (.ref b541), (.ref b541), (.ref b72), (.ref b531), (.ref b540), (.ref b540)])) rfl (by rw [hml]; rfl) (Steps.refl _) (a := b541) (argsL := [(.ref b7)]) (rest := [(.ref b541), (.ref b72), (.ref b531), (.ref b540), (.ref b540)]) (lenOf pd_4 rfl) rfl (by show 2 * 0 + _ ≤ _; exact Nat.le_of_eq rfl) (hb hby at_205) (fun _ _ => ⟨rfl, e541, (by decide : 29 + 1 ≤ _), (by decide : 180 + 2 ≤ _)⟩)
          dsimp only [Pt.U, Pt.locs, Pt.cells, Pt.slots] at X543 l543 y543 z543 st543 hQ543
          subst l543 y543 z543
          obtain ⟨i544, i545, b546, k547, u548, u549, rfl, u551, u552, u553, Ku554, u555, u556, u557, u558, u559⟩ := hQ543
          have Ou554 : Old Z n0 T543.heap := O541.keep Ku554 (allS g_b541 all0)
          have g_b546 : n0 ≤ b546 := Nat.le_trans (own_z O541) u552
          have sz_b546 : h0.size ≤ b546 := Nat.le_trans (Nat.le_trans (Nat.le_trans (Nat.le_trans (Nat.le_trans (Nat.le_trans (Nat.le_trans (Nat.le_trans (Nat.le_trans (Nat.le_trans (Nat.le_trans (Nat.le_trans (Nat.le_trans (Nat.le_trans (Nat.le_trans (Nat.le_trans (Nat.le_trans (Nat.le_trans (Nat.le_trans (Nat.le_trans (Nat.le_trans E7.1 (Keep.of_wr W11).1) (Keep.of_wr W16).1) E17.1) (Keep.of_wr W21).1) E22.1) E23.1) Ku39.1) E45.1) Ku56.1) Ku68.1) E72.1) Ku87.1) Ku107.1) Ku119.1) E513.1) Ku524.1) E531.1) Ku535.1) E540.1) E541.1) u552
          have N543 := Fr.app N532 u551
          have pre560 : ∀ t, Steps p.tables e below (T543.setTop (mkF m 208 #[.val (.int p1), .val (.int p2), .val (.int p3), .val (.int p4), .val (.int p5), .val (.int p6), .val (.ref b7), .val (.ref b17), .val (.ref b22), .val (.ref b72), .val (.int (1 : Int32)), .val (.ref a355), .val (.int (1 : Int32)), .val (.ref b513), .val (.ref b531), .unset, .unset] [(.ref b541), (.ref b72), (.ref b531), (.ref b540), (.ref b540)])) t → Steps p.tables e below (s₁.setTop (entryFrame m #[(.int p1), (.int p2), (.int p3), (.int p4), (.int p5), (.int p6)] maxLocals)) t := by
            intro t kt
            refine pre530 t ?_
            show Steps p.tables e below (T515.setTop (mkF m 161 #[.val (.int p1), .val (.int p2), .val (.int p3), .val (.int p4), .val (.int p5), .val (.int p6), .val (.ref b7), .val (.ref b17), .val (.ref b22), .val (.ref b72), .val (.int (1 : Int32)), .val (.ref a355), .val (.int (1 : Int32)), .unset, .unset, .unset, .unset] [(.ref b513)])) _
            refine XS.goto X515.here hx rfl (pc0 := 161) (pc' := 165) rfl (hb hby at_161) (by decide) (by decide) ?_
            show Steps p.tables e below (T515.setTop (mkF m 165 #[.val (.int p1), .val (.int p2), .val (.int p3), .val (.int p4), .val (.int p5), .val (.int p6), .val (.ref b7), .val (.ref b17), .val (.ref b22), .val (.ref b72), .val (.int (1 : Int32)), .val (.ref a355), .val (.int (1 : Int32)), .unset, .unset, .unset, .unset] [(.ref b513)])) _
            refine XS.astore X515.here hx rfl (hb hby at_165) rfl rfl (l' := #[.val (.int p1), .val (.int p2), .val (.int p3), .val (.int p4), .val (.int p5), .val (.int p6), .val (.ref b7), .val (.ref b17), .val (.ref b22), .val (.ref b72), .val (.int (1 : Int32)), .val (.ref a355), .val (.int (1 : Int32)), .val (.ref b513), .unset, .unset, .unset]) rfl ?_
            show Steps p.tables e below (T515.setTop (mkF m 167 #[.val (.int p1), .val (.int p2), .val (.int p3), .val (.int p4), .val (.int p5), .val (.int p6), .val (.ref b7), .val (.ref b17), .val (.ref b22), .val (.ref b72), .val (.int (1 : Int32)), .val (.ref a355), .val (.int (1 : Int32)), .val (.ref b513), .unset, .unset, .unset] [])) _
            refine XS.iload X515.here hx rfl (hb hby at_167) rfl ?_
            show Steps p.tables e below (T515.setTop (mkF m 169 #[.val (.int p1), .val (.int p2), .val (.int p3), .val (.int p4), .val (.int p5), .val (.int p6), .val (.ref b7), .val (.ref b17), .val (.ref b22), .val (.ref b72), .val (.int (1 : Int32)), .val (.ref a355), .val (.int (1 : Int32)), .val (.ref b513), .unset, .unset, .unset] [(.int (1 : Int32))])) _
            refine XS.ifNo X515.here hx rfl (hb hby at_169) rfl ((if0 _ _).trans (feq (by decide +kernel : ¬ ((1 : Int32) = (0 : Int32)))).1) ?_
            show Steps p.tables e below (T515.setTop (mkF m 172 #[.val (.int p1), .val (.int p2), .val (.int p3), .val (.int p4), .val (.int p5), .val (.int p6), .val (.ref b7), .val (.ref b17), .val (.ref b22), .val (.ref b72), .val (.int (1 : Int32)), .val (.ref a355), .val (.int (1 : Int32)), .val (.ref b513), .unset, .unset, .unset] [])) _
            refine st531 _ ?_
            show Steps p.tables e below (T531.setTop (mkF m 175 #[.val (.int p1), .val (.int p2), .val (.int p3), .val (.int p4), .val (.int p5), .val (.int p6), .val (.ref b7), .val (.ref b17), .val (.ref b22), .val (.ref b72), .val (.int (1 : Int32)), .val (.ref a355), .val (.int (1 : Int32)), .val (.ref b513), .unset, .unset, .unset] [(.ref b531)])) _
            refine XS.dup X531.here hx rfl (hb hby at_175) rfl rfl ?_
            show Steps p.tables e below (T531.setTop (mkF m 176 #[.val (.int p1), .val (.int p2), .val (.int p3), .val (.int p4), .val (.int p5), .val (.int p6), .val (.ref b7), .val (.ref b17), .val (.ref b22), .val (.ref b72), .val (.int (1 : Int32)), .val (.ref a355), .val (.int (1 : Int32)), .val (.ref b513), .unset, .unset, .unset] [(.ref b531), (.ref b531)])) _
            refine XS.aload X531.here hx rfl (hb hby at_176) rfl rfl ?_
            show Steps p.tables e below (T531.setTop (mkF m 178 #[.val (.int p1), .val (.int p2), .val (.int p3), .val (.int p4), .val (.int p5), .val (.int p6), .val (.ref b7), .val (.ref b17), .val (.ref b22), .val (.ref b72), .val (.int (1 : Int32)), .val (.ref a355), .val (.int (1 : Int32)), .val (.ref b513), .unset, .unset, .unset] [(.ref b22), (.ref b531), (.ref b531)])) _
            refine XS.aload X531.here hx rfl (hb hby at_178) rfl rfl ?_
            show Steps p.tables e below (T531.setTop (mkF m 180 #[.val (.int p1), .val (.int p2), .val (.int p3), .val (.int p4), .val (.int p5), .val (.int p6), .val (.ref b7), .val (.ref b17), .val (.ref b22), .val (.ref b72), .val (.int (1 : Int32)), .val (.ref a355), .val (.int (1 : Int32)), .val (.ref b513), .unset, .unset, .unset] [(.ref a355), (.ref b22), (.ref b531), (.ref b531)])) _
            refine XS.aload X531.here hx rfl (hb hby at_180) rfl rfl ?_
            show Steps p.tables e below (T531.setTop (mkF m 182 #[.val (.int p1), .val (.int p2), .val (.int p3), .val (.int p4), .val (.int p5), .val (.int p6), .val (.ref b7), .val (.ref b17), .val (.ref b22), .val (.ref b72), .val (.int (1 : Int32)), .val (.ref a355), .val (.int (1 : Int32)), .val (.ref b513), .unset, .unset, .unset] [(.ref b513), (.ref a355), (.ref b22), (.ref b531), (.ref b531)])) _
            refine st532.trans ?_
            show Steps p.tables e below (T532.setTop (mkF m 185 #[.val (.int p1), .val (.int p2), .val (.int p3), .val (.int p4), .val (.int p5), .val (.int p6), .val (.ref b7), .val (.ref b17), .val (.ref b22), .val (.ref b72), .val (.int (1 : Int32)), .val (.ref a355), .val (.int (1 : Int32)), .val (.ref b513), .unset, .unset, .unset] [(.ref b531)])) _
            refine XS.goto X532.here hx rfl (pc0 := 185) (pc' := 189) rfl (hb hby at_185) (by decide) (by decide) ?_
            show Steps p.tables e below (T532.setTop (mkF m 189 #[.val (.int p1), .val (.int p2), .val (.int p3), .val (.int p4), .val (.int p5), .val (.int p6), .val (.ref b7), .val (.ref b17), .val (.ref b22), .val (.ref b72), .val (.int (1 : Int32)), .val (.ref a355), .val (.int (1 : Int32)), .val (.ref b513), .unset, .unset, .unset] [(.ref b531)])) _
            refine XS.astore X532.here hx rfl (hb hby at_189) rfl rfl (l' := #[.val (.int p1), .val (.int p2), .val (.int p3), .val (.int p4), .val (.int p5), .val (.int p6), .val (.ref b7), .val (.ref b17), .val (.ref b22), .val (.ref b72), .val (.int (1 : Int32)), .val (.ref a355), .val (.int (1 : Int32)), .val (.ref b513), .val (.ref b531), .unset, .unset]) rfl ?_
            show Steps p.tables e below (T532.setTop (mkF m 191 #[.val (.int p1), .val (.int p2), .val (.int p3), .val (.int p4), .val (.int p5), .val (.int p6), .val (.ref b7), .val (.ref b17), .val (.ref b22), .val (.ref b72), .val (.int (1 : Int32)), .val (.ref a355), .val (.int (1 : Int32)), .val (.ref b513), .val (.ref b531), .unset, .unset] [])) _
            refine st540 _ ?_
            show Steps p.tables e below (T540.setTop (mkF m 194 #[.val (.int p1), .val (.int p2), .val (.int p3), .val (.int p4), .val (.int p5), .val (.int p6), .val (.ref b7), .val (.ref b17), .val (.ref b22), .val (.ref b72), .val (.int (1 : Int32)), .val (.ref a355), .val (.int (1 : Int32)), .val (.ref b513), .val (.ref b531), .unset, .unset] [(.ref b540)])) _
            refine XS.dup X540.here hx rfl (hb hby at_194) rfl rfl ?_
            show Steps p.tables e below (T540.setTop (mkF m 195 #[.val (.int p1), .val (.int p2), .val (.int p3), .val (.int p4), .val (.int p5), .val (.int p6), .val (.ref b7), .val (.ref b17), .val (.ref b22), .val (.ref b72), .val (.int (1 : Int32)), .val (.ref a355), .val (.int (1 : Int32)), .val (.ref b513), .val (.ref b531), .unset, .unset] [(.ref b540), (.ref b540)])) _
            refine XS.aload X540.here hx rfl (hb hby at_195) rfl rfl ?_
            show Steps p.tables e below (T540.setTop (mkF m 197 #[.val (.int p1), .val (.int p2), .val (.int p3), .val (.int p4), .val (.int p5), .val (.int p6), .val (.ref b7), .val (.ref b17), .val (.ref b22), .val (.ref b72), .val (.int (1 : Int32)), .val (.ref a355), .val (.int (1 : Int32)), .val (.ref b513), .val (.ref b531), .unset, .unset] [(.ref b531), (.ref b540), (.ref b540)])) _
            refine XS.aload X540.here hx rfl (hb hby at_197) rfl rfl ?_
            show Steps p.tables e below (T540.setTop (mkF m 199 #[.val (.int p1), .val (.int p2), .val (.int p3), .val (.int p4), .val (.int p5), .val (.int p6), .val (.ref b7), .val (.ref b17), .val (.ref b22), .val (.ref b72), .val (.int (1 : Int32)), .val (.ref a355), .val (.int (1 : Int32)), .val (.ref b513), .val (.ref b531), .unset, .unset] [(.ref b72), (.ref b531), (.ref b540), (.ref b540)])) _
            refine st541 _ ?_
            show Steps p.tables e below (T541.setTop (mkF m 202 #[.val (.int p1), .val (.int p2), .val (.int p3), .val (.int p4), .val (.int p5), .val (.int p6), .val (.ref b7), .val (.ref b17), .val (.ref b22), .val (.ref b72), .val (.int (1 : Int32)), .val (.ref a355), .val (.int (1 : Int32)), .val (.ref b513), .val (.ref b531), .unset, .unset] [(.ref b541), (.ref b72), (.ref b531), (.ref b540), (.ref b540)])) _
            refine XS.dup X541.here hx rfl (hb hby at_202) rfl rfl ?_
            show Steps p.tables e below (T541.setTop (mkF m 203 #[.val (.int p1), .val (.int p2), .val (.int p3), .val (.int p4), .val (.int p5), .val (.int p6), .val (.ref b7), .val (.ref b17), .val (.ref b22), .val (.ref b72), .val (.int (1 : Int32)), .val (.ref a355), .val (.int (1 : Int32)), .val (.ref b513), .val (.ref b531), .unset, .unset] [(.ref b541), (.ref b541), (.ref b72), (.ref b531), (.ref b540), (.ref b540)])) _
            refine XS.aload X541.here hx rfl (hb hby at_203) rfl rfl ?_
            show Steps p.tables e below (T541.setTop (mkF m 205 #[.val (.int p1), .val (.int p2), .val (.int p3), .val (.int p4), .val (.int p5), .val (.int p6), .val (.ref b7), .val (.ref b17), .val (.ref b22), .val (.ref b72), .val (.int (1 : Int32)), .val (.ref a355), .val (.int (1 : Int32)), .val (.ref b513), .val (.ref b531), .unset, .unset] [(.ref b7), (.ref b541), (.ref b541), (.ref b72), (.ref b531), (.ref b540), (.ref b540)])) _
            refine st543.trans ?_
            exact kt
          obtain rfl : i30 = i545 := (u548.trans u33.symm).symm
          obtain rfl : i29 = i544 := (u549.trans u34.symm).symm
          have f561 : Exa Z T543.heap b540 "com/example/stemline/stemline/graph/Edge" := ((Exa.ext E541 A540).keep Ku554)
          have f562 : Fld Z T543.heap b540 "com/example/stemline/stemline/graph/Edge" "file" "Ljava/lang/String;" .null := ((Fld.ext E541 D540_102).keep Ku554 (ninS (Nat.ne_of_lt (Nat.lt_of_lt_of_le lt_b540 bd_b541)) nin0))
          have f563 : Fld Z T543.heap b540 "com/example/stemline/stemline/graph/Edge" "line" "I" (.int (0 : Int32)) := ((Fld.ext E541 D540_104).keep Ku554 (ninS (Nat.ne_of_lt (Nat.lt_of_lt_of_le lt_b540 bd_b541)) nin0))
          have f564 : Fld Z T543.heap b540 "com/example/stemline/stemline/graph/Edge" "source" "Lcom/example/stemline/stemline/model/ColumnSource;" .null := ((Fld.ext E541 D540_98).keep Ku554 (ninS (Nat.ne_of_lt (Nat.lt_of_lt_of_le lt_b540 bd_b541)) nin0))
          have f565 : Fld Z T543.heap b540 "com/example/stemline/stemline/graph/Edge" "target" "Lcom/example/stemline/stemline/model/TableColumn;" .null := ((Fld.ext E541 D540_100).keep Ku554 (ninS (Nat.ne_of_lt (Nat.lt_of_lt_of_le lt_b540 bd_b541)) nin0))
          obtain ⟨_, _, ⟨T566, L566, k566, n566⟩, -, X566, sn566, gr566, ⟨Lc566, hQ566, l566, y566, z566⟩, st566⟩ := X543.specialBackS hx (y := M_12) rfl hown532 (mvT hZ532 (hw _ (gw 90 rfl))) (mvT hZ532 (hw _ (gw 91 rfl))) (mvT hZ532 (hw _ (gw 92 rfl))) (by decide) (backOfS (W := 1) (rm15_22 l Z a0 hw [] b540 b531 b72 b541 p5 T543.heap n0  Ou554 f561 f562 f563 f564 f565 g_b540) hZ532 (hw _ (gw 92 rfl)) (hw _ (gw 89 rfl)) (by decide) (by decide)) (g := (mkF m 210 #[.val (.int p1), .val (.int p2), .val (.int p3), .val (.int p4), .val (.int p5), .val (.int p6), .val (.ref b7), .val (.ref b17), .val (.ref b22), .val (.ref b72), .val (.int (1 : Int32)), .val (.ref a355), .val (.int (1 : Int32)), .val (.ref b513), .val (.ref b531), .unset, .unset] [(.int p5), (.ref b541), (.ref b72), (.ref b531), (.ref b540), (.ref b540)])) rfl (by rw [hml]; rfl) (Steps.refl _) (a := b540) (argsL := [(.ref b531), (.ref b72), (.ref b541), (.int p5)]) (rest := [(.ref b540)]) (lenOf pd_12 rfl) rfl (by show 2 * 0 + _ ≤ _; exact Nat.le_of_eq rfl) (hb hby at_210) (fun _ _ => ⟨rfl, rfl, (by decide : 30 + 4 ≤ _), (by decide : 182 + 48 ≤ _)⟩)
          dsimp only [Pt.U, Pt.locs, Pt.cells, Pt.slots] at X566 l566 y566 z566 st566 hQ566 sn566 gr566
          subst l566 y566 z566
          have gs566 : T543.heap.size ≤ T566.heap.size := gr566
          have hS566 : s.Since T566.vm T566.heap.size := hS532.trans sn566 (Nat.le_trans (Nat.le_trans (Nat.le_trans (Nat.le_trans (Nat.le_refl _) E540.1) E541.1) Ku554.1) gs566)
          have hZ566 : Z.Warmed39 (s.setVm T566.vm).vm := State.Warmed39.trans (t := (s.setVm T532.vm)) hZ532 sn566.1
          have hown566 : (s.setVm T566.vm).vm.findClass "com/example/stemline/stemline/graph/EdgeSourceColumnPinLaw" = some m.cls := by rw [show (s.setVm T566.vm).vm = T566.vm from rfl, sn566.1.alike.findClass]; exact hown532
          obtain ⟨rfl, u568, Ku569, u570, u571, u572, u573, u574⟩ := hQ566
          have Ou569 : Old Z n0 T566.heap := Ou554.keep Ku569 (allS g_b540 all0)
          have N566 := Fr.app N543 u568
          have f575 : Exa Z T566.heap b531 "com/example/stemline/stemline/model/ColumnSource" := (((Exa.ext E541 (Exa.ext E540 u536)).keep Ku554).keep Ku569)
          have f576 : Fld Z T566.heap b531 "com/example/stemline/stemline/model/ColumnSource" "column" "Lcom/example/stemline/stemline/model/TableColumn;" (.ref b22) := (((Fld.ext E541 (Fld.ext E540 u537)).keep Ku554 (ninS (Nat.ne_of_lt (Nat.lt_of_lt_of_le (Nat.lt_of_lt_of_le (Nat.lt_of_lt_of_le lt_b531 Ku535.1) E540.1) bd_b541)) nin0)).keep Ku569 (ninS (Nat.ne_of_lt (Nat.lt_of_lt_of_le (Nat.lt_of_lt_of_le lt_b531 Ku535.1) bd_b540)) nin0))
          obtain ⟨cq577, kq577, q577a, q577b, q577c⟩ := isOf hZ566 rfl u570
          obtain ⟨_, _, ⟨T577, L577, k577, n577⟩, -, X577, ⟨Lc577, hQ577, l577, y577, z577⟩, st577⟩ := X566.virtualBack hx (y := M_13) (z := M_13) hown566 (mvT hZ566 (hw _ (gw 105 rfl))) (mvT hZ566 (hw _ (gw 106 rfl))) (notFace_of_selects (args := #[]) (mvT hZ566 (hw _ (gw 108 rfl)))) (mvT hZ566 (hw _ (gw 108 rfl))) (mvT hZ566 (hw _ (gw 107 rfl))) (by decide) (backOf (W := 0) (rm16_23 l Z a0 hw [] b540 b531 b22 T566.heap n0  Ou569 u573 f575 f576) hZ566 (hw _ (gw 109 rfl)) (hw _ (gw 89 rfl)) (by decide) (by decide)) q577a q577c (g := (mkF m 217 #[.val (.int p1), .val (.int p2), .val (.int p3), .val (.int p4), .val (.int p5), .val (.int p6), .val (.ref b7), .val (.ref b17), .val (.ref b22), .val (.ref b72), .val (.int (1 : Int32)), .val (.ref a355), .val (.int (1 : Int32)), .val (.ref b513), .val (.ref b531), .val (.ref b540), .unset] [(.ref b540)])) rfl (by rw [hml]; rfl) (Steps.refl _) (argsL := []) (rest := []) (lenOf pd_13 rfl) rfl (by show 2 * 0 + _ ≤ _; exact Nat.le_of_eq rfl) (hb hby at_217) (fun _ _ => ⟨rfl, rfl, (by decide : 34 + 0 ≤ _), (by decide : 230 + 0 ≤ _)⟩)
          dsimp only [Pt.U, Pt.locs, Pt.cells, Pt.slots] at X577 l577 y577 z577 st577 hQ577
          subst l577 y577 z577
          obtain ⟨rfl, u579, u580⟩ := hQ577
          have N577 := Fr.app N566 u579
          obtain ⟨fs, hr, hrun, hended, hEnd⟩ := X577.leaveW (s := s) (vm₁ := T566.vm) hS566 (by rw [u580]; exact (Nat.le_refl _)) (v := some (.int (1 : Int32))) (fun h => by rw [Bd.returns] at h; cases h)
          refine ⟨_, _, pre560 _ ?_, hrun, hended, _, _, rfl, ?_, hEnd.1, hEnd.2.1, hEnd.2.2.1, hEnd.2.2.2.mono (by decide) (by decide)⟩
          · show Steps p.tables e below (T543.setTop (mkF m 208 #[.val (.int p1), .val (.int p2), .val (.int p3), .val (.int p4), .val (.int p5), .val (.int p6), .val (.ref b7), .val (.ref b17), .val (.ref b22), .val (.ref b72), .val (.int (1 : Int32)), .val (.ref a355), .val (.int (1 : Int32)), .val (.ref b513), .val (.ref b531), .unset, .unset] [(.ref b541), (.ref b72), (.ref b531), (.ref b540), (.ref b540)])) _
            refine XS.iload X543.here hx rfl (hb hby at_208) rfl ?_
            show Steps p.tables e below (T543.setTop (mkF m 210 #[.val (.int p1), .val (.int p2), .val (.int p3), .val (.int p4), .val (.int p5), .val (.int p6), .val (.ref b7), .val (.ref b17), .val (.ref b22), .val (.ref b72), .val (.int (1 : Int32)), .val (.ref a355), .val (.int (1 : Int32)), .val (.ref b513), .val (.ref b531), .unset, .unset] [(.int p5), (.ref b541), (.ref b72), (.ref b531), (.ref b540), (.ref b540)])) _
            refine st566.trans ?_
            show Steps p.tables e below (T566.setTop (mkF m 213 #[.val (.int p1), .val (.int p2), .val (.int p3), .val (.int p4), .val (.int p5), .val (.int p6), .val (.ref b7), .val (.ref b17), .val (.ref b22), .val (.ref b72), .val (.int (1 : Int32)), .val (.ref a355), .val (.int (1 : Int32)), .val (.ref b513), .val (.ref b531), .unset, .unset] [(.ref b540)])) _
            refine XS.astore X566.here hx rfl (hb hby at_213) rfl rfl (l' := #[.val (.int p1), .val (.int p2), .val (.int p3), .val (.int p4), .val (.int p5), .val (.int p6), .val (.ref b7), .val (.ref b17), .val (.ref b22), .val (.ref b72), .val (.int (1 : Int32)), .val (.ref a355), .val (.int (1 : Int32)), .val (.ref b513), .val (.ref b531), .val (.ref b540), .unset]) rfl ?_
            show Steps p.tables e below (T566.setTop (mkF m 215 #[.val (.int p1), .val (.int p2), .val (.int p3), .val (.int p4), .val (.int p5), .val (.int p6), .val (.ref b7), .val (.ref b17), .val (.ref b22), .val (.ref b72), .val (.int (1 : Int32)), .val (.ref a355), .val (.int (1 : Int32)), .val (.ref b513), .val (.ref b531), .val (.ref b540), .unset] [])) _
            refine XS.aload X566.here hx rfl (hb hby at_215) rfl rfl ?_
            show Steps p.tables e below (T566.setTop (mkF m 217 #[.val (.int p1), .val (.int p2), .val (.int p3), .val (.int p4), .val (.int p5), .val (.int p6), .val (.ref b7), .val (.ref b17), .val (.ref b22), .val (.ref b72), .val (.int (1 : Int32)), .val (.ref a355), .val (.int (1 : Int32)), .val (.ref b513), .val (.ref b531), .val (.ref b540), .unset] [(.ref b540)])) _
            refine st577.trans ?_
            show Steps p.tables e below (T577.setTop (mkF m 220 #[.val (.int p1), .val (.int p2), .val (.int p3), .val (.int p4), .val (.int p5), .val (.int p6), .val (.ref b7), .val (.ref b17), .val (.ref b22), .val (.ref b72), .val (.int (1 : Int32)), .val (.ref a355), .val (.int (1 : Int32)), .val (.ref b513), .val (.ref b531), .val (.ref b540), .unset] [(.ref b22)])) _
            refine XS.astore X577.here hx rfl (hb hby at_220) rfl rfl (l' := #[.val (.int p1), .val (.int p2), .val (.int p3), .val (.int p4), .val (.int p5), .val (.int p6), .val (.ref b7), .val (.ref b17), .val (.ref b22), .val (.ref b72), .val (.int (1 : Int32)), .val (.ref a355), .val (.int (1 : Int32)), .val (.ref b513), .val (.ref b531), .val (.ref b540), .val (.ref b22)]) rfl ?_
            show Steps p.tables e below (T577.setTop (mkF m 222 #[.val (.int p1), .val (.int p2), .val (.int p3), .val (.int p4), .val (.int p5), .val (.int p6), .val (.ref b7), .val (.ref b17), .val (.ref b22), .val (.ref b72), .val (.int (1 : Int32)), .val (.ref a355), .val (.int (1 : Int32)), .val (.ref b513), .val (.ref b531), .val (.ref b540), .val (.ref b22)] [])) _
            refine XS.iload X577.here hx rfl (hb hby at_222) rfl ?_
            show Steps p.tables e below (T577.setTop (mkF m 224 #[.val (.int p1), .val (.int p2), .val (.int p3), .val (.int p4), .val (.int p5), .val (.int p6), .val (.ref b7), .val (.ref b17), .val (.ref b22), .val (.ref b72), .val (.int (1 : Int32)), .val (.ref a355), .val (.int (1 : Int32)), .val (.ref b513), .val (.ref b531), .val (.ref b540), .val (.ref b22)] [(.int (1 : Int32))])) _
            refine XS.ifYes X577.here hx rfl (pc0 := 224) (pc' := 238) rfl (hb hby at_224) rfl ((if0 _ _).trans (feq (by decide +kernel : ¬ ((1 : Int32) = (0 : Int32)))).2) (by decide) (by decide) ?_
            show Steps p.tables e below (T577.setTop (mkF m 238 #[.val (.int p1), .val (.int p2), .val (.int p3), .val (.int p4), .val (.int p5), .val (.int p6), .val (.ref b7), .val (.ref b17), .val (.ref b22), .val (.ref b72), .val (.int (1 : Int32)), .val (.ref a355), .val (.int (1 : Int32)), .val (.ref b513), .val (.ref b531), .val (.ref b540), .val (.ref b22)] [])) _
            refine XS.aload X577.here hx rfl (hb hby at_238) rfl rfl ?_
            show Steps p.tables e below (T577.setTop (mkF m 240 #[.val (.int p1), .val (.int p2), .val (.int p3), .val (.int p4), .val (.int p5), .val (.int p6), .val (.ref b7), .val (.ref b17), .val (.ref b22), .val (.ref b72), .val (.int (1 : Int32)), .val (.ref a355), .val (.int (1 : Int32)), .val (.ref b513), .val (.ref b531), .val (.ref b540), .val (.ref b22)] [(.ref b22)])) _
            refine XS.aload X577.here hx rfl (hb hby at_240) rfl rfl ?_
            show Steps p.tables e below (T577.setTop (mkF m 242 #[.val (.int p1), .val (.int p2), .val (.int p3), .val (.int p4), .val (.int p5), .val (.int p6), .val (.ref b7), .val (.ref b17), .val (.ref b22), .val (.ref b72), .val (.int (1 : Int32)), .val (.ref a355), .val (.int (1 : Int32)), .val (.ref b513), .val (.ref b531), .val (.ref b540), .val (.ref b22)] [(.ref b22), (.ref b22)])) _
            refine Jvm.RoadKit.acmp (g := (mkF m 242 #[.val (.int p1), .val (.int p2), .val (.int p3), .val (.int p4), .val (.int p5), .val (.int p6), .val (.ref b7), .val (.ref b17), .val (.ref b22), .val (.ref b72), .val (.int (1 : Int32)), .val (.ref a355), .val (.int (1 : Int32)), .val (.ref b513), .val (.ref b531), .val (.ref b540), .val (.ref b22)] [(.ref b22), (.ref b22)])) X577 hx rfl rfl rfl (pc0 := 242) (pc' := 245) (same := true) rfl (hb hby at_242) rfl (decide_eq_true rfl) (by decide) (by decide) ?_
            show Steps p.tables e below (T577.setTop (mkF m 245 #[.val (.int p1), .val (.int p2), .val (.int p3), .val (.int p4), .val (.int p5), .val (.int p6), .val (.ref b7), .val (.ref b17), .val (.ref b22), .val (.ref b72), .val (.int (1 : Int32)), .val (.ref a355), .val (.int (1 : Int32)), .val (.ref b513), .val (.ref b531), .val (.ref b540), .val (.ref b22)] [])) _
            refine XS.iconst X577.here hx rfl (hb hby at_245) ?_
            show Steps p.tables e below (T577.setTop (mkF m 246 #[.val (.int p1), .val (.int p2), .val (.int p3), .val (.int p4), .val (.int p5), .val (.int p6), .val (.ref b7), .val (.ref b17), .val (.ref b22), .val (.ref b72), .val (.int (1 : Int32)), .val (.ref a355), .val (.int (1 : Int32)), .val (.ref b513), .val (.ref b531), .val (.ref b540), .val (.ref b22)] [(.int (1 : Int32))])) _
            refine XS.goto X577.here hx rfl (pc0 := 246) (pc' := 250) rfl (hb hby at_246) (by decide) (by decide) ?_
            show Steps p.tables e below (T577.setTop (mkF m 250 #[.val (.int p1), .val (.int p2), .val (.int p3), .val (.int p4), .val (.int p5), .val (.int p6), .val (.ref b7), .val (.ref b17), .val (.ref b22), .val (.ref b72), .val (.int (1 : Int32)), .val (.ref a355), .val (.int (1 : Int32)), .val (.ref b513), .val (.ref b531), .val (.ref b540), .val (.ref b22)] [(.int (1 : Int32))])) _
            exact retN X577 hx (t := .boolean) Bd.returns (by simp) (hb hby at_250) hr
          · show Q0 Z _ _ _ _ _ _ _ _ _ _ h0 n0 _ T577.heap _
            rw [u580]
            exact ⟨rfl, N577⟩
    · skip
      obtain ⟨T583, X583, e583, st583⟩ := getS2 X116 hx hZ116 hown116 (host := "") (Or.inl (hw _ (gw 117 rfl))) Via.refl rfl (Sta.ext Ou119.2 S_582) (g := (mkF m 125 #[.val (.int p1), .val (.int p2), .val (.int p3), .val (.int p4), .val (.int p5), .val (.int p6), .val (.ref b7), .val (.ref b17), .val (.ref b22), .val (.ref b72), .val (.int i124), .unset, .unset, .unset, .unset, .unset, .unset] [])) rfl (hb hby at_125)
      obtain ⟨i584, hi584⟩ : ∃ z, z = (p6 &&& (1 : Int32)) := ⟨_, rfl⟩
      have pre585 : ∀ t, Steps p.tables e below (T583.setTop (mkF m 134 #[.val (.int p1), .val (.int p2), .val (.int p3), .val (.int p4), .val (.int p5), .val (.int p6), .val (.ref b7), .val (.ref b17), .val (.ref b22), .val (.ref b72), .val (.int i124), .val (.ref a581), .unset, .unset, .unset, .unset, .unset] [(.int i584)])) t → Steps p.tables e below (s₁.setTop (entryFrame m #[(.int p1), (.int p2), (.int p3), (.int p4), (.int p5), (.int p6)] maxLocals)) t := by
        intro t kt
        refine pre353 t ?_
        show Steps p.tables e below (T116.setTop (mkF m 116 #[.val (.int p1), .val (.int p2), .val (.int p3), .val (.int p4), .val (.int p5), .val (.int p6), .val (.ref b7), .val (.ref b17), .val (.ref b22), .val (.ref b72), .val (.int i124), .unset, .unset, .unset, .unset, .unset, .unset] [(.int (1 : Int32)), (.int i124)])) _
        refine XS.icmpYes X116.here hx rfl (pc0 := 116) (pc' := 125) rfl (hb hby at_116) rfl (feq hc354).2 (by decide) (by decide) ?_
        show Steps p.tables e below (T116.setTop (mkF m 125 #[.val (.int p1), .val (.int p2), .val (.int p3), .val (.int p4), .val (.int p5), .val (.int p6), .val (.ref b7), .val (.ref b17), .val (.ref b22), .val (.ref b72), .val (.int i124), .unset, .unset, .unset, .unset, .unset, .unset] [])) _
        refine st583 _ ?_
        show Steps p.tables e below (T583.setTop (mkF m 128 #[.val (.int p1), .val (.int p2), .val (.int p3), .val (.int p4), .val (.int p5), .val (.int p6), .val (.ref b7), .val (.ref b17), .val (.ref b22), .val (.ref b72), .val (.int i124), .unset, .unset, .unset, .unset, .unset, .unset] [(.ref a581)])) _
        refine XS.astore X583.here hx rfl (hb hby at_128) rfl rfl (l' := #[.val (.int p1), .val (.int p2), .val (.int p3), .val (.int p4), .val (.int p5), .val (.int p6), .val (.ref b7), .val (.ref b17), .val (.ref b22), .val (.ref b72), .val (.int i124), .val (.ref a581), .unset, .unset, .unset, .unset, .unset]) rfl ?_
        show Steps p.tables e below (T583.setTop (mkF m 130 #[.val (.int p1), .val (.int p2), .val (.int p3), .val (.int p4), .val (.int p5), .val (.int p6), .val (.ref b7), .val (.ref b17), .val (.ref b22), .val (.ref b72), .val (.int i124), .val (.ref a581), .unset, .unset, .unset, .unset, .unset] [])) _
        refine XS.iload X583.here hx rfl (hb hby at_130) rfl ?_
        show Steps p.tables e below (T583.setTop (mkF m 132 #[.val (.int p1), .val (.int p2), .val (.int p3), .val (.int p4), .val (.int p5), .val (.int p6), .val (.ref b7), .val (.ref b17), .val (.ref b22), .val (.ref b72), .val (.int i124), .val (.ref a581), .unset, .unset, .unset, .unset, .unset] [(.int p6)])) _
        refine XS.iconst X583.here hx rfl (hb hby at_132) ?_
        show Steps p.tables e below (T583.setTop (mkF m 133 #[.val (.int p1), .val (.int p2), .val (.int p3), .val (.int p4), .val (.int p5), .val (.int p6), .val (.ref b7), .val (.ref b17), .val (.ref b22), .val (.ref b72), .val (.int i124), .val (.ref a581), .unset, .unset, .unset, .unset, .unset] [(.int (1 : Int32)), (.int p6)])) _
        refine XS.iand X583.here hx rfl (hb hby at_133) rfl ?_
        show Steps p.tables e below (T583.setTop (mkF m 134 #[.val (.int p1), .val (.int p2), .val (.int p3), .val (.int p4), .val (.int p5), .val (.int p6), .val (.ref b7), .val (.ref b17), .val (.ref b22), .val (.ref b72), .val (.int i124), .val (.ref a581), .unset, .unset, .unset, .unset, .unset] [(.int (p6 &&& (1 : Int32)))])) _
        rw [← hi584]
        exact kt
      by_cases hc586 : i584 = (0 : Int32)
      · skip
        subst hc586
        obtain ⟨i587, hi587⟩ : ∃ z, z = (p6 &&& (8 : Int32)) := ⟨_, rfl⟩
        have pre588 : ∀ t, Steps p.tables e below (T583.setTop (mkF m 149 #[.val (.int p1), .val (.int p2), .val (.int p3), .val (.int p4), .val (.int p5), .val (.int p6), .val (.ref b7), .val (.ref b17), .val (.ref b22), .val (.ref b72), .val (.int i124), .val (.ref a581), .val (.int (0 : Int32)), .unset, .unset, .unset, .unset] [(.int i587)])) t → Steps p.tables e below (s₁.setTop (entryFrame m #[(.int p1), (.int p2), (.int p3), (.int p4), (.int p5), (.int p6)] maxLocals)) t := by
          intro t kt
          refine pre585 t ?_
          show Steps p.tables e below (T583.setTop (mkF m 134 #[.val (.int p1), .val (.int p2), .val (.int p3), .val (.int p4), .val (.int p5), .val (.int p6), .val (.ref b7), .val (.ref b17), .val (.ref b22), .val (.ref b72), .val (.int i124), .val (.ref a581), .unset, .unset, .unset, .unset, .unset] [(.int (0 : Int32))])) _
          refine XS.ifYes X583.here hx rfl (pc0 := 134) (pc' := 141) rfl (hb hby at_134) rfl ((if0 _ _).trans (teq (by decide +kernel : (0 : Int32) = (0 : Int32))).1) (by decide) (by decide) ?_
          show Steps p.tables e below (T583.setTop (mkF m 141 #[.val (.int p1), .val (.int p2), .val (.int p3), .val (.int p4), .val (.int p5), .val (.int p6), .val (.ref b7), .val (.ref b17), .val (.ref b22), .val (.ref b72), .val (.int i124), .val (.ref a581), .unset, .unset, .unset, .unset, .unset] [])) _
          refine XS.iconst X583.here hx rfl (hb hby at_141) ?_
          show Steps p.tables e below (T583.setTop (mkF m 142 #[.val (.int p1), .val (.int p2), .val (.int p3), .val (.int p4), .val (.int p5), .val (.int p6), .val (.ref b7), .val (.ref b17), .val (.ref b22), .val (.ref b72), .val (.int i124), .val (.ref a581), .unset, .unset, .unset, .unset, .unset] [(.int (0 : Int32))])) _
          refine XS.istore X583.here hx rfl (hb hby at_142) rfl (l' := #[.val (.int p1), .val (.int p2), .val (.int p3), .val (.int p4), .val (.int p5), .val (.int p6), .val (.ref b7), .val (.ref b17), .val (.ref b22), .val (.ref b72), .val (.int i124), .val (.ref a581), .val (.int (0 : Int32)), .unset, .unset, .unset, .unset]) rfl ?_
          show Steps p.tables e below (T583.setTop (mkF m 144 #[.val (.int p1), .val (.int p2), .val (.int p3), .val (.int p4), .val (.int p5), .val (.int p6), .val (.ref b7), .val (.ref b17), .val (.ref b22), .val (.ref b72), .val (.int i124), .val (.ref a581), .val (.int (0 : Int32)), .unset, .unset, .unset, .unset] [])) _
          refine XS.iload X583.here hx rfl (hb hby at_144) rfl ?_
          show Steps p.tables e below (T583.setTop (mkF m 146 #[.val (.int p1), .val (.int p2), .val (.int p3), .val (.int p4), .val (.int p5), .val (.int p6), .val (.ref b7), .val (.ref b17), .val (.ref b22), .val (.ref b72), .val (.int i124), .val (.ref a581), .val (.int (0 : Int32)), .unset, .unset, .unset, .unset] [(.int p6)])) _
          refine XS.bipush X583.here hx rfl (hb hby at_146) ?_
          show Steps p.tables e below (T583.setTop (mkF m 148 #[.val (.int p1), .val (.int p2), .val (.int p3), .val (.int p4), .val (.int p5), .val (.int p6), .val (.ref b7), .val (.ref b17), .val (.ref b22), .val (.ref b72), .val (.int i124), .val (.ref a581), .val (.int (0 : Int32)), .unset, .unset, .unset, .unset] [(.int (8 : Int32)), (.int p6)])) _
          refine XS.iand X583.here hx rfl (hb hby at_148) rfl ?_
          show Steps p.tables e below (T583.setTop (mkF m 149 #[.val (.int p1), .val (.int p2), .val (.int p3), .val (.int p4), .val (.int p5), .val (.int p6), .val (.ref b7), .val (.ref b17), .val (.ref b22), .val (.ref b72), .val (.int i124), .val (.ref a581), .val (.int (0 : Int32)), .unset, .unset, .unset, .unset] [(.int (p6 &&& (8 : Int32)))])) _
          rw [← hi587]
          exact kt
        by_cases hc589 : i587 = (0 : Int32)
        · skip
          subst hc589
          obtain ⟨T590, h590, X590, e590, E590, A590, D590, -, st590⟩ := newO X583 hx hZ116 hown116 (hw _ (gw 87 rfl)) (hw _ (gw 88 rfl)) (hw _ (gw 89 rfl)) e583 (g := (mkF m 191 #[.val (.int p1), .val (.int p2), .val (.int p3), .val (.int p4), .val (.int p5), .val (.int p6), .val (.ref b7), .val (.ref b17), .val (.ref b22), .val (.ref b72), .val (.int i124), .val (.ref a581), .val (.int (0 : Int32)), .val .null, .val .null, .unset, .unset] [])) rfl (hb hby at_191) (by decide) (by decide)
          obtain ⟨b590, g590⟩ : ∃ z, z = T116.heap.size := ⟨_, rfl⟩
          rw [← g590] at A590 D590 st590
          have O590 : Old Z n0 h590 := Ou119.ext E590
          have bd_b590 : T116.heap.size ≤ b590 := Nat.le_of_eq g590.symm
          have g_b590 : n0 ≤ b590 := Nat.le_trans (own_z Ou119) bd_b590
          have sz_b590 : h0.size ≤ b590 := Nat.le_trans (Nat.le_trans (Nat.le_trans (Nat.le_trans (Nat.le_trans (Nat.le_trans (Nat.le_trans (Nat.le_trans (Nat.le_trans (Nat.le_trans (Nat.le_trans (Nat.le_trans (Nat.le_trans (Nat.le_trans (Nat.le_trans E7.1 (Keep.of_wr W11).1) (Keep.of_wr W16).1) E17.1) (Keep.of_wr W21).1) E22.1) E23.1) Ku39.1) E45.1) Ku56.1) Ku68.1) E72.1) Ku87.1) Ku107.1) Ku119.1) bd_b590
          have lt_b590 : b590 < h590.size := A590.lt
          have D590_98 : Fld Z h590 b590 "com/example/stemline/stemline/graph/Edge" "source" "Lcom/example/stemline/stemline/model/ColumnSource;" .null := D590 (Or.inr (hw _ (gw 98 rfl))) (ty := (.object "com/example/stemline/stemline/model/ColumnSource")) (by decide)
          have D590_100 : Fld Z h590 b590 "com/example/stemline/stemline/graph/Edge" "target" "Lcom/example/stemline/stemline/model/TableColumn;" .null := D590 (Or.inr (hw _ (gw 100 rfl))) (ty := (.object "com/example/stemline/stemline/model/TableColumn")) (by decide)
          have D590_102 : Fld Z h590 b590 "com/example/stemline/stemline/graph/Edge" "file" "Ljava/lang/String;" .null := D590 (Or.inr (hw _ (gw 102 rfl))) (ty := (.object "java/lang/String")) (by decide)
          have D590_104 : Fld Z h590 b590 "com/example/stemline/stemline/graph/Edge" "line" "I" (.int (0 : Int32)) := D590 (Or.inr (hw _ (gw 104 rfl))) (ty := .int) (by decide)
          obtain ⟨T591, h591, X591, e591, E591, A591, D591, -, st591⟩ := newO X590 hx hZ116 hown116 (hw _ (gw 4 rfl)) (hw _ (gw 5 rfl)) (hw _ (gw 6 rfl)) e590 (g := (mkF m 199 #[.val (.int p1), .val (.int p2), .val (.int p3), .val (.int p4), .val (.int p5), .val (.int p6), .val (.ref b7), .val (.ref b17), .val (.ref b22), .val (.ref b72), .val (.int i124), .val (.ref a581), .val (.int (0 : Int32)), .val .null, .val .null, .unset, .unset] [(.ref b72), .null, (.ref b590), (.ref b590)])) rfl (hb hby at_199) (by decide) (by decide)
          obtain ⟨b591, g591⟩ : ∃ z, z = h590.size := ⟨_, rfl⟩
          rw [← g591] at A591 D591 st591
          have O591 : Old Z n0 h591 := O590.ext E591
          have bd_b591 : h590.size ≤ b591 := Nat.le_of_eq g591.symm
          have g_b591 : n0 ≤ b591 := Nat.le_trans (own_z O590) bd_b591
          have sz_b591 : h0.size ≤ b591 := Nat.le_trans (Nat.le_trans (Nat.le_trans (Nat.le_trans (Nat.le_trans (Nat.le_trans (Nat.le_trans (Nat.le_trans (Nat.le_trans (Nat.le_trans (Nat.le_trans (Nat.le_trans (Nat.le_trans (Nat.le_trans (Nat.le_trans (Nat.le_trans E7.1 (Keep.of_wr W11).1) (Keep.of_wr W16).1) E17.1) (Keep.of_wr W21).1) E22.1) E23.1) Ku39.1) E45.1) Ku56.1) Ku68.1) E72.1) Ku87.1) Ku107.1) Ku119.1) E590.1) bd_b591
          have lt_b591 : b591 < h591.size := A591.lt
          have D591_30 : Fld Z h591 b591 "java/lang/String" "coder" "B" (.int (0 : Int32)) := D591 (Or.inr (hw _ (gw 30 rfl))) (ty := .byte) (by decide)
          have D591_32 : Fld Z h591 b591 "java/lang/String" "value" "[B" .null := D591 (Or.inr (hw _ (gw 32 rfl))) (ty := (.array .byte)) (by decide)
          have f592 : Arv Z h591 b7 k7 .char (2 : Int32) [(.int i8), (.int i13)] (.int (0 : Int32)) := ((((((((((f27.keep Ku39 (ninS (Nat.ne_of_lt (Nat.lt_of_lt_of_le (Nat.lt_of_lt_of_le (Nat.lt_of_lt_of_le (Nat.lt_of_lt_of_le (Nat.lt_of_lt_of_le (Nat.lt_of_lt_of_le lt_b7 (Keep.of_wr W11).1) (Keep.of_wr W16).1) E17.1) (Keep.of_wr W21).1) E22.1) bd_b23)) nin0)).ext E45).keep Ku56 (ninS (Nat.ne_of_lt (Nat.lt_of_lt_of_le (Nat.lt_of_lt_of_le (Nat.lt_of_lt_of_le (Nat.lt_of_lt_of_le (Nat.lt_of_lt_of_le (Nat.lt_of_lt_of_le (Nat.lt_of_lt_of_le (Nat.lt_of_lt_of_le lt_b7 (Keep.of_wr W11).1) (Keep.of_wr W16).1) E17.1) (Keep.of_wr W21).1) E22.1) E23.1) Ku39.1) bd_b45)) nin0)).keep Ku68 (ninS (Nat.ne_of_lt (Nat.lt_of_lt_of_le (Nat.lt_of_lt_of_le (Nat.lt_of_lt_of_le (Nat.lt_of_lt_of_le (Nat.lt_of_lt_of_le lt_b7 (Keep.of_wr W11).1) (Keep.of_wr W16).1) E17.1) (Keep.of_wr W21).1) bd_b22)) nin0)).ext E72).keep Ku87 nin0).keep Ku107 nin0).keep Ku119 (ninS (Nat.ne_of_lt (Nat.lt_of_lt_of_le (Nat.lt_of_lt_of_le (Nat.lt_of_lt_of_le (Nat.lt_of_lt_of_le (Nat.lt_of_lt_of_le (Nat.lt_of_lt_of_le (Nat.lt_of_lt_of_le (Nat.lt_of_lt_of_le (Nat.lt_of_lt_of_le (Nat.lt_of_lt_of_le (Nat.lt_of_lt_of_le lt_b7 (Keep.of_wr W11).1) (Keep.of_wr W16).1) E17.1) (Keep.of_wr W21).1) E22.1) E23.1) Ku39.1) E45.1) Ku56.1) Ku68.1) bd_b72)) nin0)).ext E590).ext E591)
          obtain ⟨_, _, ⟨T593, L593, k593, n593⟩, -, X593, ⟨Lc593, hQ593, l593, y593, z593⟩, st593⟩ := X591.specialBack hx (y := M_4) rfl hown116 (mvT hZ116 (hw _ (gw 7 rfl))) (mvT hZ116 (hw _ (gw 8 rfl))) (mvT hZ116 (hw _ (gw 9 rfl))) (by decide) (backOf (W := 5) (rm1_2 l Z a0 hw [] b591 b7 i8 i13 k7 p24 h591 n0  O591 f592 S_25 hk26 (own_lt255 hi8) (own_lt255 hi13) A591 D591_30 D591_32 (Nat.lt_of_lt_of_le (Nat.lt_of_lt_of_le (Nat.lt_of_lt_of_le (Nat.lt_of_lt_of_le (Nat.lt_of_lt_of_le (Nat.lt_of_lt_of_le (Nat.lt_of_lt_of_le (Nat.lt_of_lt_of_le (Nat.lt_of_lt_of_le (Nat.lt_of_lt_of_le (Nat.lt_of_lt_of_le (Nat.lt_of_lt_of_le (Nat.lt_of_lt_of_le (Nat.lt_of_lt_of_le (Nat.lt_of_lt_of_le (Nat.lt_of_lt_of_le lt_b7 (Keep.of_wr W11).1) (Keep.of_wr W16).1) E17.1) (Keep.of_wr W21).1) E22.1) E23.1) Ku39.1) E45.1) Ku56.1) Ku68.1) E72.1) Ku87.1) Ku107.1) Ku119.1) E590.1) E591.1) g_b591 lt_b591) hZ116 (hw _ (gw 9 rfl)) (hw _ (gw 6 rfl)) (by decide) (by decide)) (g := (mkF m 205 #[.val (.int p1), .val (.int p2), .val (.int p3), .val (.int p4), .val (.int p5), .val (.int p6), .val (.ref b7), .val (.ref b17), .val (.ref b22), .val (.ref b72), .val (.int i124), .val (.ref a581), .val (.int (0 : Int32)), .val .null, .val .null, .unset, .unset] [(.ref b7), (.ref b591), (.ref b591), (.ref b72), .null, (.ref b590), (.ref b590)])) rfl (by rw [hml]; rfl) (Steps.refl _) (a := b591) (argsL := [(.ref b7)]) (rest := [(.ref b591), (.ref b72), .null, (.ref b590), (.ref b590)]) (lenOf pd_4 rfl) rfl (by show 2 * 0 + _ ≤ _; exact Nat.le_of_eq rfl) (hb hby at_205) (fun _ _ => ⟨rfl, e591, (by decide : 22 + 1 ≤ _), (by decide : 124 + 2 ≤ _)⟩)
          dsimp only [Pt.U, Pt.locs, Pt.cells, Pt.slots] at X593 l593 y593 z593 st593 hQ593
          subst l593 y593 z593
          obtain ⟨i594, i595, b596, k597, u598, u599, rfl, u601, u602, u603, Ku604, u605, u606, u607, u608, u609⟩ := hQ593
          have Ou604 : Old Z n0 T593.heap := O591.keep Ku604 (allS g_b591 all0)
          have g_b596 : n0 ≤ b596 := Nat.le_trans (own_z O591) u602
          have sz_b596 : h0.size ≤ b596 := Nat.le_trans (Nat.le_trans (Nat.le_trans (Nat.le_trans (Nat.le_trans (Nat.le_trans (Nat.le_trans (Nat.le_trans (Nat.le_trans (Nat.le_trans (Nat.le_trans (Nat.le_trans (Nat.le_trans (Nat.le_trans (Nat.le_trans (Nat.le_trans (Nat.le_trans E7.1 (Keep.of_wr W11).1) (Keep.of_wr W16).1) E17.1) (Keep.of_wr W21).1) E22.1) E23.1) Ku39.1) E45.1) Ku56.1) Ku68.1) E72.1) Ku87.1) Ku107.1) Ku119.1) E590.1) E591.1) u602
          have N593 := Fr.app N116 u601
          have pre610 : ∀ t, Steps p.tables e below (T593.setTop (mkF m 208 #[.val (.int p1), .val (.int p2), .val (.int p3), .val (.int p4), .val (.int p5), .val (.int p6), .val (.ref b7), .val (.ref b17), .val (.ref b22), .val (.ref b72), .val (.int i124), .val (.ref a581), .val (.int (0 : Int32)), .val .null, .val .null, .unset, .unset] [(.ref b591), (.ref b72), .null, (.ref b590), (.ref b590)])) t → Steps p.tables e below (s₁.setTop (entryFrame m #[(.int p1), (.int p2), (.int p3), (.int p4), (.int p5), (.int p6)] maxLocals)) t := by
            intro t kt
            refine pre588 t ?_
            show Steps p.tables e below (T583.setTop (mkF m 149 #[.val (.int p1), .val (.int p2), .val (.int p3), .val (.int p4), .val (.int p5), .val (.int p6), .val (.ref b7), .val (.ref b17), .val (.ref b22), .val (.ref b72), .val (.int i124), .val (.ref a581), .val (.int (0 : Int32)), .unset, .unset, .unset, .unset] [(.int (0 : Int32))])) _
            refine XS.ifYes X583.here hx rfl (pc0 := 149) (pc' := 164) rfl (hb hby at_149) rfl ((if0 _ _).trans (teq (by decide +kernel : (0 : Int32) = (0 : Int32))).1) (by decide) (by decide) ?_
            show Steps p.tables e below (T583.setTop (mkF m 164 #[.val (.int p1), .val (.int p2), .val (.int p3), .val (.int p4), .val (.int p5), .val (.int p6), .val (.ref b7), .val (.ref b17), .val (.ref b22), .val (.ref b72), .val (.int i124), .val (.ref a581), .val (.int (0 : Int32)), .unset, .unset, .unset, .unset] [])) _
            refine XS.aconstNull X583.here hx rfl (hb hby at_164) ?_
            show Steps p.tables e below (T583.setTop (mkF m 165 #[.val (.int p1), .val (.int p2), .val (.int p3), .val (.int p4), .val (.int p5), .val (.int p6), .val (.ref b7), .val (.ref b17), .val (.ref b22), .val (.ref b72), .val (.int i124), .val (.ref a581), .val (.int (0 : Int32)), .unset, .unset, .unset, .unset] [.null])) _
            refine XS.astore X583.here hx rfl (hb hby at_165) rfl rfl (l' := #[.val (.int p1), .val (.int p2), .val (.int p3), .val (.int p4), .val (.int p5), .val (.int p6), .val (.ref b7), .val (.ref b17), .val (.ref b22), .val (.ref b72), .val (.int i124), .val (.ref a581), .val (.int (0 : Int32)), .val .null, .unset, .unset, .unset]) rfl ?_
            show Steps p.tables e below (T583.setTop (mkF m 167 #[.val (.int p1), .val (.int p2), .val (.int p3), .val (.int p4), .val (.int p5), .val (.int p6), .val (.ref b7), .val (.ref b17), .val (.ref b22), .val (.ref b72), .val (.int i124), .val (.ref a581), .val (.int (0 : Int32)), .val .null, .unset, .unset, .unset] [])) _
            refine XS.iload X583.here hx rfl (hb hby at_167) rfl ?_
            show Steps p.tables e below (T583.setTop (mkF m 169 #[.val (.int p1), .val (.int p2), .val (.int p3), .val (.int p4), .val (.int p5), .val (.int p6), .val (.ref b7), .val (.ref b17), .val (.ref b22), .val (.ref b72), .val (.int i124), .val (.ref a581), .val (.int (0 : Int32)), .val .null, .unset, .unset, .unset] [(.int (0 : Int32))])) _
            refine XS.ifYes X583.here hx rfl (pc0 := 169) (pc' := 188) rfl (hb hby at_169) rfl ((if0 _ _).trans (teq (by decide +kernel : (0 : Int32) = (0 : Int32))).1) (by decide) (by decide) ?_
            show Steps p.tables e below (T583.setTop (mkF m 188 #[.val (.int p1), .val (.int p2), .val (.int p3), .val (.int p4), .val (.int p5), .val (.int p6), .val (.ref b7), .val (.ref b17), .val (.ref b22), .val (.ref b72), .val (.int i124), .val (.ref a581), .val (.int (0 : Int32)), .val .null, .unset, .unset, .unset] [])) _
            refine XS.aconstNull X583.here hx rfl (hb hby at_188) ?_
            show Steps p.tables e below (T583.setTop (mkF m 189 #[.val (.int p1), .val (.int p2), .val (.int p3), .val (.int p4), .val (.int p5), .val (.int p6), .val (.ref b7), .val (.ref b17), .val (.ref b22), .val (.ref b72), .val (.int i124), .val (.ref a581), .val (.int (0 : Int32)), .val .null, .unset, .unset, .unset] [.null])) _
            refine XS.astore X583.here hx rfl (hb hby at_189) rfl rfl (l' := #[.val (.int p1), .val (.int p2), .val (.int p3), .val (.int p4), .val (.int p5), .val (.int p6), .val (.ref b7), .val (.ref b17), .val (.ref b22), .val (.ref b72), .val (.int i124), .val (.ref a581), .val (.int (0 : Int32)), .val .null, .val .null, .unset, .unset]) rfl ?_
            show Steps p.tables e below (T583.setTop (mkF m 191 #[.val (.int p1), .val (.int p2), .val (.int p3), .val (.int p4), .val (.int p5), .val (.int p6), .val (.ref b7), .val (.ref b17), .val (.ref b22), .val (.ref b72), .val (.int i124), .val (.ref a581), .val (.int (0 : Int32)), .val .null, .val .null, .unset, .unset] [])) _
            refine st590 _ ?_
            show Steps p.tables e below (T590.setTop (mkF m 194 #[.val (.int p1), .val (.int p2), .val (.int p3), .val (.int p4), .val (.int p5), .val (.int p6), .val (.ref b7), .val (.ref b17), .val (.ref b22), .val (.ref b72), .val (.int i124), .val (.ref a581), .val (.int (0 : Int32)), .val .null, .val .null, .unset, .unset] [(.ref b590)])) _
            refine XS.dup X590.here hx rfl (hb hby at_194) rfl rfl ?_
            show Steps p.tables e below (T590.setTop (mkF m 195 #[.val (.int p1), .val (.int p2), .val (.int p3), .val (.int p4), .val (.int p5), .val (.int p6), .val (.ref b7), .val (.ref b17), .val (.ref b22), .val (.ref b72), .val (.int i124), .val (.ref a581), .val (.int (0 : Int32)), .val .null, .val .null, .unset, .unset] [(.ref b590), (.ref b590)])) _
            refine XS.aload X590.here hx rfl (hb hby at_195) rfl rfl ?_
            show Steps p.tables e below (T590.setTop (mkF m 197 #[.val (.int p1), .val (.int p2), .val (.int p3), .val (.int p4), .val (.int p5), .val (.int p6), .val (.ref b7), .val (.ref b17), .val (.ref b22), .val (.ref b72), .val (.int i124), .val (.ref a581), .val (.int (0 : Int32)), .val .null, .val .null, .unset, .unset] [.null, (.ref b590), (.ref b590)])) _
            refine XS.aload X590.here hx rfl (hb hby at_197) rfl rfl ?_
            show Steps p.tables e below (T590.setTop (mkF m 199 #[.val (.int p1), .val (.int p2), .val (.int p3), .val (.int p4), .val (.int p5), .val (.int p6), .val (.ref b7), .val (.ref b17), .val (.ref b22), .val (.ref b72), .val (.int i124), .val (.ref a581), .val (.int (0 : Int32)), .val .null, .val .null, .unset, .unset] [(.ref b72), .null, (.ref b590), (.ref b590)])) _
            refine st591 _ ?_
            show Steps p.tables e below (T591.setTop (mkF m 202 #[.val (.int p1), .val (.int p2), .val (.int p3), .val (.int p4), .val (.int p5), .val (.int p6), .val (.ref b7), .val (.ref b17), .val (.ref b22), .val (.ref b72), .val (.int i124), .val (.ref a581), .val (.int (0 : Int32)), .val .null, .val .null, .unset, .unset] [(.ref b591), (.ref b72), .null, (.ref b590), (.ref b590)])) _
            refine XS.dup X591.here hx rfl (hb hby at_202) rfl rfl ?_
            show Steps p.tables e below (T591.setTop (mkF m 203 #[.val (.int p1), .val (.int p2), .val (.int p3), .val (.int p4), .val (.int p5), .val (.int p6), .val (.ref b7), .val (.ref b17), .val (.ref b22), .val (.ref b72), .val (.int i124), .val (.ref a581), .val (.int (0 : Int32)), .val .null, .val .null, .unset, .unset] [(.ref b591), (.ref b591), (.ref b72), .null, (.ref b590), (.ref b590)])) _
            refine XS.aload X591.here hx rfl (hb hby at_203) rfl rfl ?_
            show Steps p.tables e below (T591.setTop (mkF m 205 #[.val (.int p1), .val (.int p2), .val (.int p3), .val (.int p4), .val (.int p5), .val (.int p6), .val (.ref b7), .val (.ref b17), .val (.ref b22), .val (.ref b72), .val (.int i124), .val (.ref a581), .val (.int (0 : Int32)), .val .null, .val .null, .unset, .unset] [(.ref b7), (.ref b591), (.ref b591), (.ref b72), .null, (.ref b590), (.ref b590)])) _
            refine st593.trans ?_
            exact kt
          obtain rfl : i30 = i595 := (u598.trans u33.symm).symm
          obtain rfl : i29 = i594 := (u599.trans u34.symm).symm
          have f611 : Exa Z T593.heap b590 "com/example/stemline/stemline/graph/Edge" := ((Exa.ext E591 A590).keep Ku604)
          have f612 : Fld Z T593.heap b590 "com/example/stemline/stemline/graph/Edge" "file" "Ljava/lang/String;" .null := ((Fld.ext E591 D590_102).keep Ku604 (ninS (Nat.ne_of_lt (Nat.lt_of_lt_of_le lt_b590 bd_b591)) nin0))
          have f613 : Fld Z T593.heap b590 "com/example/stemline/stemline/graph/Edge" "line" "I" (.int (0 : Int32)) := ((Fld.ext E591 D590_104).keep Ku604 (ninS (Nat.ne_of_lt (Nat.lt_of_lt_of_le lt_b590 bd_b591)) nin0))
          have f614 : Fld Z T593.heap b590 "com/example/stemline/stemline/graph/Edge" "source" "Lcom/example/stemline/stemline/model/ColumnSource;" .null := ((Fld.ext E591 D590_98).keep Ku604 (ninS (Nat.ne_of_lt (Nat.lt_of_lt_of_le lt_b590 bd_b591)) nin0))
          have f615 : Fld Z T593.heap b590 "com/example/stemline/stemline/graph/Edge" "target" "Lcom/example/stemline/stemline/model/TableColumn;" .null := ((Fld.ext E591 D590_100).keep Ku604 (ninS (Nat.ne_of_lt (Nat.lt_of_lt_of_le lt_b590 bd_b591)) nin0))
          obtain ⟨_, _, ⟨T616, L616, k616, n616⟩, -, X616, sn616, gr616, ⟨Lc616, hQ616, l616, y616, z616⟩, st616⟩ := X593.specialBackS hx (y := M_12) rfl hown116 (mvT hZ116 (hw _ (gw 90 rfl))) (mvT hZ116 (hw _ (gw 91 rfl))) (mvT hZ116 (hw _ (gw 92 rfl))) (by decide) (backOfS (W := 1) (rm15_19 l Z a0 hw [] b590 b72 b591 p5 T593.heap n0  Ou604 f611 f612 f613 f614 f615 g_b590) hZ116 (hw _ (gw 92 rfl)) (hw _ (gw 89 rfl)) (by decide) (by decide)) (g := (mkF m 210 #[.val (.int p1), .val (.int p2), .val (.int p3), .val (.int p4), .val (.int p5), .val (.int p6), .val (.ref b7), .val (.ref b17), .val (.ref b22), .val (.ref b72), .val (.int i124), .val (.ref a581), .val (.int (0 : Int32)), .val .null, .val .null, .unset, .unset] [(.int p5), (.ref b591), (.ref b72), .null, (.ref b590), (.ref b590)])) rfl (by rw [hml]; rfl) (Steps.refl _) (a := b590) (argsL := [.null, (.ref b72), (.ref b591), (.int p5)]) (rest := [(.ref b590)]) (lenOf pd_12 rfl) rfl (by show 2 * 0 + _ ≤ _; exact Nat.le_of_eq rfl) (hb hby at_210) (fun _ _ => ⟨rfl, rfl, (by decide : 23 + 4 ≤ _), (by decide : 126 + 48 ≤ _)⟩)
          dsimp only [Pt.U, Pt.locs, Pt.cells, Pt.slots] at X616 l616 y616 z616 st616 hQ616 sn616 gr616
          subst l616 y616 z616
          have gs616 : T593.heap.size ≤ T616.heap.size := gr616
          have hS616 : s.Since T616.vm T616.heap.size := hS116.trans sn616 (Nat.le_trans (Nat.le_trans (Nat.le_trans (Nat.le_trans (Nat.le_refl _) E590.1) E591.1) Ku604.1) gs616)
          have hZ616 : Z.Warmed39 (s.setVm T616.vm).vm := State.Warmed39.trans (t := (s.setVm T116.vm)) hZ116 sn616.1
          have hown616 : (s.setVm T616.vm).vm.findClass "com/example/stemline/stemline/graph/EdgeSourceColumnPinLaw" = some m.cls := by rw [show (s.setVm T616.vm).vm = T616.vm from rfl, sn616.1.alike.findClass]; exact hown116
          obtain ⟨rfl, u618, Ku619, u620, u621, u622, u623, u624⟩ := hQ616
          have Ou619 : Old Z n0 T616.heap := Ou604.keep Ku619 (allS g_b590 all0)
          have N616 := Fr.app N593 u618
          obtain ⟨cq625, kq625, q625a, q625b, q625c⟩ := isOf hZ616 rfl u620
          obtain ⟨_, _, ⟨T625, L625, k625, n625⟩, -, X625, ⟨Lc625, hQ625, l625, y625, z625⟩, st625⟩ := X616.virtualBack hx (y := M_13) (z := M_13) hown616 (mvT hZ616 (hw _ (gw 105 rfl))) (mvT hZ616 (hw _ (gw 106 rfl))) (notFace_of_selects (args := #[]) (mvT hZ616 (hw _ (gw 108 rfl)))) (mvT hZ616 (hw _ (gw 108 rfl))) (mvT hZ616 (hw _ (gw 107 rfl))) (by decide) (backOf (W := 0) (rm16_20 l Z a0 hw [] b590 T616.heap n0  Ou619 u623) hZ616 (hw _ (gw 109 rfl)) (hw _ (gw 89 rfl)) (by decide) (by decide)) q625a q625c (g := (mkF m 217 #[.val (.int p1), .val (.int p2), .val (.int p3), .val (.int p4), .val (.int p5), .val (.int p6), .val (.ref b7), .val (.ref b17), .val (.ref b22), .val (.ref b72), .val (.int i124), .val (.ref a581), .val (.int (0 : Int32)), .val .null, .val .null, .val (.ref b590), .unset] [(.ref b590)])) rfl (by rw [hml]; rfl) (Steps.refl _) (argsL := []) (rest := []) (lenOf pd_13 rfl) rfl (by show 2 * 0 + _ ≤ _; exact Nat.le_of_eq rfl) (hb hby at_217) (fun _ _ => ⟨rfl, rfl, (by decide : 27 + 0 ≤ _), (by decide : 174 + 0 ≤ _)⟩)
          dsimp only [Pt.U, Pt.locs, Pt.cells, Pt.slots] at X625 l625 y625 z625 st625 hQ625
          subst l625 y625 z625
          obtain ⟨rfl, u627, u628⟩ := hQ625
          have N625 := Fr.app N616 u627
          obtain ⟨fs, hr, hrun, hended, hEnd⟩ := X625.leaveW (s := s) (vm₁ := T616.vm) hS616 (by rw [u628]; exact (Nat.le_refl _)) (v := some (.int (1 : Int32))) (fun h => by rw [Bd.returns] at h; cases h)
          refine ⟨_, _, pre610 _ ?_, hrun, hended, _, _, rfl, ?_, hEnd.1, hEnd.2.1, hEnd.2.2.1, hEnd.2.2.2.mono (by decide) (by decide)⟩
          · show Steps p.tables e below (T593.setTop (mkF m 208 #[.val (.int p1), .val (.int p2), .val (.int p3), .val (.int p4), .val (.int p5), .val (.int p6), .val (.ref b7), .val (.ref b17), .val (.ref b22), .val (.ref b72), .val (.int i124), .val (.ref a581), .val (.int (0 : Int32)), .val .null, .val .null, .unset, .unset] [(.ref b591), (.ref b72), .null, (.ref b590), (.ref b590)])) _
            refine XS.iload X593.here hx rfl (hb hby at_208) rfl ?_
            show Steps p.tables e below (T593.setTop (mkF m 210 #[.val (.int p1), .val (.int p2), .val (.int p3), .val (.int p4), .val (.int p5), .val (.int p6), .val (.ref b7), .val (.ref b17), .val (.ref b22), .val (.ref b72), .val (.int i124), .val (.ref a581), .val (.int (0 : Int32)), .val .null, .val .null, .unset, .unset] [(.int p5), (.ref b591), (.ref b72), .null, (.ref b590), (.ref b590)])) _
            refine st616.trans ?_
            show Steps p.tables e below (T616.setTop (mkF m 213 #[.val (.int p1), .val (.int p2), .val (.int p3), .val (.int p4), .val (.int p5), .val (.int p6), .val (.ref b7), .val (.ref b17), .val (.ref b22), .val (.ref b72), .val (.int i124), .val (.ref a581), .val (.int (0 : Int32)), .val .null, .val .null, .unset, .unset] [(.ref b590)])) _
            refine XS.astore X616.here hx rfl (hb hby at_213) rfl rfl (l' := #[.val (.int p1), .val (.int p2), .val (.int p3), .val (.int p4), .val (.int p5), .val (.int p6), .val (.ref b7), .val (.ref b17), .val (.ref b22), .val (.ref b72), .val (.int i124), .val (.ref a581), .val (.int (0 : Int32)), .val .null, .val .null, .val (.ref b590), .unset]) rfl ?_
            show Steps p.tables e below (T616.setTop (mkF m 215 #[.val (.int p1), .val (.int p2), .val (.int p3), .val (.int p4), .val (.int p5), .val (.int p6), .val (.ref b7), .val (.ref b17), .val (.ref b22), .val (.ref b72), .val (.int i124), .val (.ref a581), .val (.int (0 : Int32)), .val .null, .val .null, .val (.ref b590), .unset] [])) _
            refine XS.aload X616.here hx rfl (hb hby at_215) rfl rfl ?_
            show Steps p.tables e below (T616.setTop (mkF m 217 #[.val (.int p1), .val (.int p2), .val (.int p3), .val (.int p4), .val (.int p5), .val (.int p6), .val (.ref b7), .val (.ref b17), .val (.ref b22), .val (.ref b72), .val (.int i124), .val (.ref a581), .val (.int (0 : Int32)), .val .null, .val .null, .val (.ref b590), .unset] [(.ref b590)])) _
            refine st625.trans ?_
            show Steps p.tables e below (T625.setTop (mkF m 220 #[.val (.int p1), .val (.int p2), .val (.int p3), .val (.int p4), .val (.int p5), .val (.int p6), .val (.ref b7), .val (.ref b17), .val (.ref b22), .val (.ref b72), .val (.int i124), .val (.ref a581), .val (.int (0 : Int32)), .val .null, .val .null, .val (.ref b590), .unset] [.null])) _
            refine XS.astore X625.here hx rfl (hb hby at_220) rfl rfl (l' := #[.val (.int p1), .val (.int p2), .val (.int p3), .val (.int p4), .val (.int p5), .val (.int p6), .val (.ref b7), .val (.ref b17), .val (.ref b22), .val (.ref b72), .val (.int i124), .val (.ref a581), .val (.int (0 : Int32)), .val .null, .val .null, .val (.ref b590), .val .null]) rfl ?_
            show Steps p.tables e below (T625.setTop (mkF m 222 #[.val (.int p1), .val (.int p2), .val (.int p3), .val (.int p4), .val (.int p5), .val (.int p6), .val (.ref b7), .val (.ref b17), .val (.ref b22), .val (.ref b72), .val (.int i124), .val (.ref a581), .val (.int (0 : Int32)), .val .null, .val .null, .val (.ref b590), .val .null] [])) _
            refine XS.iload X625.here hx rfl (hb hby at_222) rfl ?_
            show Steps p.tables e below (T625.setTop (mkF m 224 #[.val (.int p1), .val (.int p2), .val (.int p3), .val (.int p4), .val (.int p5), .val (.int p6), .val (.ref b7), .val (.ref b17), .val (.ref b22), .val (.ref b72), .val (.int i124), .val (.ref a581), .val (.int (0 : Int32)), .val .null, .val .null, .val (.ref b590), .val .null] [(.int (0 : Int32))])) _
            refine XS.ifNo X625.here hx rfl (hb hby at_224) rfl ((if0 _ _).trans (teq (by decide +kernel : (0 : Int32) = (0 : Int32))).2) ?_
            show Steps p.tables e below (T625.setTop (mkF m 227 #[.val (.int p1), .val (.int p2), .val (.int p3), .val (.int p4), .val (.int p5), .val (.int p6), .val (.ref b7), .val (.ref b17), .val (.ref b22), .val (.ref b72), .val (.int i124), .val (.ref a581), .val (.int (0 : Int32)), .val .null, .val .null, .val (.ref b590), .val .null] [])) _
            refine XS.aload X625.here hx rfl (hb hby at_227) rfl rfl ?_
            show Steps p.tables e below (T625.setTop (mkF m 229 #[.val (.int p1), .val (.int p2), .val (.int p3), .val (.int p4), .val (.int p5), .val (.int p6), .val (.ref b7), .val (.ref b17), .val (.ref b22), .val (.ref b72), .val (.int i124), .val (.ref a581), .val (.int (0 : Int32)), .val .null, .val .null, .val (.ref b590), .val .null] [.null])) _
            refine XS.ifnonnullNo X625.here hx rfl (hb hby at_229) rfl ?_
            show Steps p.tables e below (T625.setTop (mkF m 232 #[.val (.int p1), .val (.int p2), .val (.int p3), .val (.int p4), .val (.int p5), .val (.int p6), .val (.ref b7), .val (.ref b17), .val (.ref b22), .val (.ref b72), .val (.int i124), .val (.ref a581), .val (.int (0 : Int32)), .val .null, .val .null, .val (.ref b590), .val .null] [])) _
            refine XS.iconst X625.here hx rfl (hb hby at_232) ?_
            show Steps p.tables e below (T625.setTop (mkF m 233 #[.val (.int p1), .val (.int p2), .val (.int p3), .val (.int p4), .val (.int p5), .val (.int p6), .val (.ref b7), .val (.ref b17), .val (.ref b22), .val (.ref b72), .val (.int i124), .val (.ref a581), .val (.int (0 : Int32)), .val .null, .val .null, .val (.ref b590), .val .null] [(.int (1 : Int32))])) _
            refine XS.goto X625.here hx rfl (pc0 := 233) (pc' := 237) rfl (hb hby at_233) (by decide) (by decide) ?_
            show Steps p.tables e below (T625.setTop (mkF m 237 #[.val (.int p1), .val (.int p2), .val (.int p3), .val (.int p4), .val (.int p5), .val (.int p6), .val (.ref b7), .val (.ref b17), .val (.ref b22), .val (.ref b72), .val (.int i124), .val (.ref a581), .val (.int (0 : Int32)), .val .null, .val .null, .val (.ref b590), .val .null] [(.int (1 : Int32))])) _
            exact retN X625 hx (t := .boolean) Bd.returns (by simp) (hb hby at_237) hr
          · show Q0 Z _ _ _ _ _ _ _ _ _ _ h0 n0 _ T625.heap _
            rw [u628]
            exact ⟨rfl, N625⟩
        · skip
          obtain ⟨T629, h629, X629, e629, E629, A629, D629, -, st629⟩ := newO X583 hx hZ116 hown116 (hw _ (gw 4 rfl)) (hw _ (gw 5 rfl)) (hw _ (gw 6 rfl)) e583 (g := (mkF m 152 #[.val (.int p1), .val (.int p2), .val (.int p3), .val (.int p4), .val (.int p5), .val (.int p6), .val (.ref b7), .val (.ref b17), .val (.ref b22), .val (.ref b72), .val (.int i124), .val (.ref a581), .val (.int (0 : Int32)), .unset, .unset, .unset, .unset] [])) rfl (hb hby at_152) (by decide) (by decide)
          obtain ⟨b629, g629⟩ : ∃ z, z = T116.heap.size := ⟨_, rfl⟩
          rw [← g629] at A629 D629 st629
          have O629 : Old Z n0 h629 := Ou119.ext E629
          have bd_b629 : T116.heap.size ≤ b629 := Nat.le_of_eq g629.symm
          have g_b629 : n0 ≤ b629 := Nat.le_trans (own_z Ou119) bd_b629
          have sz_b629 : h0.size ≤ b629 := Nat.le_trans (Nat.le_trans (Nat.le_trans (Nat.le_trans (Nat.le_trans (Nat.le_trans (Nat.le_trans (Nat.le_trans (Nat.le_trans (Nat.le_trans (Nat.le_trans (Nat.le_trans (Nat.le_trans (Nat.le_trans (Nat.le_trans E7.1 (Keep.of_wr W11).1) (Keep.of_wr W16).1) E17.1) (Keep.of_wr W21).1) E22.1) E23.1) Ku39.1) E45.1) Ku56.1) Ku68.1) E72.1) Ku87.1) Ku107.1) Ku119.1) bd_b629
          have lt_b629 : b629 < h629.size := A629.lt
          have D629_30 : Fld Z h629 b629 "java/lang/String" "coder" "B" (.int (0 : Int32)) := D629 (Or.inr (hw _ (gw 30 rfl))) (ty := .byte) (by decide)
          have D629_32 : Fld Z h629 b629 "java/lang/String" "value" "[B" .null := D629 (Or.inr (hw _ (gw 32 rfl))) (ty := (.array .byte)) (by decide)
          have f630 : Arv Z h629 b17 k17 .char (1 : Int32) [(.int i18)] (.int (0 : Int32)) := (((((((f46.keep Ku56 (ninS (Nat.ne_of_lt (Nat.lt_of_lt_of_le (Nat.lt_of_lt_of_le (Nat.lt_of_lt_of_le (Nat.lt_of_lt_of_le (Nat.lt_of_lt_of_le lt_b17 (Keep.of_wr W21).1) E22.1) E23.1) Ku39.1) bd_b45)) nin0)).keep Ku68 (ninS (Nat.ne_of_lt (Nat.lt_of_lt_of_le (Nat.lt_of_lt_of_le lt_b17 (Keep.of_wr W21).1) bd_b22)) nin0)).ext E72).keep Ku87 nin0).keep Ku107 nin0).keep Ku119 (ninS (Nat.ne_of_lt (Nat.lt_of_lt_of_le (Nat.lt_of_lt_of_le (Nat.lt_of_lt_of_le (Nat.lt_of_lt_of_le (Nat.lt_of_lt_of_le (Nat.lt_of_lt_of_le (Nat.lt_of_lt_of_le (Nat.lt_of_lt_of_le lt_b17 (Keep.of_wr W21).1) E22.1) E23.1) Ku39.1) E45.1) Ku56.1) Ku68.1) bd_b72)) nin0)).ext E629)
          obtain ⟨_, _, ⟨T631, L631, k631, n631⟩, -, X631, ⟨Lc631, hQ631, l631, y631, z631⟩, st631⟩ := X629.specialBack hx (y := M_4) rfl hown116 (mvT hZ116 (hw _ (gw 7 rfl))) (mvT hZ116 (hw _ (gw 8 rfl))) (mvT hZ116 (hw _ (gw 9 rfl))) (by decide) (backOf (W := 1) (rm1_7 l Z a0 hw [] b629 b17 i18 k17 p24 h629 n0  O629 f630 S_25 hk26 (own_lt255 hi18) A629 D629_30 D629_32 g_b629 lt_b629) hZ116 (hw _ (gw 9 rfl)) (hw _ (gw 6 rfl)) (by decide) (by decide)) (g := (mkF m 158 #[.val (.int p1), .val (.int p2), .val (.int p3), .val (.int p4), .val (.int p5), .val (.int p6), .val (.ref b7), .val (.ref b17), .val (.ref b22), .val (.ref b72), .val (.int i124), .val (.ref a581), .val (.int (0 : Int32)), .unset, .unset, .unset, .unset] [(.ref b17), (.ref b629), (.ref b629)])) rfl (by rw [hml]; rfl) (Steps.refl _) (a := b629) (argsL := [(.ref b17)]) (rest := [(.ref b629)]) (lenOf pd_4 rfl) rfl (by show 2 * 0 + _ ≤ _; exact Nat.le_of_eq rfl) (hb hby at_158) (fun _ _ => ⟨rfl, e629, (by decide : 21 + 1 ≤ _), (by decide : 120 + 1 ≤ _)⟩)
          dsimp only [Pt.U, Pt.locs, Pt.cells, Pt.slots] at X631 l631 y631 z631 st631 hQ631
          subst l631 y631 z631
          obtain ⟨i632, b633, k634, u635, rfl, u637, u638, u639, Ku640, u641, u642, u643, u644, u645⟩ := hQ631
          have Ou640 : Old Z n0 T631.heap := O629.keep Ku640 (allS g_b629 all0)
          have g_b633 : n0 ≤ b633 := Nat.le_trans (own_z O629) u638
          have sz_b633 : h0.size ≤ b633 := Nat.le_trans (Nat.le_trans (Nat.le_trans (Nat.le_trans (Nat.le_trans (Nat.le_trans (Nat.le_trans (Nat.le_trans (Nat.le_trans (Nat.le_trans (Nat.le_trans (Nat.le_trans (Nat.le_trans (Nat.le_trans (Nat.le_trans (Nat.le_trans E7.1 (Keep.of_wr W11).1) (Keep.of_wr W16).1) E17.1) (Keep.of_wr W21).1) E22.1) E23.1) Ku39.1) E45.1) Ku56.1) Ku68.1) E72.1) Ku87.1) Ku107.1) Ku119.1) E629.1) u638
          have N631 := Fr.app N116 u637
          have pre646 : ∀ t, Steps p.tables e below (T631.setTop (mkF m 161 #[.val (.int p1), .val (.int p2), .val (.int p3), .val (.int p4), .val (.int p5), .val (.int p6), .val (.ref b7), .val (.ref b17), .val (.ref b22), .val (.ref b72), .val (.int i124), .val (.ref a581), .val (.int (0 : Int32)), .unset, .unset, .unset, .unset] [(.ref b629)])) t → Steps p.tables e below (s₁.setTop (entryFrame m #[(.int p1), (.int p2), (.int p3), (.int p4), (.int p5), (.int p6)] maxLocals)) t := by
            intro t kt
            refine pre588 t ?_
            show Steps p.tables e below (T583.setTop (mkF m 149 #[.val (.int p1), .val (.int p2), .val (.int p3), .val (.int p4), .val (.int p5), .val (.int p6), .val (.ref b7), .val (.ref b17), .val (.ref b22), .val (.ref b72), .val (.int i124), .val (.ref a581), .val (.int (0 : Int32)), .unset, .unset, .unset, .unset] [(.int i587)])) _
            refine XS.ifNo X583.here hx rfl (hb hby at_149) rfl ((if0 _ _).trans (feq hc589).1) ?_
            show Steps p.tables e below (T583.setTop (mkF m 152 #[.val (.int p1), .val (.int p2), .val (.int p3), .val (.int p4), .val (.int p5), .val (.int p6), .val (.ref b7), .val (.ref b17), .val (.ref b22), .val (.ref b72), .val (.int i124), .val (.ref a581), .val (.int (0 : Int32)), .unset, .unset, .unset, .unset] [])) _
            refine st629 _ ?_
            show Steps p.tables e below (T629.setTop (mkF m 155 #[.val (.int p1), .val (.int p2), .val (.int p3), .val (.int p4), .val (.int p5), .val (.int p6), .val (.ref b7), .val (.ref b17), .val (.ref b22), .val (.ref b72), .val (.int i124), .val (.ref a581), .val (.int (0 : Int32)), .unset, .unset, .unset, .unset] [(.ref b629)])) _
            refine XS.dup X629.here hx rfl (hb hby at_155) rfl rfl ?_
            show Steps p.tables e below (T629.setTop (mkF m 156 #[.val (.int p1), .val (.int p2), .val (.int p3), .val (.int p4), .val (.int p5), .val (.int p6), .val (.ref b7), .val (.ref b17), .val (.ref b22), .val (.ref b72), .val (.int i124), .val (.ref a581), .val (.int (0 : Int32)), .unset, .unset, .unset, .unset] [(.ref b629), (.ref b629)])) _
            refine XS.aload X629.here hx rfl (hb hby at_156) rfl rfl ?_
            show Steps p.tables e below (T629.setTop (mkF m 158 #[.val (.int p1), .val (.int p2), .val (.int p3), .val (.int p4), .val (.int p5), .val (.int p6), .val (.ref b7), .val (.ref b17), .val (.ref b22), .val (.ref b72), .val (.int i124), .val (.ref a581), .val (.int (0 : Int32)), .unset, .unset, .unset, .unset] [(.ref b17), (.ref b629), (.ref b629)])) _
            refine st631.trans ?_
            exact kt
          obtain rfl : i48 = i632 := (u635.trans u51.symm).symm
          obtain ⟨T647, h647, X647, e647, E647, A647, D647, -, st647⟩ := newO X631 hx hZ116 hown116 (hw _ (gw 87 rfl)) (hw _ (gw 88 rfl)) (hw _ (gw 89 rfl)) rfl (g := (mkF m 191 #[.val (.int p1), .val (.int p2), .val (.int p3), .val (.int p4), .val (.int p5), .val (.int p6), .val (.ref b7), .val (.ref b17), .val (.ref b22), .val (.ref b72), .val (.int i124), .val (.ref a581), .val (.int (0 : Int32)), .val (.ref b629), .val .null, .unset, .unset] [])) rfl (hb hby at_191) (by decide) (by decide)
          obtain ⟨b647, g647⟩ : ∃ z, z = T631.heap.size := ⟨_, rfl⟩
          rw [← g647] at A647 D647 st647
          have O647 : Old Z n0 h647 := Ou640.ext E647
          have bd_b647 : T631.heap.size ≤ b647 := Nat.le_of_eq g647.symm
          have g_b647 : n0 ≤ b647 := Nat.le_trans (own_z Ou640) bd_b647
          have sz_b647 : h0.size ≤ b647 := Nat.le_trans (Nat.le_trans (Nat.le_trans (Nat.le_trans (Nat.le_trans (Nat.le_trans (Nat.le_trans (Nat.le_trans (Nat.le_trans (Nat.le_trans (Nat.le_trans (Nat.le_trans (Nat.le_trans (Nat.le_trans (Nat.le_trans (Nat.le_trans (Nat.le_trans E7.1 (Keep.of_wr W11).1) (Keep.of_wr W16).1) E17.1) (Keep.of_wr W21).1) E22.1) E23.1) Ku39.1) E45.1) Ku56.1) Ku68.1) E72.1) Ku87.1) Ku107.1) Ku119.1) E629.1) Ku640.1) bd_b647
          have lt_b647 : b647 < h647.size := A647.lt
          have D647_98 : Fld Z h647 b647 "com/example/stemline/stemline/graph/Edge" "source" "Lcom/example/stemline/stemline/model/ColumnSource;" .null := D647 (Or.inr (hw _ (gw 98 rfl))) (ty := (.object "com/example/stemline/stemline/model/ColumnSource")) (by decide)
          have D647_100 : Fld Z h647 b647 "com/example/stemline/stemline/graph/Edge" "target" "Lcom/example/stemline/stemline/model/TableColumn;" .null := D647 (Or.inr (hw _ (gw 100 rfl))) (ty := (.object "com/example/stemline/stemline/model/TableColumn")) (by decide)
          have D647_102 : Fld Z h647 b647 "com/example/stemline/stemline/graph/Edge" "file" "Ljava/lang/String;" .null := D647 (Or.inr (hw _ (gw 102 rfl))) (ty := (.object "java/lang/String")) (by decide)
          have D647_104 : Fld Z h647 b647 "com/example/stemline/stemline/graph/Edge" "line" "I" (.int (0 : Int32)) := D647 (Or.inr (hw _ (gw 104 rfl))) (ty := .int) (by decide)
          obtain ⟨T648, h648, X648, e648, E648, A648, D648, -, st648⟩ := newO X647 hx hZ116 hown116 (hw _ (gw 4 rfl)) (hw _ (gw 5 rfl)) (hw _ (gw 6 rfl)) e647 (g := (mkF m 199 #[.val (.int p1), .val (.int p2), .val (.int p3), .val (.int p4), .val (.int p5), .val (.int p6), .val (.ref b7), .val (.ref b17), .val (.ref b22), .val (.ref b72), .val (.int i124), .val (.ref a581), .val (.int (0 : Int32)), .val (.ref b629), .val .null, .unset, .unset] [(.ref b72), .null, (.ref b647), (.ref b647)])) rfl (hb hby at_199) (by decide) (by decide)
          obtain ⟨b648, g648⟩ : ∃ z, z = h647.size := ⟨_, rfl⟩
          rw [← g648] at A648 D648 st648
          have O648 : Old Z n0 h648 := O647.ext E648
          have bd_b648 : h647.size ≤ b648 := Nat.le_of_eq g648.symm
          have g_b648 : n0 ≤ b648 := Nat.le_trans (own_z O647) bd_b648
          have sz_b648 : h0.size ≤ b648 := Nat.le_trans (Nat.le_trans (Nat.le_trans (Nat.le_trans (Nat.le_trans (Nat.le_trans (Nat.le_trans (Nat.le_trans (Nat.le_trans (Nat.le_trans (Nat.le_trans (Nat.le_trans (Nat.le_trans (Nat.le_trans (Nat.le_trans (Nat.le_trans (Nat.le_trans (Nat.le_trans E7.1 (Keep.of_wr W11).1) (Keep.of_wr W16).1) E17.1) (Keep.of_wr W21).1) E22.1) E23.1) Ku39.1) E45.1) Ku56.1) Ku68.1) E72.1) Ku87.1) Ku107.1) Ku119.1) E629.1) Ku640.1) E647.1) bd_b648
          have lt_b648 : b648 < h648.size := A648.lt
          have D648_30 : Fld Z h648 b648 "java/lang/String" "coder" "B" (.int (0 : Int32)) := D648 (Or.inr (hw _ (gw 30 rfl))) (ty := .byte) (by decide)
          have D648_32 : Fld Z h648 b648 "java/lang/String" "value" "[B" .null := D648 (Or.inr (hw _ (gw 32 rfl))) (ty := (.array .byte)) (by decide)
          have f649 : Arv Z h648 b7 k7 .char (2 : Int32) [(.int i8), (.int i13)] (.int (0 : Int32)) := ((((((((((((f27.keep Ku39 (ninS (Nat.ne_of_lt (Nat.lt_of_lt_of_le (Nat.lt_of_lt_of_le (Nat.lt_of_lt_of_le (Nat.lt_of_lt_of_le (Nat.lt_of_lt_of_le (Nat.lt_of_lt_of_le lt_b7 (Keep.of_wr W11).1) (Keep.of_wr W16).1) E17.1) (Keep.of_wr W21).1) E22.1) bd_b23)) nin0)).ext E45).keep Ku56 (ninS (Nat.ne_of_lt (Nat.lt_of_lt_of_le (Nat.lt_of_lt_of_le (Nat.lt_of_lt_of_le (Nat.lt_of_lt_of_le (Nat.lt_of_lt_of_le (Nat.lt_of_lt_of_le (Nat.lt_of_lt_of_le (Nat.lt_of_lt_of_le lt_b7 (Keep.of_wr W11).1) (Keep.of_wr W16).1) E17.1) (Keep.of_wr W21).1) E22.1) E23.1) Ku39.1) bd_b45)) nin0)).keep Ku68 (ninS (Nat.ne_of_lt (Nat.lt_of_lt_of_le (Nat.lt_of_lt_of_le (Nat.lt_of_lt_of_le (Nat.lt_of_lt_of_le (Nat.lt_of_lt_of_le lt_b7 (Keep.of_wr W11).1) (Keep.of_wr W16).1) E17.1) (Keep.of_wr W21).1) bd_b22)) nin0)).ext E72).keep Ku87 nin0).keep Ku107 nin0).keep Ku119 (ninS (Nat.ne_of_lt (Nat.lt_of_lt_of_le (Nat.lt_of_lt_of_le (Nat.lt_of_lt_of_le (Nat.lt_of_lt_of_le (Nat.lt_of_lt_of_le (Nat.lt_of_lt_of_le (Nat.lt_of_lt_of_le (Nat.lt_of_lt_of_le (Nat.lt_of_lt_of_le (Nat.lt_of_lt_of_le (Nat.lt_of_lt_of_le lt_b7 (Keep.of_wr W11).1) (Keep.of_wr W16).1) E17.1) (Keep.of_wr W21).1) E22.1) E23.1) Ku39.1) E45.1) Ku56.1) Ku68.1) bd_b72)) nin0)).ext E629).keep Ku640 (ninS (Nat.ne_of_lt (Nat.lt_of_lt_of_le (Nat.lt_of_lt_of_le (Nat.lt_of_lt_of_le (Nat.lt_of_lt_of_le (Nat.lt_of_lt_of_le (Nat.lt_of_lt_of_le (Nat.lt_of_lt_of_le (Nat.lt_of_lt_of_le (Nat.lt_of_lt_of_le (Nat.lt_of_lt_of_le (Nat.lt_of_lt_of_le (Nat.lt_of_lt_of_le (Nat.lt_of_lt_of_le (Nat.lt_of_lt_of_le (Nat.lt_of_lt_of_le lt_b7 (Keep.of_wr W11).1) (Keep.of_wr W16).1) E17.1) (Keep.of_wr W21).1) E22.1) E23.1) Ku39.1) E45.1) Ku56.1) Ku68.1) E72.1) Ku87.1) Ku107.1) Ku119.1) bd_b629)) nin0)).ext E647).ext E648)
          obtain ⟨_, _, ⟨T650, L650, k650, n650⟩, -, X650, ⟨Lc650, hQ650, l650, y650, z650⟩, st650⟩ := X648.specialBack hx (y := M_4) rfl hown116 (mvT hZ116 (hw _ (gw 7 rfl))) (mvT hZ116 (hw _ (gw 8 rfl))) (mvT hZ116 (hw _ (gw 9 rfl))) (by decide) (backOf (W := 5) (rm1_2 l Z a0 hw [] b648 b7 i8 i13 k7 p24 h648 n0  O648 f649 S_25 hk26 (own_lt255 hi8) (own_lt255 hi13) A648 D648_30 D648_32 (Nat.lt_of_lt_of_le (Nat.lt_of_lt_of_le (Nat.lt_of_lt_of_le (Nat.lt_of_lt_of_le (Nat.lt_of_lt_of_le (Nat.lt_of_lt_of_le (Nat.lt_of_lt_of_le (Nat.lt_of_lt_of_le (Nat.lt_of_lt_of_le (Nat.lt_of_lt_of_le (Nat.lt_of_lt_of_le (Nat.lt_of_lt_of_le (Nat.lt_of_lt_of_le (Nat.lt_of_lt_of_le (Nat.lt_of_lt_of_le (Nat.lt_of_lt_of_le (Nat.lt_of_lt_of_le (Nat.lt_of_lt_of_le lt_b7 (Keep.of_wr W11).1) (Keep.of_wr W16).1) E17.1) (Keep.of_wr W21).1) E22.1) E23.1) Ku39.1) E45.1) Ku56.1) Ku68.1) E72.1) Ku87.1) Ku107.1) Ku119.1) E629.1) Ku640.1) E647.1) E648.1) g_b648 lt_b648) hZ116 (hw _ (gw 9 rfl)) (hw _ (gw 6 rfl)) (by decide) (by decide)) (g := (mkF m 205 #[.val (.int p1), .val (.int p2), .val (.int p3), .val (.int p4), .val (.int p5), .val (.int p6), .val (.ref b7), .val (.ref b17), .val (.ref b22), .val (.ref b72), .val (.int i124), .val (.ref a581), .val (.int (0 : Int32)), .val (.ref b629), .val .null, .unset, .unset] [(.ref b7), (.ref b648), (.ref b648), (.ref b72), .null, (.ref b647), (.ref b647)])) rfl (by rw [hml]; rfl) (Steps.refl _) (a := b648) (argsL := [(.ref b7)]) (rest := [(.ref b648), (.ref b72), .null, (.ref b647), (.ref b647)]) (lenOf pd_4 rfl) rfl (by show 2 * 0 + _ ≤ _; exact Nat.le_of_eq rfl) (hb hby at_205) (fun _ _ => ⟨rfl, e648, (by decide : 24 + 1 ≤ _), (by decide : 129 + 2 ≤ _)⟩)
          dsimp only [Pt.U, Pt.locs, Pt.cells, Pt.slots] at X650 l650 y650 z650 st650 hQ650
          subst l650 y650 z650
          obtain ⟨i651, i652, b653, k654, u655, u656, rfl, u658, u659, u660, Ku661, u662, u663, u664, u665, u666⟩ := hQ650
          have Ou661 : Old Z n0 T650.heap := O648.keep Ku661 (allS g_b648 all0)
          have g_b653 : n0 ≤ b653 := Nat.le_trans (own_z O648) u659
          have sz_b653 : h0.size ≤ b653 := Nat.le_trans (Nat.le_trans (Nat.le_trans (Nat.le_trans (Nat.le_trans (Nat.le_trans (Nat.le_trans (Nat.le_trans (Nat.le_trans (Nat.le_trans (Nat.le_trans (Nat.le_trans (Nat.le_trans (Nat.le_trans (Nat.le_trans (Nat.le_trans (Nat.le_trans (Nat.le_trans (Nat.le_trans E7.1 (Keep.of_wr W11).1) (Keep.of_wr W16).1) E17.1) (Keep.of_wr W21).1) E22.1) E23.1) Ku39.1) E45.1) Ku56.1) Ku68.1) E72.1) Ku87.1) Ku107.1) Ku119.1) E629.1) Ku640.1) E647.1) E648.1) u659
          have N650 := Fr.app N631 u658
          have pre667 : ∀ t, Steps p.tables e below (T650.setTop (mkF m 208 #[.val (.int p1), .val (.int p2), .val (.int p3), .val (.int p4), .val (.int p5), .val (.int p6), .val (.ref b7), .val (.ref b17), .val (.ref b22), .val (.ref b72), .val (.int i124), .val (.ref a581), .val (.int (0 : Int32)), .val (.ref b629), .val .null, .unset, .unset] [(.ref b648), (.ref b72), .null, (.ref b647), (.ref b647)])) t → Steps p.tables e below (s₁.setTop (entryFrame m #[(.int p1), (.int p2), (.int p3), (.int p4), (.int p5), (.int p6)] maxLocals)) t := by
            intro t kt
            refine pre646 t ?_
            show Steps p.tables e below (T631.setTop (mkF m 161 #[.val (.int p1), .val (.int p2), .val (.int p3), .val (.int p4), .val (.int p5), .val (.int p6), .val (.ref b7), .val (.ref b17), .val (.ref b22), .val (.ref b72), .val (.int i124), .val (.ref a581), .val (.int (0 : Int32)), .unset, .unset, .unset, .unset] [(.ref b629)])) _
            refine XS.goto X631.here hx rfl (pc0 := 161) (pc' := 165) rfl (hb hby at_161) (by decide) (by decide) ?_
            show Steps p.tables e below (T631.setTop (mkF m 165 #[.val (.int p1), .val (.int p2), .val (.int p3), .val (.int p4), .val (.int p5), .val (.int p6), .val (.ref b7), .val (.ref b17), .val (.ref b22), .val (.ref b72), .val (.int i124), .val (.ref a581), .val (.int (0 : Int32)), .unset, .unset, .unset, .unset] [(.ref b629)])) _
            refine XS.astore X631.here hx rfl (hb hby at_165) rfl rfl (l' := #[.val (.int p1), .val (.int p2), .val (.int p3), .val (.int p4), .val (.int p5), .val (.int p6), .val (.ref b7), .val (.ref b17), .val (.ref b22), .val (.ref b72), .val (.int i124), .val (.ref a581), .val (.int (0 : Int32)), .val (.ref b629), .unset, .unset, .unset]) rfl ?_
            show Steps p.tables e below (T631.setTop (mkF m 167 #[.val (.int p1), .val (.int p2), .val (.int p3), .val (.int p4), .val (.int p5), .val (.int p6), .val (.ref b7), .val (.ref b17), .val (.ref b22), .val (.ref b72), .val (.int i124), .val (.ref a581), .val (.int (0 : Int32)), .val (.ref b629), .unset, .unset, .unset] [])) _
            refine XS.iload X631.here hx rfl (hb hby at_167) rfl ?_
            show Steps p.tables e below (T631.setTop (mkF m 169 #[.val (.int p1), .val (.int p2), .val (.int p3), .val (.int p4), .val (.int p5), .val (.int p6), .val (.ref b7), .val (.ref b17), .val (.ref b22), .val (.ref b72), .val (.int i124), .val (.ref a581), .val (.int (0 : Int32)), .val (.ref b629), .unset, .unset, .unset] [(.int (0 : Int32))])) _
            refine XS.ifYes X631.here hx rfl (pc0 := 169) (pc' := 188) rfl (hb hby at_169) rfl ((if0 _ _).trans (teq (by decide +kernel : (0 : Int32) = (0 : Int32))).1) (by decide) (by decide) ?_
            show Steps p.tables e below (T631.setTop (mkF m 188 #[.val (.int p1), .val (.int p2), .val (.int p3), .val (.int p4), .val (.int p5), .val (.int p6), .val (.ref b7), .val (.ref b17), .val (.ref b22), .val (.ref b72), .val (.int i124), .val (.ref a581), .val (.int (0 : Int32)), .val (.ref b629), .unset, .unset, .unset] [])) _
            refine XS.aconstNull X631.here hx rfl (hb hby at_188) ?_
            show Steps p.tables e below (T631.setTop (mkF m 189 #[.val (.int p1), .val (.int p2), .val (.int p3), .val (.int p4), .val (.int p5), .val (.int p6), .val (.ref b7), .val (.ref b17), .val (.ref b22), .val (.ref b72), .val (.int i124), .val (.ref a581), .val (.int (0 : Int32)), .val (.ref b629), .unset, .unset, .unset] [.null])) _
            refine XS.astore X631.here hx rfl (hb hby at_189) rfl rfl (l' := #[.val (.int p1), .val (.int p2), .val (.int p3), .val (.int p4), .val (.int p5), .val (.int p6), .val (.ref b7), .val (.ref b17), .val (.ref b22), .val (.ref b72), .val (.int i124), .val (.ref a581), .val (.int (0 : Int32)), .val (.ref b629), .val .null, .unset, .unset]) rfl ?_
            show Steps p.tables e below (T631.setTop (mkF m 191 #[.val (.int p1), .val (.int p2), .val (.int p3), .val (.int p4), .val (.int p5), .val (.int p6), .val (.ref b7), .val (.ref b17), .val (.ref b22), .val (.ref b72), .val (.int i124), .val (.ref a581), .val (.int (0 : Int32)), .val (.ref b629), .val .null, .unset, .unset] [])) _
            refine st647 _ ?_
            show Steps p.tables e below (T647.setTop (mkF m 194 #[.val (.int p1), .val (.int p2), .val (.int p3), .val (.int p4), .val (.int p5), .val (.int p6), .val (.ref b7), .val (.ref b17), .val (.ref b22), .val (.ref b72), .val (.int i124), .val (.ref a581), .val (.int (0 : Int32)), .val (.ref b629), .val .null, .unset, .unset] [(.ref b647)])) _
            refine XS.dup X647.here hx rfl (hb hby at_194) rfl rfl ?_
            show Steps p.tables e below (T647.setTop (mkF m 195 #[.val (.int p1), .val (.int p2), .val (.int p3), .val (.int p4), .val (.int p5), .val (.int p6), .val (.ref b7), .val (.ref b17), .val (.ref b22), .val (.ref b72), .val (.int i124), .val (.ref a581), .val (.int (0 : Int32)), .val (.ref b629), .val .null, .unset, .unset] [(.ref b647), (.ref b647)])) _
            refine XS.aload X647.here hx rfl (hb hby at_195) rfl rfl ?_
            show Steps p.tables e below (T647.setTop (mkF m 197 #[.val (.int p1), .val (.int p2), .val (.int p3), .val (.int p4), .val (.int p5), .val (.int p6), .val (.ref b7), .val (.ref b17), .val (.ref b22), .val (.ref b72), .val (.int i124), .val (.ref a581), .val (.int (0 : Int32)), .val (.ref b629), .val .null, .unset, .unset] [.null, (.ref b647), (.ref b647)])) _
            refine XS.aload X647.here hx rfl (hb hby at_197) rfl rfl ?_
            show Steps p.tables e below (T647.setTop (mkF m 199 #[.val (.int p1), .val (.int p2), .val (.int p3), .val (.int p4), .val (.int p5), .val (.int p6), .val (.ref b7), .val (.ref b17), .val (.ref b22), .val (.ref b72), .val (.int i124), .val (.ref a581), .val (.int (0 : Int32)), .val (.ref b629), .val .null, .unset, .unset] [(.ref b72), .null, (.ref b647), (.ref b647)])) _
            refine st648 _ ?_
            show Steps p.tables e below (T648.setTop (mkF m 202 #[.val (.int p1), .val (.int p2), .val (.int p3), .val (.int p4), .val (.int p5), .val (.int p6), .val (.ref b7), .val (.ref b17), .val (.ref b22), .val (.ref b72), .val (.int i124), .val (.ref a581), .val (.int (0 : Int32)), .val (.ref b629), .val .null, .unset, .unset] [(.ref b648), (.ref b72), .null, (.ref b647), (.ref b647)])) _
            refine XS.dup X648.here hx rfl (hb hby at_202) rfl rfl ?_
            show Steps p.tables e below (T648.setTop (mkF m 203 #[.val (.int p1), .val (.int p2), .val (.int p3), .val (.int p4), .val (.int p5), .val (.int p6), .val (.ref b7), .val (.ref b17), .val (.ref b22), .val (.ref b72), .val (.int i124), .val (.ref a581), .val (.int (0 : Int32)), .val (.ref b629), .val .null, .unset, .unset] [(.ref b648), (.ref b648), (.ref b72), .null, (.ref b647), (.ref b647)])) _
            refine XS.aload X648.here hx rfl (hb hby at_203) rfl rfl ?_
            show Steps p.tables e below (T648.setTop (mkF m 205 #[.val (.int p1), .val (.int p2), .val (.int p3), .val (.int p4), .val (.int p5), .val (.int p6), .val (.ref b7), .val (.ref b17), .val (.ref b22), .val (.ref b72), .val (.int i124), .val (.ref a581), .val (.int (0 : Int32)), .val (.ref b629), .val .null, .unset, .unset] [(.ref b7), (.ref b648), (.ref b648), (.ref b72), .null, (.ref b647), (.ref b647)])) _
            refine st650.trans ?_
            exact kt
          obtain rfl : i30 = i652 := (u655.trans u33.symm).symm
          obtain rfl : i29 = i651 := (u656.trans u34.symm).symm
          have f668 : Exa Z T650.heap b647 "com/example/stemline/stemline/graph/Edge" := ((Exa.ext E648 A647).keep Ku661)
          have f669 : Fld Z T650.heap b647 "com/example/stemline/stemline/graph/Edge" "file" "Ljava/lang/String;" .null := ((Fld.ext E648 D647_102).keep Ku661 (ninS (Nat.ne_of_lt (Nat.lt_of_lt_of_le lt_b647 bd_b648)) nin0))
          have f670 : Fld Z T650.heap b647 "com/example/stemline/stemline/graph/Edge" "line" "I" (.int (0 : Int32)) := ((Fld.ext E648 D647_104).keep Ku661 (ninS (Nat.ne_of_lt (Nat.lt_of_lt_of_le lt_b647 bd_b648)) nin0))
          have f671 : Fld Z T650.heap b647 "com/example/stemline/stemline/graph/Edge" "source" "Lcom/example/stemline/stemline/model/ColumnSource;" .null := ((Fld.ext E648 D647_98).keep Ku661 (ninS (Nat.ne_of_lt (Nat.lt_of_lt_of_le lt_b647 bd_b648)) nin0))
          have f672 : Fld Z T650.heap b647 "com/example/stemline/stemline/graph/Edge" "target" "Lcom/example/stemline/stemline/model/TableColumn;" .null := ((Fld.ext E648 D647_100).keep Ku661 (ninS (Nat.ne_of_lt (Nat.lt_of_lt_of_le lt_b647 bd_b648)) nin0))
          obtain ⟨_, _, ⟨T673, L673, k673, n673⟩, -, X673, sn673, gr673, ⟨Lc673, hQ673, l673, y673, z673⟩, st673⟩ := X650.specialBackS hx (y := M_12) rfl hown116 (mvT hZ116 (hw _ (gw 90 rfl))) (mvT hZ116 (hw _ (gw 91 rfl))) (mvT hZ116 (hw _ (gw 92 rfl))) (by decide) (backOfS (W := 1) (rm15_19 l Z a0 hw [] b647 b72 b648 p5 T650.heap n0  Ou661 f668 f669 f670 f671 f672 g_b647) hZ116 (hw _ (gw 92 rfl)) (hw _ (gw 89 rfl)) (by decide) (by decide)) (g := (mkF m 210 #[.val (.int p1), .val (.int p2), .val (.int p3), .val (.int p4), .val (.int p5), .val (.int p6), .val (.ref b7), .val (.ref b17), .val (.ref b22), .val (.ref b72), .val (.int i124), .val (.ref a581), .val (.int (0 : Int32)), .val (.ref b629), .val .null, .unset, .unset] [(.int p5), (.ref b648), (.ref b72), .null, (.ref b647), (.ref b647)])) rfl (by rw [hml]; rfl) (Steps.refl _) (a := b647) (argsL := [.null, (.ref b72), (.ref b648), (.int p5)]) (rest := [(.ref b647)]) (lenOf pd_12 rfl) rfl (by show 2 * 0 + _ ≤ _; exact Nat.le_of_eq rfl) (hb hby at_210) (fun _ _ => ⟨rfl, rfl, (by decide : 25 + 4 ≤ _), (by decide : 131 + 48 ≤ _)⟩)
          dsimp only [Pt.U, Pt.locs, Pt.cells, Pt.slots] at X673 l673 y673 z673 st673 hQ673 sn673 gr673
          subst l673 y673 z673
          have gs673 : T650.heap.size ≤ T673.heap.size := gr673
          have hS673 : s.Since T673.vm T673.heap.size := hS116.trans sn673 (Nat.le_trans (Nat.le_trans (Nat.le_trans (Nat.le_trans (Nat.le_trans (Nat.le_trans (Nat.le_refl _) E629.1) Ku640.1) E647.1) E648.1) Ku661.1) gs673)
          have hZ673 : Z.Warmed39 (s.setVm T673.vm).vm := State.Warmed39.trans (t := (s.setVm T116.vm)) hZ116 sn673.1
          have hown673 : (s.setVm T673.vm).vm.findClass "com/example/stemline/stemline/graph/EdgeSourceColumnPinLaw" = some m.cls := by rw [show (s.setVm T673.vm).vm = T673.vm from rfl, sn673.1.alike.findClass]; exact hown116
          obtain ⟨rfl, u675, Ku676, u677, u678, u679, u680, u681⟩ := hQ673
          have Ou676 : Old Z n0 T673.heap := Ou661.keep Ku676 (allS g_b647 all0)
          have N673 := Fr.app N650 u675
          obtain ⟨cq682, kq682, q682a, q682b, q682c⟩ := isOf hZ673 rfl u677
          obtain ⟨_, _, ⟨T682, L682, k682, n682⟩, -, X682, ⟨Lc682, hQ682, l682, y682, z682⟩, st682⟩ := X673.virtualBack hx (y := M_13) (z := M_13) hown673 (mvT hZ673 (hw _ (gw 105 rfl))) (mvT hZ673 (hw _ (gw 106 rfl))) (notFace_of_selects (args := #[]) (mvT hZ673 (hw _ (gw 108 rfl)))) (mvT hZ673 (hw _ (gw 108 rfl))) (mvT hZ673 (hw _ (gw 107 rfl))) (by decide) (backOf (W := 0) (rm16_20 l Z a0 hw [] b647 T673.heap n0  Ou676 u680) hZ673 (hw _ (gw 109 rfl)) (hw _ (gw 89 rfl)) (by decide) (by decide)) q682a q682c (g := (mkF m 217 #[.val (.int p1), .val (.int p2), .val (.int p3), .val (.int p4), .val (.int p5), .val (.int p6), .val (.ref b7), .val (.ref b17), .val (.ref b22), .val (.ref b72), .val (.int i124), .val (.ref a581), .val (.int (0 : Int32)), .val (.ref b629), .val .null, .val (.ref b647), .unset] [(.ref b647)])) rfl (by rw [hml]; rfl) (Steps.refl _) (argsL := []) (rest := []) (lenOf pd_13 rfl) rfl (by show 2 * 0 + _ ≤ _; exact Nat.le_of_eq rfl) (hb hby at_217) (fun _ _ => ⟨rfl, rfl, (by decide : 29 + 0 ≤ _), (by decide : 179 + 0 ≤ _)⟩)
          dsimp only [Pt.U, Pt.locs, Pt.cells, Pt.slots] at X682 l682 y682 z682 st682 hQ682
          subst l682 y682 z682
          obtain ⟨rfl, u684, u685⟩ := hQ682
          have N682 := Fr.app N673 u684
          obtain ⟨fs, hr, hrun, hended, hEnd⟩ := X682.leaveW (s := s) (vm₁ := T673.vm) hS673 (by rw [u685]; exact (Nat.le_refl _)) (v := some (.int (1 : Int32))) (fun h => by rw [Bd.returns] at h; cases h)
          refine ⟨_, _, pre667 _ ?_, hrun, hended, _, _, rfl, ?_, hEnd.1, hEnd.2.1, hEnd.2.2.1, hEnd.2.2.2.mono (by decide) (by decide)⟩
          · show Steps p.tables e below (T650.setTop (mkF m 208 #[.val (.int p1), .val (.int p2), .val (.int p3), .val (.int p4), .val (.int p5), .val (.int p6), .val (.ref b7), .val (.ref b17), .val (.ref b22), .val (.ref b72), .val (.int i124), .val (.ref a581), .val (.int (0 : Int32)), .val (.ref b629), .val .null, .unset, .unset] [(.ref b648), (.ref b72), .null, (.ref b647), (.ref b647)])) _
            refine XS.iload X650.here hx rfl (hb hby at_208) rfl ?_
            show Steps p.tables e below (T650.setTop (mkF m 210 #[.val (.int p1), .val (.int p2), .val (.int p3), .val (.int p4), .val (.int p5), .val (.int p6), .val (.ref b7), .val (.ref b17), .val (.ref b22), .val (.ref b72), .val (.int i124), .val (.ref a581), .val (.int (0 : Int32)), .val (.ref b629), .val .null, .unset, .unset] [(.int p5), (.ref b648), (.ref b72), .null, (.ref b647), (.ref b647)])) _
            refine st673.trans ?_
            show Steps p.tables e below (T673.setTop (mkF m 213 #[.val (.int p1), .val (.int p2), .val (.int p3), .val (.int p4), .val (.int p5), .val (.int p6), .val (.ref b7), .val (.ref b17), .val (.ref b22), .val (.ref b72), .val (.int i124), .val (.ref a581), .val (.int (0 : Int32)), .val (.ref b629), .val .null, .unset, .unset] [(.ref b647)])) _
            refine XS.astore X673.here hx rfl (hb hby at_213) rfl rfl (l' := #[.val (.int p1), .val (.int p2), .val (.int p3), .val (.int p4), .val (.int p5), .val (.int p6), .val (.ref b7), .val (.ref b17), .val (.ref b22), .val (.ref b72), .val (.int i124), .val (.ref a581), .val (.int (0 : Int32)), .val (.ref b629), .val .null, .val (.ref b647), .unset]) rfl ?_
            show Steps p.tables e below (T673.setTop (mkF m 215 #[.val (.int p1), .val (.int p2), .val (.int p3), .val (.int p4), .val (.int p5), .val (.int p6), .val (.ref b7), .val (.ref b17), .val (.ref b22), .val (.ref b72), .val (.int i124), .val (.ref a581), .val (.int (0 : Int32)), .val (.ref b629), .val .null, .val (.ref b647), .unset] [])) _
            refine XS.aload X673.here hx rfl (hb hby at_215) rfl rfl ?_
            show Steps p.tables e below (T673.setTop (mkF m 217 #[.val (.int p1), .val (.int p2), .val (.int p3), .val (.int p4), .val (.int p5), .val (.int p6), .val (.ref b7), .val (.ref b17), .val (.ref b22), .val (.ref b72), .val (.int i124), .val (.ref a581), .val (.int (0 : Int32)), .val (.ref b629), .val .null, .val (.ref b647), .unset] [(.ref b647)])) _
            refine st682.trans ?_
            show Steps p.tables e below (T682.setTop (mkF m 220 #[.val (.int p1), .val (.int p2), .val (.int p3), .val (.int p4), .val (.int p5), .val (.int p6), .val (.ref b7), .val (.ref b17), .val (.ref b22), .val (.ref b72), .val (.int i124), .val (.ref a581), .val (.int (0 : Int32)), .val (.ref b629), .val .null, .val (.ref b647), .unset] [.null])) _
            refine XS.astore X682.here hx rfl (hb hby at_220) rfl rfl (l' := #[.val (.int p1), .val (.int p2), .val (.int p3), .val (.int p4), .val (.int p5), .val (.int p6), .val (.ref b7), .val (.ref b17), .val (.ref b22), .val (.ref b72), .val (.int i124), .val (.ref a581), .val (.int (0 : Int32)), .val (.ref b629), .val .null, .val (.ref b647), .val .null]) rfl ?_
            show Steps p.tables e below (T682.setTop (mkF m 222 #[.val (.int p1), .val (.int p2), .val (.int p3), .val (.int p4), .val (.int p5), .val (.int p6), .val (.ref b7), .val (.ref b17), .val (.ref b22), .val (.ref b72), .val (.int i124), .val (.ref a581), .val (.int (0 : Int32)), .val (.ref b629), .val .null, .val (.ref b647), .val .null] [])) _
            refine XS.iload X682.here hx rfl (hb hby at_222) rfl ?_
            show Steps p.tables e below (T682.setTop (mkF m 224 #[.val (.int p1), .val (.int p2), .val (.int p3), .val (.int p4), .val (.int p5), .val (.int p6), .val (.ref b7), .val (.ref b17), .val (.ref b22), .val (.ref b72), .val (.int i124), .val (.ref a581), .val (.int (0 : Int32)), .val (.ref b629), .val .null, .val (.ref b647), .val .null] [(.int (0 : Int32))])) _
            refine XS.ifNo X682.here hx rfl (hb hby at_224) rfl ((if0 _ _).trans (teq (by decide +kernel : (0 : Int32) = (0 : Int32))).2) ?_
            show Steps p.tables e below (T682.setTop (mkF m 227 #[.val (.int p1), .val (.int p2), .val (.int p3), .val (.int p4), .val (.int p5), .val (.int p6), .val (.ref b7), .val (.ref b17), .val (.ref b22), .val (.ref b72), .val (.int i124), .val (.ref a581), .val (.int (0 : Int32)), .val (.ref b629), .val .null, .val (.ref b647), .val .null] [])) _
            refine XS.aload X682.here hx rfl (hb hby at_227) rfl rfl ?_
            show Steps p.tables e below (T682.setTop (mkF m 229 #[.val (.int p1), .val (.int p2), .val (.int p3), .val (.int p4), .val (.int p5), .val (.int p6), .val (.ref b7), .val (.ref b17), .val (.ref b22), .val (.ref b72), .val (.int i124), .val (.ref a581), .val (.int (0 : Int32)), .val (.ref b629), .val .null, .val (.ref b647), .val .null] [.null])) _
            refine XS.ifnonnullNo X682.here hx rfl (hb hby at_229) rfl ?_
            show Steps p.tables e below (T682.setTop (mkF m 232 #[.val (.int p1), .val (.int p2), .val (.int p3), .val (.int p4), .val (.int p5), .val (.int p6), .val (.ref b7), .val (.ref b17), .val (.ref b22), .val (.ref b72), .val (.int i124), .val (.ref a581), .val (.int (0 : Int32)), .val (.ref b629), .val .null, .val (.ref b647), .val .null] [])) _
            refine XS.iconst X682.here hx rfl (hb hby at_232) ?_
            show Steps p.tables e below (T682.setTop (mkF m 233 #[.val (.int p1), .val (.int p2), .val (.int p3), .val (.int p4), .val (.int p5), .val (.int p6), .val (.ref b7), .val (.ref b17), .val (.ref b22), .val (.ref b72), .val (.int i124), .val (.ref a581), .val (.int (0 : Int32)), .val (.ref b629), .val .null, .val (.ref b647), .val .null] [(.int (1 : Int32))])) _
            refine XS.goto X682.here hx rfl (pc0 := 233) (pc' := 237) rfl (hb hby at_233) (by decide) (by decide) ?_
            show Steps p.tables e below (T682.setTop (mkF m 237 #[.val (.int p1), .val (.int p2), .val (.int p3), .val (.int p4), .val (.int p5), .val (.int p6), .val (.ref b7), .val (.ref b17), .val (.ref b22), .val (.ref b72), .val (.int i124), .val (.ref a581), .val (.int (0 : Int32)), .val (.ref b629), .val .null, .val (.ref b647), .val .null] [(.int (1 : Int32))])) _
            exact retN X682 hx (t := .boolean) Bd.returns (by simp) (hb hby at_237) hr
          · show Q0 Z _ _ _ _ _ _ _ _ _ _ h0 n0 _ T682.heap _
            rw [u685]
            exact ⟨rfl, N682⟩
      · skip
        obtain ⟨i686, hi686⟩ : ∃ z, z = (p6 &&& (8 : Int32)) := ⟨_, rfl⟩
        have pre687 : ∀ t, Steps p.tables e below (T583.setTop (mkF m 149 #[.val (.int p1), .val (.int p2), .val (.int p3), .val (.int p4), .val (.int p5), .val (.int p6), .val (.ref b7), .val (.ref b17), .val (.ref b22), .val (.ref b72), .val (.int i124), .val (.ref a581), .val (.int (1 : Int32)), .unset, .unset, .unset, .unset] [(.int i686)])) t → Steps p.tables e below (s₁.setTop (entryFrame m #[(.int p1), (.int p2), (.int p3), (.int p4), (.int p5), (.int p6)] maxLocals)) t := by
          intro t kt
          refine pre585 t ?_
          show Steps p.tables e below (T583.setTop (mkF m 134 #[.val (.int p1), .val (.int p2), .val (.int p3), .val (.int p4), .val (.int p5), .val (.int p6), .val (.ref b7), .val (.ref b17), .val (.ref b22), .val (.ref b72), .val (.int i124), .val (.ref a581), .unset, .unset, .unset, .unset, .unset] [(.int i584)])) _
          refine XS.ifNo X583.here hx rfl (hb hby at_134) rfl ((if0 _ _).trans (feq hc586).1) ?_
          show Steps p.tables e below (T583.setTop (mkF m 137 #[.val (.int p1), .val (.int p2), .val (.int p3), .val (.int p4), .val (.int p5), .val (.int p6), .val (.ref b7), .val (.ref b17), .val (.ref b22), .val (.ref b72), .val (.int i124), .val (.ref a581), .unset, .unset, .unset, .unset, .unset] [])) _
          refine XS.iconst X583.here hx rfl (hb hby at_137) ?_
          show Steps p.tables e below (T583.setTop (mkF m 138 #[.val (.int p1), .val (.int p2), .val (.int p3), .val (.int p4), .val (.int p5), .val (.int p6), .val (.ref b7), .val (.ref b17), .val (.ref b22), .val (.ref b72), .val (.int i124), .val (.ref a581), .unset, .unset, .unset, .unset, .unset] [(.int (1 : Int32))])) _
          refine XS.goto X583.here hx rfl (pc0 := 138) (pc' := 142) rfl (hb hby at_138) (by decide) (by decide) ?_
          show Steps p.tables e below (T583.setTop (mkF m 142 #[.val (.int p1), .val (.int p2), .val (.int p3), .val (.int p4), .val (.int p5), .val (.int p6), .val (.ref b7), .val (.ref b17), .val (.ref b22), .val (.ref b72), .val (.int i124), .val (.ref a581), .unset, .unset, .unset, .unset, .unset] [(.int (1 : Int32))])) _
          refine XS.istore X583.here hx rfl (hb hby at_142) rfl (l' := #[.val (.int p1), .val (.int p2), .val (.int p3), .val (.int p4), .val (.int p5), .val (.int p6), .val (.ref b7), .val (.ref b17), .val (.ref b22), .val (.ref b72), .val (.int i124), .val (.ref a581), .val (.int (1 : Int32)), .unset, .unset, .unset, .unset]) rfl ?_
          show Steps p.tables e below (T583.setTop (mkF m 144 #[.val (.int p1), .val (.int p2), .val (.int p3), .val (.int p4), .val (.int p5), .val (.int p6), .val (.ref b7), .val (.ref b17), .val (.ref b22), .val (.ref b72), .val (.int i124), .val (.ref a581), .val (.int (1 : Int32)), .unset, .unset, .unset, .unset] [])) _
          refine XS.iload X583.here hx rfl (hb hby at_144) rfl ?_
          show Steps p.tables e below (T583.setTop (mkF m 146 #[.val (.int p1), .val (.int p2), .val (.int p3), .val (.int p4), .val (.int p5), .val (.int p6), .val (.ref b7), .val (.ref b17), .val (.ref b22), .val (.ref b72), .val (.int i124), .val (.ref a581), .val (.int (1 : Int32)), .unset, .unset, .unset, .unset] [(.int p6)])) _
          refine XS.bipush X583.here hx rfl (hb hby at_146) ?_
          show Steps p.tables e below (T583.setTop (mkF m 148 #[.val (.int p1), .val (.int p2), .val (.int p3), .val (.int p4), .val (.int p5), .val (.int p6), .val (.ref b7), .val (.ref b17), .val (.ref b22), .val (.ref b72), .val (.int i124), .val (.ref a581), .val (.int (1 : Int32)), .unset, .unset, .unset, .unset] [(.int (8 : Int32)), (.int p6)])) _
          refine XS.iand X583.here hx rfl (hb hby at_148) rfl ?_
          show Steps p.tables e below (T583.setTop (mkF m 149 #[.val (.int p1), .val (.int p2), .val (.int p3), .val (.int p4), .val (.int p5), .val (.int p6), .val (.ref b7), .val (.ref b17), .val (.ref b22), .val (.ref b72), .val (.int i124), .val (.ref a581), .val (.int (1 : Int32)), .unset, .unset, .unset, .unset] [(.int (p6 &&& (8 : Int32)))])) _
          rw [← hi686]
          exact kt
        by_cases hc688 : i686 = (0 : Int32)
        · skip
          subst hc688
          obtain ⟨T689, h689, X689, e689, E689, A689, D689, -, st689⟩ := newO X583 hx hZ116 hown116 (hw _ (gw 71 rfl)) (hw _ (gw 72 rfl)) (hw _ (gw 73 rfl)) e583 (g := (mkF m 172 #[.val (.int p1), .val (.int p2), .val (.int p3), .val (.int p4), .val (.int p5), .val (.int p6), .val (.ref b7), .val (.ref b17), .val (.ref b22), .val (.ref b72), .val (.int i124), .val (.ref a581), .val (.int (1 : Int32)), .val .null, .unset, .unset, .unset] [])) rfl (hb hby at_172) (by decide) (by decide)
          obtain ⟨b689, g689⟩ : ∃ z, z = T116.heap.size := ⟨_, rfl⟩
          rw [← g689] at A689 D689 st689
          have O689 : Old Z n0 h689 := Ou119.ext E689
          have bd_b689 : T116.heap.size ≤ b689 := Nat.le_of_eq g689.symm
          have g_b689 : n0 ≤ b689 := Nat.le_trans (own_z Ou119) bd_b689
          have sz_b689 : h0.size ≤ b689 := Nat.le_trans (Nat.le_trans (Nat.le_trans (Nat.le_trans (Nat.le_trans (Nat.le_trans (Nat.le_trans (Nat.le_trans (Nat.le_trans (Nat.le_trans (Nat.le_trans (Nat.le_trans (Nat.le_trans (Nat.le_trans (Nat.le_trans E7.1 (Keep.of_wr W11).1) (Keep.of_wr W16).1) E17.1) (Keep.of_wr W21).1) E22.1) E23.1) Ku39.1) E45.1) Ku56.1) Ku68.1) E72.1) Ku87.1) Ku107.1) Ku119.1) bd_b689
          have lt_b689 : b689 < h689.size := A689.lt
          have D689_82 : Fld Z h689 b689 "com/example/stemline/stemline/model/ColumnSource" "column" "Lcom/example/stemline/stemline/model/TableColumn;" .null := D689 (Or.inr (hw _ (gw 82 rfl))) (ty := (.object "com/example/stemline/stemline/model/TableColumn")) (by decide)
          have D689_84 : Fld Z h689 b689 "com/example/stemline/stemline/model/ColumnSource" "kind" "Lcom/example/stemline/stemline/model/SourceKind;" .null := D689 (Or.inr (hw _ (gw 84 rfl))) (ty := (.object "com/example/stemline/stemline/model/SourceKind")) (by decide)
          have D689_86 : Fld Z h689 b689 "com/example/stemline/stemline/model/ColumnSource" "expression" "Ljava/lang/String;" .null := D689 (Or.inr (hw _ (gw 86 rfl))) (ty := (.object "java/lang/String")) (by decide)
          obtain ⟨_, _, ⟨T690, L690, k690, n690⟩, -, X690, sn690, gr690, ⟨Lc690, hQ690, l690, y690, z690⟩, st690⟩ := X689.specialBackS hx (y := M_14) rfl hown116 (mvT hZ116 (hw _ (gw 74 rfl))) (mvT hZ116 (hw _ (gw 75 rfl))) (mvT hZ116 (hw _ (gw 76 rfl))) (by decide) (backOfS (W := 1) (rm14_21 l Z a0 hw [] b689 b22 a581 h689 n0  O689 A689 D689_82 D689_86 D689_84 g_b689) hZ116 (hw _ (gw 76 rfl)) (hw _ (gw 73 rfl)) (by decide) (by decide)) (g := (mkF m 182 #[.val (.int p1), .val (.int p2), .val (.int p3), .val (.int p4), .val (.int p5), .val (.int p6), .val (.ref b7), .val (.ref b17), .val (.ref b22), .val (.ref b72), .val (.int i124), .val (.ref a581), .val (.int (1 : Int32)), .val .null, .unset, .unset, .unset] [.null, (.ref a581), (.ref b22), (.ref b689), (.ref b689)])) rfl (by rw [hml]; rfl) (Steps.refl _) (a := b689) (argsL := [(.ref b22), (.ref a581), .null]) (rest := [(.ref b689)]) (lenOf pd_14 rfl) rfl (by show 2 * 0 + _ ≤ _; exact Nat.le_of_eq rfl) (hb hby at_182) (fun _ _ => ⟨rfl, e689, (by decide : 21 + 4 ≤ _), (by decide : 119 + 48 ≤ _)⟩)
          dsimp only [Pt.U, Pt.locs, Pt.cells, Pt.slots] at X690 l690 y690 z690 st690 hQ690 sn690 gr690
          subst l690 y690 z690
          have gs690 : h689.size ≤ T690.heap.size := by have q := gr690; rw [e689] at q; exact q
          have hS690 : s.Since T690.vm T690.heap.size := hS116.trans sn690 (Nat.le_trans (Nat.le_trans (Nat.le_refl _) E689.1) gs690)
          have hZ690 : Z.Warmed39 (s.setVm T690.vm).vm := State.Warmed39.trans (t := (s.setVm T116.vm)) hZ116 sn690.1
          have hown690 : (s.setVm T690.vm).vm.findClass "com/example/stemline/stemline/graph/EdgeSourceColumnPinLaw" = some m.cls := by rw [show (s.setVm T690.vm).vm = T690.vm from rfl, sn690.1.alike.findClass]; exact hown116
          obtain ⟨rfl, u692, Ku693, u694, u695, u696, u697⟩ := hQ690
          have Ou693 : Old Z n0 T690.heap := O689.keep Ku693 (allS g_b689 all0)
          have N690 := Fr.app N116 u692
          obtain ⟨T698, h698, X698, e698, E698, A698, D698, -, st698⟩ := newO X690 hx hZ690 hown690 (hw _ (gw 87 rfl)) (hw _ (gw 88 rfl)) (hw _ (gw 89 rfl)) rfl (g := (mkF m 191 #[.val (.int p1), .val (.int p2), .val (.int p3), .val (.int p4), .val (.int p5), .val (.int p6), .val (.ref b7), .val (.ref b17), .val (.ref b22), .val (.ref b72), .val (.int i124), .val (.ref a581), .val (.int (1 : Int32)), .val .null, .val (.ref b689), .unset, .unset] [])) rfl (hb hby at_191) (by decide) (by decide)
          obtain ⟨b698, g698⟩ : ∃ z, z = T690.heap.size := ⟨_, rfl⟩
          rw [← g698] at A698 D698 st698
          have O698 : Old Z n0 h698 := Ou693.ext E698
          have bd_b698 : T690.heap.size ≤ b698 := Nat.le_of_eq g698.symm
          have g_b698 : n0 ≤ b698 := Nat.le_trans (own_z Ou693) bd_b698
          have sz_b698 : h0.size ≤ b698 := Nat.le_trans (Nat.le_trans (Nat.le_trans (Nat.le_trans (Nat.le_trans (Nat.le_trans (Nat.le_trans (Nat.le_trans (Nat.le_trans (Nat.le_trans (Nat.le_trans (Nat.le_trans (Nat.le_trans (Nat.le_trans (Nat.le_trans (Nat.le_trans (Nat.le_trans E7.1 (Keep.of_wr W11).1) (Keep.of_wr W16).1) E17.1) (Keep.of_wr W21).1) E22.1) E23.1) Ku39.1) E45.1) Ku56.1) Ku68.1) E72.1) Ku87.1) Ku107.1) Ku119.1) E689.1) Ku693.1) bd_b698
          have lt_b698 : b698 < h698.size := A698.lt
          have D698_98 : Fld Z h698 b698 "com/example/stemline/stemline/graph/Edge" "source" "Lcom/example/stemline/stemline/model/ColumnSource;" .null := D698 (Or.inr (hw _ (gw 98 rfl))) (ty := (.object "com/example/stemline/stemline/model/ColumnSource")) (by decide)
          have D698_100 : Fld Z h698 b698 "com/example/stemline/stemline/graph/Edge" "target" "Lcom/example/stemline/stemline/model/TableColumn;" .null := D698 (Or.inr (hw _ (gw 100 rfl))) (ty := (.object "com/example/stemline/stemline/model/TableColumn")) (by decide)
          have D698_102 : Fld Z h698 b698 "com/example/stemline/stemline/graph/Edge" "file" "Ljava/lang/String;" .null := D698 (Or.inr (hw _ (gw 102 rfl))) (ty := (.object "java/lang/String")) (by decide)
          have D698_104 : Fld Z h698 b698 "com/example/stemline/stemline/graph/Edge" "line" "I" (.int (0 : Int32)) := D698 (Or.inr (hw _ (gw 104 rfl))) (ty := .int) (by decide)
          obtain ⟨T699, h699, X699, e699, E699, A699, D699, -, st699⟩ := newO X698 hx hZ690 hown690 (hw _ (gw 4 rfl)) (hw _ (gw 5 rfl)) (hw _ (gw 6 rfl)) e698 (g := (mkF m 199 #[.val (.int p1), .val (.int p2), .val (.int p3), .val (.int p4), .val (.int p5), .val (.int p6), .val (.ref b7), .val (.ref b17), .val (.ref b22), .val (.ref b72), .val (.int i124), .val (.ref a581), .val (.int (1 : Int32)), .val .null, .val (.ref b689), .unset, .unset] [(.ref b72), (.ref b689), (.ref b698), (.ref b698)])) rfl (hb hby at_199) (by decide) (by decide)
          obtain ⟨b699, g699⟩ : ∃ z, z = h698.size := ⟨_, rfl⟩
          rw [← g699] at A699 D699 st699
          have O699 : Old Z n0 h699 := O698.ext E699
          have bd_b699 : h698.size ≤ b699 := Nat.le_of_eq g699.symm
          have g_b699 : n0 ≤ b699 := Nat.le_trans (own_z O698) bd_b699
          have sz_b699 : h0.size ≤ b699 := Nat.le_trans (Nat.le_trans (Nat.le_trans (Nat.le_trans (Nat.le_trans (Nat.le_trans (Nat.le_trans (Nat.le_trans (Nat.le_trans (Nat.le_trans (Nat.le_trans (Nat.le_trans (Nat.le_trans (Nat.le_trans (Nat.le_trans (Nat.le_trans (Nat.le_trans (Nat.le_trans E7.1 (Keep.of_wr W11).1) (Keep.of_wr W16).1) E17.1) (Keep.of_wr W21).1) E22.1) E23.1) Ku39.1) E45.1) Ku56.1) Ku68.1) E72.1) Ku87.1) Ku107.1) Ku119.1) E689.1) Ku693.1) E698.1) bd_b699
          have lt_b699 : b699 < h699.size := A699.lt
          have D699_30 : Fld Z h699 b699 "java/lang/String" "coder" "B" (.int (0 : Int32)) := D699 (Or.inr (hw _ (gw 30 rfl))) (ty := .byte) (by decide)
          have D699_32 : Fld Z h699 b699 "java/lang/String" "value" "[B" .null := D699 (Or.inr (hw _ (gw 32 rfl))) (ty := (.array .byte)) (by decide)
          have f700 : Arv Z h699 b7 k7 .char (2 : Int32) [(.int i8), (.int i13)] (.int (0 : Int32)) := ((((((((((((f27.keep Ku39 (ninS (Nat.ne_of_lt (Nat.lt_of_lt_of_le (Nat.lt_of_lt_of_le (Nat.lt_of_lt_of_le (Nat.lt_of_lt_of_le (Nat.lt_of_lt_of_le (Nat.lt_of_lt_of_le lt_b7 (Keep.of_wr W11).1) (Keep.of_wr W16).1) E17.1) (Keep.of_wr W21).1) E22.1) bd_b23)) nin0)).ext E45).keep Ku56 (ninS (Nat.ne_of_lt (Nat.lt_of_lt_of_le (Nat.lt_of_lt_of_le (Nat.lt_of_lt_of_le (Nat.lt_of_lt_of_le (Nat.lt_of_lt_of_le (Nat.lt_of_lt_of_le (Nat.lt_of_lt_of_le (Nat.lt_of_lt_of_le lt_b7 (Keep.of_wr W11).1) (Keep.of_wr W16).1) E17.1) (Keep.of_wr W21).1) E22.1) E23.1) Ku39.1) bd_b45)) nin0)).keep Ku68 (ninS (Nat.ne_of_lt (Nat.lt_of_lt_of_le (Nat.lt_of_lt_of_le (Nat.lt_of_lt_of_le (Nat.lt_of_lt_of_le (Nat.lt_of_lt_of_le lt_b7 (Keep.of_wr W11).1) (Keep.of_wr W16).1) E17.1) (Keep.of_wr W21).1) bd_b22)) nin0)).ext E72).keep Ku87 nin0).keep Ku107 nin0).keep Ku119 (ninS (Nat.ne_of_lt (Nat.lt_of_lt_of_le (Nat.lt_of_lt_of_le (Nat.lt_of_lt_of_le (Nat.lt_of_lt_of_le (Nat.lt_of_lt_of_le (Nat.lt_of_lt_of_le (Nat.lt_of_lt_of_le (Nat.lt_of_lt_of_le (Nat.lt_of_lt_of_le (Nat.lt_of_lt_of_le (Nat.lt_of_lt_of_le lt_b7 (Keep.of_wr W11).1) (Keep.of_wr W16).1) E17.1) (Keep.of_wr W21).1) E22.1) E23.1) Ku39.1) E45.1) Ku56.1) Ku68.1) bd_b72)) nin0)).ext E689).keep Ku693 (ninS (Nat.ne_of_lt (Nat.lt_of_lt_of_le (Nat.lt_of_lt_of_le (Nat.lt_of_lt_of_le (Nat.lt_of_lt_of_le (Nat.lt_of_lt_of_le (Nat.lt_of_lt_of_le (Nat.lt_of_lt_of_le (Nat.lt_of_lt_of_le (Nat.lt_of_lt_of_le (Nat.lt_of_lt_of_le (Nat.lt_of_lt_of_le (Nat.lt_of_lt_of_le (Nat.lt_of_lt_of_le (Nat.lt_of_lt_of_le (Nat.lt_of_lt_of_le lt_b7 (Keep.of_wr W11).1) (Keep.of_wr W16).1) E17.1) (Keep.of_wr W21).1) E22.1) E23.1) Ku39.1) E45.1) Ku56.1) Ku68.1) E72.1) Ku87.1) Ku107.1) Ku119.1) bd_b689)) nin0)).ext E698).ext E699)
          obtain ⟨_, _, ⟨T701, L701, k701, n701⟩, -, X701, ⟨Lc701, hQ701, l701, y701, z701⟩, st701⟩ := X699.specialBack hx (y := M_4) rfl hown690 (mvT hZ690 (hw _ (gw 7 rfl))) (mvT hZ690 (hw _ (gw 8 rfl))) (mvT hZ690 (hw _ (gw 9 rfl))) (by decide) (backOf (W := 5) (rm1_2 l Z a0 hw [] b699 b7 i8 i13 k7 p24 h699 n0  O699 f700 S_25 hk26 (own_lt255 hi8) (own_lt255 hi13) A699 D699_30 D699_32 (Nat.lt_of_lt_of_le (Nat.lt_of_lt_of_le (Nat.lt_of_lt_of_le (Nat.lt_of_lt_of_le (Nat.lt_of_lt_of_le (Nat.lt_of_lt_of_le (Nat.lt_of_lt_of_le (Nat.lt_of_lt_of_le (Nat.lt_of_lt_of_le (Nat.lt_of_lt_of_le (Nat.lt_of_lt_of_le (Nat.lt_of_lt_of_le (Nat.lt_of_lt_of_le (Nat.lt_of_lt_of_le (Nat.lt_of_lt_of_le (Nat.lt_of_lt_of_le (Nat.lt_of_lt_of_le (Nat.lt_of_lt_of_le lt_b7 (Keep.of_wr W11).1) (Keep.of_wr W16).1) E17.1) (Keep.of_wr W21).1) E22.1) E23.1) Ku39.1) E45.1) Ku56.1) Ku68.1) E72.1) Ku87.1) Ku107.1) Ku119.1) E689.1) Ku693.1) E698.1) E699.1) g_b699 lt_b699) hZ690 (hw _ (gw 9 rfl)) (hw _ (gw 6 rfl)) (by decide) (by decide)) (g := (mkF m 205 #[.val (.int p1), .val (.int p2), .val (.int p3), .val (.int p4), .val (.int p5), .val (.int p6), .val (.ref b7), .val (.ref b17), .val (.ref b22), .val (.ref b72), .val (.int i124), .val (.ref a581), .val (.int (1 : Int32)), .val .null, .val (.ref b689), .unset, .unset] [(.ref b7), (.ref b699), (.ref b699), (.ref b72), (.ref b689), (.ref b698), (.ref b698)])) rfl (by rw [hml]; rfl) (Steps.refl _) (a := b699) (argsL := [(.ref b7)]) (rest := [(.ref b699), (.ref b72), (.ref b689), (.ref b698), (.ref b698)]) (lenOf pd_4 rfl) rfl (by show 2 * 0 + _ ≤ _; exact Nat.le_of_eq rfl) (hb hby at_205) (fun _ _ => ⟨rfl, e699, (by decide : 27 + 1 ≤ _), (by decide : 175 + 2 ≤ _)⟩)
          dsimp only [Pt.U, Pt.locs, Pt.cells, Pt.slots] at X701 l701 y701 z701 st701 hQ701
          subst l701 y701 z701
          obtain ⟨i702, i703, b704, k705, u706, u707, rfl, u709, u710, u711, Ku712, u713, u714, u715, u716, u717⟩ := hQ701
          have Ou712 : Old Z n0 T701.heap := O699.keep Ku712 (allS g_b699 all0)
          have g_b704 : n0 ≤ b704 := Nat.le_trans (own_z O699) u710
          have sz_b704 : h0.size ≤ b704 := Nat.le_trans (Nat.le_trans (Nat.le_trans (Nat.le_trans (Nat.le_trans (Nat.le_trans (Nat.le_trans (Nat.le_trans (Nat.le_trans (Nat.le_trans (Nat.le_trans (Nat.le_trans (Nat.le_trans (Nat.le_trans (Nat.le_trans (Nat.le_trans (Nat.le_trans (Nat.le_trans (Nat.le_trans E7.1 (Keep.of_wr W11).1) (Keep.of_wr W16).1) E17.1) (Keep.of_wr W21).1) E22.1) E23.1) Ku39.1) E45.1) Ku56.1) Ku68.1) E72.1) Ku87.1) Ku107.1) Ku119.1) E689.1) Ku693.1) E698.1) E699.1) u710
          have N701 := Fr.app N690 u709
          have pre718 : ∀ t, Steps p.tables e below (T701.setTop (mkF m 208 #[.val (.int p1), .val (.int p2), .val (.int p3), .val (.int p4), .val (.int p5), .val (.int p6), .val (.ref b7), .val (.ref b17), .val (.ref b22), .val (.ref b72), .val (.int i124), .val (.ref a581), .val (.int (1 : Int32)), .val .null, .val (.ref b689), .unset, .unset] [(.ref b699), (.ref b72), (.ref b689), (.ref b698), (.ref b698)])) t → Steps p.tables e below (s₁.setTop (entryFrame m #[(.int p1), (.int p2), (.int p3), (.int p4), (.int p5), (.int p6)] maxLocals)) t := by
            intro t kt
            refine pre687 t ?_
            show Steps p.tables e below (T583.setTop (mkF m 149 #[.val (.int p1), .val (.int p2), .val (.int p3), .val (.int p4), .val (.int p5), .val (.int p6), .val (.ref b7), .val (.ref b17), .val (.ref b22), .val (.ref b72), .val (.int i124), .val (.ref a581), .val (.int (1 : Int32)), .unset, .unset, .unset, .unset] [(.int (0 : Int32))])) _
            refine XS.ifYes X583.here hx rfl (pc0 := 149) (pc' := 164) rfl (hb hby at_149) rfl ((if0 _ _).trans (teq (by decide +kernel : (0 : Int32) = (0 : Int32))).1) (by decide) (by decide) ?_
            show Steps p.tables e below (T583.setTop (mkF m 164 #[.val (.int p1), .val (.int p2), .val (.int p3), .val (.int p4), .val (.int p5), .val (.int p6), .val (.ref b7), .val (.ref b17), .val (.ref b22), .val (.ref b72), .val (.int i124), .val (.ref a581), .val (.int (1 : Int32)), .unset, .unset, .unset, .unset] [])) _
            refine XS.aconstNull X583.here hx rfl (hb hby at_164) ?_
            show Steps p.tables e below (T583.setTop (mkF m 165 #[.val (.int p1), .val (.int p2), .val (.int p3), .val (.int p4), .val (.int p5), .val (.int p6), .val (.ref b7), .val (.ref b17), .val (.ref b22), .val (.ref b72), .val (.int i124), .val (.ref a581), .val (.int (1 : Int32)), .unset, .unset, .unset, .unset] [.null])) _
            refine XS.astore X583.here hx rfl (hb hby at_165) rfl rfl (l' := #[.val (.int p1), .val (.int p2), .val (.int p3), .val (.int p4), .val (.int p5), .val (.int p6), .val (.ref b7), .val (.ref b17), .val (.ref b22), .val (.ref b72), .val (.int i124), .val (.ref a581), .val (.int (1 : Int32)), .val .null, .unset, .unset, .unset]) rfl ?_
            show Steps p.tables e below (T583.setTop (mkF m 167 #[.val (.int p1), .val (.int p2), .val (.int p3), .val (.int p4), .val (.int p5), .val (.int p6), .val (.ref b7), .val (.ref b17), .val (.ref b22), .val (.ref b72), .val (.int i124), .val (.ref a581), .val (.int (1 : Int32)), .val .null, .unset, .unset, .unset] [])) _
            refine XS.iload X583.here hx rfl (hb hby at_167) rfl ?_
            show Steps p.tables e below (T583.setTop (mkF m 169 #[.val (.int p1), .val (.int p2), .val (.int p3), .val (.int p4), .val (.int p5), .val (.int p6), .val (.ref b7), .val (.ref b17), .val (.ref b22), .val (.ref b72), .val (.int i124), .val (.ref a581), .val (.int (1 : Int32)), .val .null, .unset, .unset, .unset] [(.int (1 : Int32))])) _
            refine XS.ifNo X583.here hx rfl (hb hby at_169) rfl ((if0 _ _).trans (feq (by decide +kernel : ¬ ((1 : Int32) = (0 : Int32)))).1) ?_
            show Steps p.tables e below (T583.setTop (mkF m 172 #[.val (.int p1), .val (.int p2), .val (.int p3), .val (.int p4), .val (.int p5), .val (.int p6), .val (.ref b7), .val (.ref b17), .val (.ref b22), .val (.ref b72), .val (.int i124), .val (.ref a581), .val (.int (1 : Int32)), .val .null, .unset, .unset, .unset] [])) _
            refine st689 _ ?_
            show Steps p.tables e below (T689.setTop (mkF m 175 #[.val (.int p1), .val (.int p2), .val (.int p3), .val (.int p4), .val (.int p5), .val (.int p6), .val (.ref b7), .val (.ref b17), .val (.ref b22), .val (.ref b72), .val (.int i124), .val (.ref a581), .val (.int (1 : Int32)), .val .null, .unset, .unset, .unset] [(.ref b689)])) _
            refine XS.dup X689.here hx rfl (hb hby at_175) rfl rfl ?_
            show Steps p.tables e below (T689.setTop (mkF m 176 #[.val (.int p1), .val (.int p2), .val (.int p3), .val (.int p4), .val (.int p5), .val (.int p6), .val (.ref b7), .val (.ref b17), .val (.ref b22), .val (.ref b72), .val (.int i124), .val (.ref a581), .val (.int (1 : Int32)), .val .null, .unset, .unset, .unset] [(.ref b689), (.ref b689)])) _
            refine XS.aload X689.here hx rfl (hb hby at_176) rfl rfl ?_
            show Steps p.tables e below (T689.setTop (mkF m 178 #[.val (.int p1), .val (.int p2), .val (.int p3), .val (.int p4), .val (.int p5), .val (.int p6), .val (.ref b7), .val (.ref b17), .val (.ref b22), .val (.ref b72), .val (.int i124), .val (.ref a581), .val (.int (1 : Int32)), .val .null, .unset, .unset, .unset] [(.ref b22), (.ref b689), (.ref b689)])) _
            refine XS.aload X689.here hx rfl (hb hby at_178) rfl rfl ?_
            show Steps p.tables e below (T689.setTop (mkF m 180 #[.val (.int p1), .val (.int p2), .val (.int p3), .val (.int p4), .val (.int p5), .val (.int p6), .val (.ref b7), .val (.ref b17), .val (.ref b22), .val (.ref b72), .val (.int i124), .val (.ref a581), .val (.int (1 : Int32)), .val .null, .unset, .unset, .unset] [(.ref a581), (.ref b22), (.ref b689), (.ref b689)])) _
            refine XS.aload X689.here hx rfl (hb hby at_180) rfl rfl ?_
            show Steps p.tables e below (T689.setTop (mkF m 182 #[.val (.int p1), .val (.int p2), .val (.int p3), .val (.int p4), .val (.int p5), .val (.int p6), .val (.ref b7), .val (.ref b17), .val (.ref b22), .val (.ref b72), .val (.int i124), .val (.ref a581), .val (.int (1 : Int32)), .val .null, .unset, .unset, .unset] [.null, (.ref a581), (.ref b22), (.ref b689), (.ref b689)])) _
            refine st690.trans ?_
            show Steps p.tables e below (T690.setTop (mkF m 185 #[.val (.int p1), .val (.int p2), .val (.int p3), .val (.int p4), .val (.int p5), .val (.int p6), .val (.ref b7), .val (.ref b17), .val (.ref b22), .val (.ref b72), .val (.int i124), .val (.ref a581), .val (.int (1 : Int32)), .val .null, .unset, .unset, .unset] [(.ref b689)])) _
            refine XS.goto X690.here hx rfl (pc0 := 185) (pc' := 189) rfl (hb hby at_185) (by decide) (by decide) ?_
            show Steps p.tables e below (T690.setTop (mkF m 189 #[.val (.int p1), .val (.int p2), .val (.int p3), .val (.int p4), .val (.int p5), .val (.int p6), .val (.ref b7), .val (.ref b17), .val (.ref b22), .val (.ref b72), .val (.int i124), .val (.ref a581), .val (.int (1 : Int32)), .val .null, .unset, .unset, .unset] [(.ref b689)])) _
            refine XS.astore X690.here hx rfl (hb hby at_189) rfl rfl (l' := #[.val (.int p1), .val (.int p2), .val (.int p3), .val (.int p4), .val (.int p5), .val (.int p6), .val (.ref b7), .val (.ref b17), .val (.ref b22), .val (.ref b72), .val (.int i124), .val (.ref a581), .val (.int (1 : Int32)), .val .null, .val (.ref b689), .unset, .unset]) rfl ?_
            show Steps p.tables e below (T690.setTop (mkF m 191 #[.val (.int p1), .val (.int p2), .val (.int p3), .val (.int p4), .val (.int p5), .val (.int p6), .val (.ref b7), .val (.ref b17), .val (.ref b22), .val (.ref b72), .val (.int i124), .val (.ref a581), .val (.int (1 : Int32)), .val .null, .val (.ref b689), .unset, .unset] [])) _
            refine st698 _ ?_
            show Steps p.tables e below (T698.setTop (mkF m 194 #[.val (.int p1), .val (.int p2), .val (.int p3), .val (.int p4), .val (.int p5), .val (.int p6), .val (.ref b7), .val (.ref b17), .val (.ref b22), .val (.ref b72), .val (.int i124), .val (.ref a581), .val (.int (1 : Int32)), .val .null, .val (.ref b689), .unset, .unset] [(.ref b698)])) _
            refine XS.dup X698.here hx rfl (hb hby at_194) rfl rfl ?_
            show Steps p.tables e below (T698.setTop (mkF m 195 #[.val (.int p1), .val (.int p2), .val (.int p3), .val (.int p4), .val (.int p5), .val (.int p6), .val (.ref b7), .val (.ref b17), .val (.ref b22), .val (.ref b72), .val (.int i124), .val (.ref a581), .val (.int (1 : Int32)), .val .null, .val (.ref b689), .unset, .unset] [(.ref b698), (.ref b698)])) _
            refine XS.aload X698.here hx rfl (hb hby at_195) rfl rfl ?_
            show Steps p.tables e below (T698.setTop (mkF m 197 #[.val (.int p1), .val (.int p2), .val (.int p3), .val (.int p4), .val (.int p5), .val (.int p6), .val (.ref b7), .val (.ref b17), .val (.ref b22), .val (.ref b72), .val (.int i124), .val (.ref a581), .val (.int (1 : Int32)), .val .null, .val (.ref b689), .unset, .unset] [(.ref b689), (.ref b698), (.ref b698)])) _
            refine XS.aload X698.here hx rfl (hb hby at_197) rfl rfl ?_
            show Steps p.tables e below (T698.setTop (mkF m 199 #[.val (.int p1), .val (.int p2), .val (.int p3), .val (.int p4), .val (.int p5), .val (.int p6), .val (.ref b7), .val (.ref b17), .val (.ref b22), .val (.ref b72), .val (.int i124), .val (.ref a581), .val (.int (1 : Int32)), .val .null, .val (.ref b689), .unset, .unset] [(.ref b72), (.ref b689), (.ref b698), (.ref b698)])) _
            refine st699 _ ?_
            show Steps p.tables e below (T699.setTop (mkF m 202 #[.val (.int p1), .val (.int p2), .val (.int p3), .val (.int p4), .val (.int p5), .val (.int p6), .val (.ref b7), .val (.ref b17), .val (.ref b22), .val (.ref b72), .val (.int i124), .val (.ref a581), .val (.int (1 : Int32)), .val .null, .val (.ref b689), .unset, .unset] [(.ref b699), (.ref b72), (.ref b689), (.ref b698), (.ref b698)])) _
            refine XS.dup X699.here hx rfl (hb hby at_202) rfl rfl ?_
            show Steps p.tables e below (T699.setTop (mkF m 203 #[.val (.int p1), .val (.int p2), .val (.int p3), .val (.int p4), .val (.int p5), .val (.int p6), .val (.ref b7), .val (.ref b17), .val (.ref b22), .val (.ref b72), .val (.int i124), .val (.ref a581), .val (.int (1 : Int32)), .val .null, .val (.ref b689), .unset, .unset] [(.ref b699), (.ref b699), (.ref b72), (.ref b689), (.ref b698), (.ref b698)])) _
            refine XS.aload X699.here hx rfl (hb hby at_203) rfl rfl ?_
            show Steps p.tables e below (T699.setTop (mkF m 205 #[.val (.int p1), .val (.int p2), .val (.int p3), .val (.int p4), .val (.int p5), .val (.int p6), .val (.ref b7), .val (.ref b17), .val (.ref b22), .val (.ref b72), .val (.int i124), .val (.ref a581), .val (.int (1 : Int32)), .val .null, .val (.ref b689), .unset, .unset] [(.ref b7), (.ref b699), (.ref b699), (.ref b72), (.ref b689), (.ref b698), (.ref b698)])) _
            refine st701.trans ?_
            exact kt
          obtain rfl : i30 = i703 := (u706.trans u33.symm).symm
          obtain rfl : i29 = i702 := (u707.trans u34.symm).symm
          have f719 : Exa Z T701.heap b698 "com/example/stemline/stemline/graph/Edge" := ((Exa.ext E699 A698).keep Ku712)
          have f720 : Fld Z T701.heap b698 "com/example/stemline/stemline/graph/Edge" "file" "Ljava/lang/String;" .null := ((Fld.ext E699 D698_102).keep Ku712 (ninS (Nat.ne_of_lt (Nat.lt_of_lt_of_le lt_b698 bd_b699)) nin0))
          have f721 : Fld Z T701.heap b698 "com/example/stemline/stemline/graph/Edge" "line" "I" (.int (0 : Int32)) := ((Fld.ext E699 D698_104).keep Ku712 (ninS (Nat.ne_of_lt (Nat.lt_of_lt_of_le lt_b698 bd_b699)) nin0))
          have f722 : Fld Z T701.heap b698 "com/example/stemline/stemline/graph/Edge" "source" "Lcom/example/stemline/stemline/model/ColumnSource;" .null := ((Fld.ext E699 D698_98).keep Ku712 (ninS (Nat.ne_of_lt (Nat.lt_of_lt_of_le lt_b698 bd_b699)) nin0))
          have f723 : Fld Z T701.heap b698 "com/example/stemline/stemline/graph/Edge" "target" "Lcom/example/stemline/stemline/model/TableColumn;" .null := ((Fld.ext E699 D698_100).keep Ku712 (ninS (Nat.ne_of_lt (Nat.lt_of_lt_of_le lt_b698 bd_b699)) nin0))
          obtain ⟨_, _, ⟨T724, L724, k724, n724⟩, -, X724, sn724, gr724, ⟨Lc724, hQ724, l724, y724, z724⟩, st724⟩ := X701.specialBackS hx (y := M_12) rfl hown690 (mvT hZ690 (hw _ (gw 90 rfl))) (mvT hZ690 (hw _ (gw 91 rfl))) (mvT hZ690 (hw _ (gw 92 rfl))) (by decide) (backOfS (W := 1) (rm15_22 l Z a0 hw [] b698 b689 b72 b699 p5 T701.heap n0  Ou712 f719 f720 f721 f722 f723 g_b698) hZ690 (hw _ (gw 92 rfl)) (hw _ (gw 89 rfl)) (by decide) (by decide)) (g := (mkF m 210 #[.val (.int p1), .val (.int p2), .val (.int p3), .val (.int p4), .val (.int p5), .val (.int p6), .val (.ref b7), .val (.ref b17), .val (.ref b22), .val (.ref b72), .val (.int i124), .val (.ref a581), .val (.int (1 : Int32)), .val .null, .val (.ref b689), .unset, .unset] [(.int p5), (.ref b699), (.ref b72), (.ref b689), (.ref b698), (.ref b698)])) rfl (by rw [hml]; rfl) (Steps.refl _) (a := b698) (argsL := [(.ref b689), (.ref b72), (.ref b699), (.int p5)]) (rest := [(.ref b698)]) (lenOf pd_12 rfl) rfl (by show 2 * 0 + _ ≤ _; exact Nat.le_of_eq rfl) (hb hby at_210) (fun _ _ => ⟨rfl, rfl, (by decide : 28 + 4 ≤ _), (by decide : 177 + 48 ≤ _)⟩)
          dsimp only [Pt.U, Pt.locs, Pt.cells, Pt.slots] at X724 l724 y724 z724 st724 hQ724 sn724 gr724
          subst l724 y724 z724
          have gs724 : T701.heap.size ≤ T724.heap.size := gr724
          have hS724 : s.Since T724.vm T724.heap.size := hS690.trans sn724 (Nat.le_trans (Nat.le_trans (Nat.le_trans (Nat.le_trans (Nat.le_refl _) E698.1) E699.1) Ku712.1) gs724)
          have hZ724 : Z.Warmed39 (s.setVm T724.vm).vm := State.Warmed39.trans (t := (s.setVm T690.vm)) hZ690 sn724.1
          have hown724 : (s.setVm T724.vm).vm.findClass "com/example/stemline/stemline/graph/EdgeSourceColumnPinLaw" = some m.cls := by rw [show (s.setVm T724.vm).vm = T724.vm from rfl, sn724.1.alike.findClass]; exact hown690
          obtain ⟨rfl, u726, Ku727, u728, u729, u730, u731, u732⟩ := hQ724
          have Ou727 : Old Z n0 T724.heap := Ou712.keep Ku727 (allS g_b698 all0)
          have N724 := Fr.app N701 u726
          have f733 : Exa Z T724.heap b689 "com/example/stemline/stemline/model/ColumnSource" := (((Exa.ext E699 (Exa.ext E698 u694)).keep Ku712).keep Ku727)
          have f734 : Fld Z T724.heap b689 "com/example/stemline/stemline/model/ColumnSource" "column" "Lcom/example/stemline/stemline/model/TableColumn;" (.ref b22) := (((Fld.ext E699 (Fld.ext E698 u695)).keep Ku712 (ninS (Nat.ne_of_lt (Nat.lt_of_lt_of_le (Nat.lt_of_lt_of_le (Nat.lt_of_lt_of_le lt_b689 Ku693.1) E698.1) bd_b699)) nin0)).keep Ku727 (ninS (Nat.ne_of_lt (Nat.lt_of_lt_of_le (Nat.lt_of_lt_of_le lt_b689 Ku693.1) bd_b698)) nin0))
          obtain ⟨cq735, kq735, q735a, q735b, q735c⟩ := isOf hZ724 rfl u728
          obtain ⟨_, _, ⟨T735, L735, k735, n735⟩, -, X735, ⟨Lc735, hQ735, l735, y735, z735⟩, st735⟩ := X724.virtualBack hx (y := M_13) (z := M_13) hown724 (mvT hZ724 (hw _ (gw 105 rfl))) (mvT hZ724 (hw _ (gw 106 rfl))) (notFace_of_selects (args := #[]) (mvT hZ724 (hw _ (gw 108 rfl)))) (mvT hZ724 (hw _ (gw 108 rfl))) (mvT hZ724 (hw _ (gw 107 rfl))) (by decide) (backOf (W := 0) (rm16_23 l Z a0 hw [] b698 b689 b22 T724.heap n0  Ou727 u731 f733 f734) hZ724 (hw _ (gw 109 rfl)) (hw _ (gw 89 rfl)) (by decide) (by decide)) q735a q735c (g := (mkF m 217 #[.val (.int p1), .val (.int p2), .val (.int p3), .val (.int p4), .val (.int p5), .val (.int p6), .val (.ref b7), .val (.ref b17), .val (.ref b22), .val (.ref b72), .val (.int i124), .val (.ref a581), .val (.int (1 : Int32)), .val .null, .val (.ref b689), .val (.ref b698), .unset] [(.ref b698)])) rfl (by rw [hml]; rfl) (Steps.refl _) (argsL := []) (rest := []) (lenOf pd_13 rfl) rfl (by show 2 * 0 + _ ≤ _; exact Nat.le_of_eq rfl) (hb hby at_217) (fun _ _ => ⟨rfl, rfl, (by decide : 32 + 0 ≤ _), (by decide : 225 + 0 ≤ _)⟩)
          dsimp only [Pt.U, Pt.locs, Pt.cells, Pt.slots] at X735 l735 y735 z735 st735 hQ735
          subst l735 y735 z735
          obtain ⟨rfl, u737, u738⟩ := hQ735
          have N735 := Fr.app N724 u737
          obtain ⟨fs, hr, hrun, hended, hEnd⟩ := X735.leaveW (s := s) (vm₁ := T724.vm) hS724 (by rw [u738]; exact (Nat.le_refl _)) (v := some (.int (1 : Int32))) (fun h => by rw [Bd.returns] at h; cases h)
          refine ⟨_, _, pre718 _ ?_, hrun, hended, _, _, rfl, ?_, hEnd.1, hEnd.2.1, hEnd.2.2.1, hEnd.2.2.2.mono (by decide) (by decide)⟩
          · show Steps p.tables e below (T701.setTop (mkF m 208 #[.val (.int p1), .val (.int p2), .val (.int p3), .val (.int p4), .val (.int p5), .val (.int p6), .val (.ref b7), .val (.ref b17), .val (.ref b22), .val (.ref b72), .val (.int i124), .val (.ref a581), .val (.int (1 : Int32)), .val .null, .val (.ref b689), .unset, .unset] [(.ref b699), (.ref b72), (.ref b689), (.ref b698), (.ref b698)])) _
            refine XS.iload X701.here hx rfl (hb hby at_208) rfl ?_
            show Steps p.tables e below (T701.setTop (mkF m 210 #[.val (.int p1), .val (.int p2), .val (.int p3), .val (.int p4), .val (.int p5), .val (.int p6), .val (.ref b7), .val (.ref b17), .val (.ref b22), .val (.ref b72), .val (.int i124), .val (.ref a581), .val (.int (1 : Int32)), .val .null, .val (.ref b689), .unset, .unset] [(.int p5), (.ref b699), (.ref b72), (.ref b689), (.ref b698), (.ref b698)])) _
            refine st724.trans ?_
            show Steps p.tables e below (T724.setTop (mkF m 213 #[.val (.int p1), .val (.int p2), .val (.int p3), .val (.int p4), .val (.int p5), .val (.int p6), .val (.ref b7), .val (.ref b17), .val (.ref b22), .val (.ref b72), .val (.int i124), .val (.ref a581), .val (.int (1 : Int32)), .val .null, .val (.ref b689), .unset, .unset] [(.ref b698)])) _
            refine XS.astore X724.here hx rfl (hb hby at_213) rfl rfl (l' := #[.val (.int p1), .val (.int p2), .val (.int p3), .val (.int p4), .val (.int p5), .val (.int p6), .val (.ref b7), .val (.ref b17), .val (.ref b22), .val (.ref b72), .val (.int i124), .val (.ref a581), .val (.int (1 : Int32)), .val .null, .val (.ref b689), .val (.ref b698), .unset]) rfl ?_
            show Steps p.tables e below (T724.setTop (mkF m 215 #[.val (.int p1), .val (.int p2), .val (.int p3), .val (.int p4), .val (.int p5), .val (.int p6), .val (.ref b7), .val (.ref b17), .val (.ref b22), .val (.ref b72), .val (.int i124), .val (.ref a581), .val (.int (1 : Int32)), .val .null, .val (.ref b689), .val (.ref b698), .unset] [])) _
            refine XS.aload X724.here hx rfl (hb hby at_215) rfl rfl ?_
            show Steps p.tables e below (T724.setTop (mkF m 217 #[.val (.int p1), .val (.int p2), .val (.int p3), .val (.int p4), .val (.int p5), .val (.int p6), .val (.ref b7), .val (.ref b17), .val (.ref b22), .val (.ref b72), .val (.int i124), .val (.ref a581), .val (.int (1 : Int32)), .val .null, .val (.ref b689), .val (.ref b698), .unset] [(.ref b698)])) _
            refine st735.trans ?_
            show Steps p.tables e below (T735.setTop (mkF m 220 #[.val (.int p1), .val (.int p2), .val (.int p3), .val (.int p4), .val (.int p5), .val (.int p6), .val (.ref b7), .val (.ref b17), .val (.ref b22), .val (.ref b72), .val (.int i124), .val (.ref a581), .val (.int (1 : Int32)), .val .null, .val (.ref b689), .val (.ref b698), .unset] [(.ref b22)])) _
            refine XS.astore X735.here hx rfl (hb hby at_220) rfl rfl (l' := #[.val (.int p1), .val (.int p2), .val (.int p3), .val (.int p4), .val (.int p5), .val (.int p6), .val (.ref b7), .val (.ref b17), .val (.ref b22), .val (.ref b72), .val (.int i124), .val (.ref a581), .val (.int (1 : Int32)), .val .null, .val (.ref b689), .val (.ref b698), .val (.ref b22)]) rfl ?_
            show Steps p.tables e below (T735.setTop (mkF m 222 #[.val (.int p1), .val (.int p2), .val (.int p3), .val (.int p4), .val (.int p5), .val (.int p6), .val (.ref b7), .val (.ref b17), .val (.ref b22), .val (.ref b72), .val (.int i124), .val (.ref a581), .val (.int (1 : Int32)), .val .null, .val (.ref b689), .val (.ref b698), .val (.ref b22)] [])) _
            refine XS.iload X735.here hx rfl (hb hby at_222) rfl ?_
            show Steps p.tables e below (T735.setTop (mkF m 224 #[.val (.int p1), .val (.int p2), .val (.int p3), .val (.int p4), .val (.int p5), .val (.int p6), .val (.ref b7), .val (.ref b17), .val (.ref b22), .val (.ref b72), .val (.int i124), .val (.ref a581), .val (.int (1 : Int32)), .val .null, .val (.ref b689), .val (.ref b698), .val (.ref b22)] [(.int (1 : Int32))])) _
            refine XS.ifYes X735.here hx rfl (pc0 := 224) (pc' := 238) rfl (hb hby at_224) rfl ((if0 _ _).trans (feq (by decide +kernel : ¬ ((1 : Int32) = (0 : Int32)))).2) (by decide) (by decide) ?_
            show Steps p.tables e below (T735.setTop (mkF m 238 #[.val (.int p1), .val (.int p2), .val (.int p3), .val (.int p4), .val (.int p5), .val (.int p6), .val (.ref b7), .val (.ref b17), .val (.ref b22), .val (.ref b72), .val (.int i124), .val (.ref a581), .val (.int (1 : Int32)), .val .null, .val (.ref b689), .val (.ref b698), .val (.ref b22)] [])) _
            refine XS.aload X735.here hx rfl (hb hby at_238) rfl rfl ?_
            show Steps p.tables e below (T735.setTop (mkF m 240 #[.val (.int p1), .val (.int p2), .val (.int p3), .val (.int p4), .val (.int p5), .val (.int p6), .val (.ref b7), .val (.ref b17), .val (.ref b22), .val (.ref b72), .val (.int i124), .val (.ref a581), .val (.int (1 : Int32)), .val .null, .val (.ref b689), .val (.ref b698), .val (.ref b22)] [(.ref b22)])) _
            refine XS.aload X735.here hx rfl (hb hby at_240) rfl rfl ?_
            show Steps p.tables e below (T735.setTop (mkF m 242 #[.val (.int p1), .val (.int p2), .val (.int p3), .val (.int p4), .val (.int p5), .val (.int p6), .val (.ref b7), .val (.ref b17), .val (.ref b22), .val (.ref b72), .val (.int i124), .val (.ref a581), .val (.int (1 : Int32)), .val .null, .val (.ref b689), .val (.ref b698), .val (.ref b22)] [(.ref b22), (.ref b22)])) _
            refine Jvm.RoadKit.acmp (g := (mkF m 242 #[.val (.int p1), .val (.int p2), .val (.int p3), .val (.int p4), .val (.int p5), .val (.int p6), .val (.ref b7), .val (.ref b17), .val (.ref b22), .val (.ref b72), .val (.int i124), .val (.ref a581), .val (.int (1 : Int32)), .val .null, .val (.ref b689), .val (.ref b698), .val (.ref b22)] [(.ref b22), (.ref b22)])) X735 hx rfl rfl rfl (pc0 := 242) (pc' := 245) (same := true) rfl (hb hby at_242) rfl (decide_eq_true rfl) (by decide) (by decide) ?_
            show Steps p.tables e below (T735.setTop (mkF m 245 #[.val (.int p1), .val (.int p2), .val (.int p3), .val (.int p4), .val (.int p5), .val (.int p6), .val (.ref b7), .val (.ref b17), .val (.ref b22), .val (.ref b72), .val (.int i124), .val (.ref a581), .val (.int (1 : Int32)), .val .null, .val (.ref b689), .val (.ref b698), .val (.ref b22)] [])) _
            refine XS.iconst X735.here hx rfl (hb hby at_245) ?_
            show Steps p.tables e below (T735.setTop (mkF m 246 #[.val (.int p1), .val (.int p2), .val (.int p3), .val (.int p4), .val (.int p5), .val (.int p6), .val (.ref b7), .val (.ref b17), .val (.ref b22), .val (.ref b72), .val (.int i124), .val (.ref a581), .val (.int (1 : Int32)), .val .null, .val (.ref b689), .val (.ref b698), .val (.ref b22)] [(.int (1 : Int32))])) _
            refine XS.goto X735.here hx rfl (pc0 := 246) (pc' := 250) rfl (hb hby at_246) (by decide) (by decide) ?_
            show Steps p.tables e below (T735.setTop (mkF m 250 #[.val (.int p1), .val (.int p2), .val (.int p3), .val (.int p4), .val (.int p5), .val (.int p6), .val (.ref b7), .val (.ref b17), .val (.ref b22), .val (.ref b72), .val (.int i124), .val (.ref a581), .val (.int (1 : Int32)), .val .null, .val (.ref b689), .val (.ref b698), .val (.ref b22)] [(.int (1 : Int32))])) _
            exact retN X735 hx (t := .boolean) Bd.returns (by simp) (hb hby at_250) hr
          · show Q0 Z _ _ _ _ _ _ _ _ _ _ h0 n0 _ T735.heap _
            rw [u738]
            exact ⟨rfl, N735⟩
        · skip
          obtain ⟨T739, h739, X739, e739, E739, A739, D739, -, st739⟩ := newO X583 hx hZ116 hown116 (hw _ (gw 4 rfl)) (hw _ (gw 5 rfl)) (hw _ (gw 6 rfl)) e583 (g := (mkF m 152 #[.val (.int p1), .val (.int p2), .val (.int p3), .val (.int p4), .val (.int p5), .val (.int p6), .val (.ref b7), .val (.ref b17), .val (.ref b22), .val (.ref b72), .val (.int i124), .val (.ref a581), .val (.int (1 : Int32)), .unset, .unset, .unset, .unset] [])) rfl (hb hby at_152) (by decide) (by decide)
          obtain ⟨b739, g739⟩ : ∃ z, z = T116.heap.size := ⟨_, rfl⟩
          rw [← g739] at A739 D739 st739
          have O739 : Old Z n0 h739 := Ou119.ext E739
          have bd_b739 : T116.heap.size ≤ b739 := Nat.le_of_eq g739.symm
          have g_b739 : n0 ≤ b739 := Nat.le_trans (own_z Ou119) bd_b739
          have sz_b739 : h0.size ≤ b739 := Nat.le_trans (Nat.le_trans (Nat.le_trans (Nat.le_trans (Nat.le_trans (Nat.le_trans (Nat.le_trans (Nat.le_trans (Nat.le_trans (Nat.le_trans (Nat.le_trans (Nat.le_trans (Nat.le_trans (Nat.le_trans (Nat.le_trans E7.1 (Keep.of_wr W11).1) (Keep.of_wr W16).1) E17.1) (Keep.of_wr W21).1) E22.1) E23.1) Ku39.1) E45.1) Ku56.1) Ku68.1) E72.1) Ku87.1) Ku107.1) Ku119.1) bd_b739
          have lt_b739 : b739 < h739.size := A739.lt
          have D739_30 : Fld Z h739 b739 "java/lang/String" "coder" "B" (.int (0 : Int32)) := D739 (Or.inr (hw _ (gw 30 rfl))) (ty := .byte) (by decide)
          have D739_32 : Fld Z h739 b739 "java/lang/String" "value" "[B" .null := D739 (Or.inr (hw _ (gw 32 rfl))) (ty := (.array .byte)) (by decide)
          have f740 : Arv Z h739 b17 k17 .char (1 : Int32) [(.int i18)] (.int (0 : Int32)) := (((((((f46.keep Ku56 (ninS (Nat.ne_of_lt (Nat.lt_of_lt_of_le (Nat.lt_of_lt_of_le (Nat.lt_of_lt_of_le (Nat.lt_of_lt_of_le (Nat.lt_of_lt_of_le lt_b17 (Keep.of_wr W21).1) E22.1) E23.1) Ku39.1) bd_b45)) nin0)).keep Ku68 (ninS (Nat.ne_of_lt (Nat.lt_of_lt_of_le (Nat.lt_of_lt_of_le lt_b17 (Keep.of_wr W21).1) bd_b22)) nin0)).ext E72).keep Ku87 nin0).keep Ku107 nin0).keep Ku119 (ninS (Nat.ne_of_lt (Nat.lt_of_lt_of_le (Nat.lt_of_lt_of_le (Nat.lt_of_lt_of_le (Nat.lt_of_lt_of_le (Nat.lt_of_lt_of_le (Nat.lt_of_lt_of_le (Nat.lt_of_lt_of_le (Nat.lt_of_lt_of_le lt_b17 (Keep.of_wr W21).1) E22.1) E23.1) Ku39.1) E45.1) Ku56.1) Ku68.1) bd_b72)) nin0)).ext E739)
          obtain ⟨_, _, ⟨T741, L741, k741, n741⟩, -, X741, ⟨Lc741, hQ741, l741, y741, z741⟩, st741⟩ := X739.specialBack hx (y := M_4) rfl hown116 (mvT hZ116 (hw _ (gw 7 rfl))) (mvT hZ116 (hw _ (gw 8 rfl))) (mvT hZ116 (hw _ (gw 9 rfl))) (by decide) (backOf (W := 1) (rm1_7 l Z a0 hw [] b739 b17 i18 k17 p24 h739 n0  O739 f740 S_25 hk26 (own_lt255 hi18) A739 D739_30 D739_32 g_b739 lt_b739) hZ116 (hw _ (gw 9 rfl)) (hw _ (gw 6 rfl)) (by decide) (by decide)) (g := (mkF m 158 #[.val (.int p1), .val (.int p2), .val (.int p3), .val (.int p4), .val (.int p5), .val (.int p6), .val (.ref b7), .val (.ref b17), .val (.ref b22), .val (.ref b72), .val (.int i124), .val (.ref a581), .val (.int (1 : Int32)), .unset, .unset, .unset, .unset] [(.ref b17), (.ref b739), (.ref b739)])) rfl (by rw [hml]; rfl) (Steps.refl _) (a := b739) (argsL := [(.ref b17)]) (rest := [(.ref b739)]) (lenOf pd_4 rfl) rfl (by show 2 * 0 + _ ≤ _; exact Nat.le_of_eq rfl) (hb hby at_158) (fun _ _ => ⟨rfl, e739, (by decide : 21 + 1 ≤ _), (by decide : 120 + 1 ≤ _)⟩)
          dsimp only [Pt.U, Pt.locs, Pt.cells, Pt.slots] at X741 l741 y741 z741 st741 hQ741
          subst l741 y741 z741
          obtain ⟨i742, b743, k744, u745, rfl, u747, u748, u749, Ku750, u751, u752, u753, u754, u755⟩ := hQ741
          have Ou750 : Old Z n0 T741.heap := O739.keep Ku750 (allS g_b739 all0)
          have g_b743 : n0 ≤ b743 := Nat.le_trans (own_z O739) u748
          have sz_b743 : h0.size ≤ b743 := Nat.le_trans (Nat.le_trans (Nat.le_trans (Nat.le_trans (Nat.le_trans (Nat.le_trans (Nat.le_trans (Nat.le_trans (Nat.le_trans (Nat.le_trans (Nat.le_trans (Nat.le_trans (Nat.le_trans (Nat.le_trans (Nat.le_trans (Nat.le_trans E7.1 (Keep.of_wr W11).1) (Keep.of_wr W16).1) E17.1) (Keep.of_wr W21).1) E22.1) E23.1) Ku39.1) E45.1) Ku56.1) Ku68.1) E72.1) Ku87.1) Ku107.1) Ku119.1) E739.1) u748
          have N741 := Fr.app N116 u747
          have pre756 : ∀ t, Steps p.tables e below (T741.setTop (mkF m 161 #[.val (.int p1), .val (.int p2), .val (.int p3), .val (.int p4), .val (.int p5), .val (.int p6), .val (.ref b7), .val (.ref b17), .val (.ref b22), .val (.ref b72), .val (.int i124), .val (.ref a581), .val (.int (1 : Int32)), .unset, .unset, .unset, .unset] [(.ref b739)])) t → Steps p.tables e below (s₁.setTop (entryFrame m #[(.int p1), (.int p2), (.int p3), (.int p4), (.int p5), (.int p6)] maxLocals)) t := by
            intro t kt
            refine pre687 t ?_
            show Steps p.tables e below (T583.setTop (mkF m 149 #[.val (.int p1), .val (.int p2), .val (.int p3), .val (.int p4), .val (.int p5), .val (.int p6), .val (.ref b7), .val (.ref b17), .val (.ref b22), .val (.ref b72), .val (.int i124), .val (.ref a581), .val (.int (1 : Int32)), .unset, .unset, .unset, .unset] [(.int i686)])) _
            refine XS.ifNo X583.here hx rfl (hb hby at_149) rfl ((if0 _ _).trans (feq hc688).1) ?_
            show Steps p.tables e below (T583.setTop (mkF m 152 #[.val (.int p1), .val (.int p2), .val (.int p3), .val (.int p4), .val (.int p5), .val (.int p6), .val (.ref b7), .val (.ref b17), .val (.ref b22), .val (.ref b72), .val (.int i124), .val (.ref a581), .val (.int (1 : Int32)), .unset, .unset, .unset, .unset] [])) _
            refine st739 _ ?_
            show Steps p.tables e below (T739.setTop (mkF m 155 #[.val (.int p1), .val (.int p2), .val (.int p3), .val (.int p4), .val (.int p5), .val (.int p6), .val (.ref b7), .val (.ref b17), .val (.ref b22), .val (.ref b72), .val (.int i124), .val (.ref a581), .val (.int (1 : Int32)), .unset, .unset, .unset, .unset] [(.ref b739)])) _
            refine XS.dup X739.here hx rfl (hb hby at_155) rfl rfl ?_
            show Steps p.tables e below (T739.setTop (mkF m 156 #[.val (.int p1), .val (.int p2), .val (.int p3), .val (.int p4), .val (.int p5), .val (.int p6), .val (.ref b7), .val (.ref b17), .val (.ref b22), .val (.ref b72), .val (.int i124), .val (.ref a581), .val (.int (1 : Int32)), .unset, .unset, .unset, .unset] [(.ref b739), (.ref b739)])) _
            refine XS.aload X739.here hx rfl (hb hby at_156) rfl rfl ?_
            show Steps p.tables e below (T739.setTop (mkF m 158 #[.val (.int p1), .val (.int p2), .val (.int p3), .val (.int p4), .val (.int p5), .val (.int p6), .val (.ref b7), .val (.ref b17), .val (.ref b22), .val (.ref b72), .val (.int i124), .val (.ref a581), .val (.int (1 : Int32)), .unset, .unset, .unset, .unset] [(.ref b17), (.ref b739), (.ref b739)])) _
            refine st741.trans ?_
            exact kt
          obtain rfl : i48 = i742 := (u745.trans u51.symm).symm
          obtain ⟨T757, h757, X757, e757, E757, A757, D757, -, st757⟩ := newO X741 hx hZ116 hown116 (hw _ (gw 71 rfl)) (hw _ (gw 72 rfl)) (hw _ (gw 73 rfl)) rfl (g := (mkF m 172 #[.val (.int p1), .val (.int p2), .val (.int p3), .val (.int p4), .val (.int p5), .val (.int p6), .val (.ref b7), .val (.ref b17), .val (.ref b22), .val (.ref b72), .val (.int i124), .val (.ref a581), .val (.int (1 : Int32)), .val (.ref b739), .unset, .unset, .unset] [])) rfl (hb hby at_172) (by decide) (by decide)
          obtain ⟨b757, g757⟩ : ∃ z, z = T741.heap.size := ⟨_, rfl⟩
          rw [← g757] at A757 D757 st757
          have O757 : Old Z n0 h757 := Ou750.ext E757
          have bd_b757 : T741.heap.size ≤ b757 := Nat.le_of_eq g757.symm
          have g_b757 : n0 ≤ b757 := Nat.le_trans (own_z Ou750) bd_b757
          have sz_b757 : h0.size ≤ b757 := Nat.le_trans (Nat.le_trans (Nat.le_trans (Nat.le_trans (Nat.le_trans (Nat.le_trans (Nat.le_trans (Nat.le_trans (Nat.le_trans (Nat.le_trans (Nat.le_trans (Nat.le_trans (Nat.le_trans (Nat.le_trans (Nat.le_trans (Nat.le_trans (Nat.le_trans E7.1 (Keep.of_wr W11).1) (Keep.of_wr W16).1) E17.1) (Keep.of_wr W21).1) E22.1) E23.1) Ku39.1) E45.1) Ku56.1) Ku68.1) E72.1) Ku87.1) Ku107.1) Ku119.1) E739.1) Ku750.1) bd_b757
          have lt_b757 : b757 < h757.size := A757.lt
          have D757_82 : Fld Z h757 b757 "com/example/stemline/stemline/model/ColumnSource" "column" "Lcom/example/stemline/stemline/model/TableColumn;" .null := D757 (Or.inr (hw _ (gw 82 rfl))) (ty := (.object "com/example/stemline/stemline/model/TableColumn")) (by decide)
          have D757_84 : Fld Z h757 b757 "com/example/stemline/stemline/model/ColumnSource" "kind" "Lcom/example/stemline/stemline/model/SourceKind;" .null := D757 (Or.inr (hw _ (gw 84 rfl))) (ty := (.object "com/example/stemline/stemline/model/SourceKind")) (by decide)
          have D757_86 : Fld Z h757 b757 "com/example/stemline/stemline/model/ColumnSource" "expression" "Ljava/lang/String;" .null := D757 (Or.inr (hw _ (gw 86 rfl))) (ty := (.object "java/lang/String")) (by decide)
          obtain ⟨_, _, ⟨T758, L758, k758, n758⟩, -, X758, sn758, gr758, ⟨Lc758, hQ758, l758, y758, z758⟩, st758⟩ := X757.specialBackS hx (y := M_14) rfl hown116 (mvT hZ116 (hw _ (gw 74 rfl))) (mvT hZ116 (hw _ (gw 75 rfl))) (mvT hZ116 (hw _ (gw 76 rfl))) (by decide) (backOfS (W := 1) (rm14_25 l Z a0 hw [] b757 b22 a581 b739 h757 n0  O757 A757 D757_82 D757_86 D757_84 g_b757) hZ116 (hw _ (gw 76 rfl)) (hw _ (gw 73 rfl)) (by decide) (by decide)) (g := (mkF m 182 #[.val (.int p1), .val (.int p2), .val (.int p3), .val (.int p4), .val (.int p5), .val (.int p6), .val (.ref b7), .val (.ref b17), .val (.ref b22), .val (.ref b72), .val (.int i124), .val (.ref a581), .val (.int (1 : Int32)), .val (.ref b739), .unset, .unset, .unset] [(.ref b739), (.ref a581), (.ref b22), (.ref b757), (.ref b757)])) rfl (by rw [hml]; rfl) (Steps.refl _) (a := b757) (argsL := [(.ref b22), (.ref a581), (.ref b739)]) (rest := [(.ref b757)]) (lenOf pd_14 rfl) rfl (by show 2 * 0 + _ ≤ _; exact Nat.le_of_eq rfl) (hb hby at_182) (fun _ _ => ⟨rfl, e757, (by decide : 23 + 4 ≤ _), (by decide : 124 + 48 ≤ _)⟩)
          dsimp only [Pt.U, Pt.locs, Pt.cells, Pt.slots] at X758 l758 y758 z758 st758 hQ758 sn758 gr758
          subst l758 y758 z758
          have gs758 : h757.size ≤ T758.heap.size := by have q := gr758; rw [e757] at q; exact q
          have hS758 : s.Since T758.vm T758.heap.size := hS116.trans sn758 (Nat.le_trans (Nat.le_trans (Nat.le_trans (Nat.le_trans (Nat.le_refl _) E739.1) Ku750.1) E757.1) gs758)
          have hZ758 : Z.Warmed39 (s.setVm T758.vm).vm := State.Warmed39.trans (t := (s.setVm T116.vm)) hZ116 sn758.1
          have hown758 : (s.setVm T758.vm).vm.findClass "com/example/stemline/stemline/graph/EdgeSourceColumnPinLaw" = some m.cls := by rw [show (s.setVm T758.vm).vm = T758.vm from rfl, sn758.1.alike.findClass]; exact hown116
          obtain ⟨rfl, u760, Ku761, u762, u763, u764, u765⟩ := hQ758
          have Ou761 : Old Z n0 T758.heap := O757.keep Ku761 (allS g_b757 all0)
          have N758 := Fr.app N741 u760
          obtain ⟨T766, h766, X766, e766, E766, A766, D766, -, st766⟩ := newO X758 hx hZ758 hown758 (hw _ (gw 87 rfl)) (hw _ (gw 88 rfl)) (hw _ (gw 89 rfl)) rfl (g := (mkF m 191 #[.val (.int p1), .val (.int p2), .val (.int p3), .val (.int p4), .val (.int p5), .val (.int p6), .val (.ref b7), .val (.ref b17), .val (.ref b22), .val (.ref b72), .val (.int i124), .val (.ref a581), .val (.int (1 : Int32)), .val (.ref b739), .val (.ref b757), .unset, .unset] [])) rfl (hb hby at_191) (by decide) (by decide)
          obtain ⟨b766, g766⟩ : ∃ z, z = T758.heap.size := ⟨_, rfl⟩
          rw [← g766] at A766 D766 st766
          have O766 : Old Z n0 h766 := Ou761.ext E766
          have bd_b766 : T758.heap.size ≤ b766 := Nat.le_of_eq g766.symm
          have g_b766 : n0 ≤ b766 := Nat.le_trans (own_z Ou761) bd_b766
          have sz_b766 : h0.size ≤ b766 := Nat.le_trans (Nat.le_trans (Nat.le_trans (Nat.le_trans (Nat.le_trans (Nat.le_trans (Nat.le_trans (Nat.le_trans (Nat.le_trans (Nat.le_trans (Nat.le_trans (Nat.le_trans (Nat.le_trans (Nat.le_trans (Nat.le_trans (Nat.le_trans (Nat.le_trans (Nat.le_trans (Nat.le_trans E7.1 (Keep.of_wr W11).1) (Keep.of_wr W16).1) E17.1) (Keep.of_wr W21).1) E22.1) E23.1) Ku39.1) E45.1) Ku56.1) Ku68.1) E72.1) Ku87.1) Ku107.1) Ku119.1) E739.1) Ku750.1) E757.1) Ku761.1) bd_b766
          have lt_b766 : b766 < h766.size := A766.lt
          have D766_98 : Fld Z h766 b766 "com/example/stemline/stemline/graph/Edge" "source" "Lcom/example/stemline/stemline/model/ColumnSource;" .null := D766 (Or.inr (hw _ (gw 98 rfl))) (ty := (.object "com/example/stemline/stemline/model/ColumnSource")) (by decide)
          have D766_100 : Fld Z h766 b766 "com/example/stemline/stemline/graph/Edge" "target" "Lcom/example/stemline/stemline/model/TableColumn;" .null := D766 (Or.inr (hw _ (gw 100 rfl))) (ty := (.object "com/example/stemline/stemline/model/TableColumn")) (by decide)
          have D766_102 : Fld Z h766 b766 "com/example/stemline/stemline/graph/Edge" "file" "Ljava/lang/String;" .null := D766 (Or.inr (hw _ (gw 102 rfl))) (ty := (.object "java/lang/String")) (by decide)
          have D766_104 : Fld Z h766 b766 "com/example/stemline/stemline/graph/Edge" "line" "I" (.int (0 : Int32)) := D766 (Or.inr (hw _ (gw 104 rfl))) (ty := .int) (by decide)
          obtain ⟨T767, h767, X767, e767, E767, A767, D767, -, st767⟩ := newO X766 hx hZ758 hown758 (hw _ (gw 4 rfl)) (hw _ (gw 5 rfl)) (hw _ (gw 6 rfl)) e766 (g := (mkF m 199 #[.val (.int p1), .val (.int p2), .val (.int p3), .val (.int p4), .val (.int p5), .val (.int p6), .val (.ref b7), .val (.ref b17), .val (.ref b22), .val (.ref b72), .val (.int i124), .val (.ref a581), .val (.int (1 : Int32)), .val (.ref b739), .val (.ref b757), .unset, .unset] [(.ref b72), (.ref b757), (.ref b766), (.ref b766)])) rfl (hb hby at_199) (by decide) (by decide)
          obtain ⟨b767, g767⟩ : ∃ z, z = h766.size := ⟨_, rfl⟩
          rw [← g767] at A767 D767 st767
          have O767 : Old Z n0 h767 := O766.ext E767
          have bd_b767 : h766.size ≤ b767 := Nat.le_of_eq g767.symm
          have g_b767 : n0 ≤ b767 := Nat.le_trans (own_z O766) bd_b767
          have sz_b767 : h0.size ≤ b767 := Nat.le_trans (Nat.le_trans (Nat.le_trans (Nat.le_trans (Nat.le_trans (Nat.le_trans (Nat.le_trans (Nat.le_trans (Nat.le_trans (Nat.le_trans (Nat.le_trans (Nat.le_trans (Nat.le_trans (Nat.le_trans (Nat.le_trans (Nat.le_trans (Nat.le_trans (Nat.le_trans (Nat.le_trans (Nat.le_trans E7.1 (Keep.of_wr W11).1) (Keep.of_wr W16).1) E17.1) (Keep.of_wr W21).1) E22.1) E23.1) Ku39.1) E45.1) Ku56.1) Ku68.1) E72.1) Ku87.1) Ku107.1) Ku119.1) E739.1) Ku750.1) E757.1) Ku761.1) E766.1) bd_b767
          have lt_b767 : b767 < h767.size := A767.lt
          have D767_30 : Fld Z h767 b767 "java/lang/String" "coder" "B" (.int (0 : Int32)) := D767 (Or.inr (hw _ (gw 30 rfl))) (ty := .byte) (by decide)
          have D767_32 : Fld Z h767 b767 "java/lang/String" "value" "[B" .null := D767 (Or.inr (hw _ (gw 32 rfl))) (ty := (.array .byte)) (by decide)
          have f768 : Arv Z h767 b7 k7 .char (2 : Int32) [(.int i8), (.int i13)] (.int (0 : Int32)) := ((((((((((((((f27.keep Ku39 (ninS (Nat.ne_of_lt (Nat.lt_of_lt_of_le (Nat.lt_of_lt_of_le (Nat.lt_of_lt_of_le (Nat.lt_of_lt_of_le (Nat.lt_of_lt_of_le (Nat.lt_of_lt_of_le lt_b7 (Keep.of_wr W11).1) (Keep.of_wr W16).1) E17.1) (Keep.of_wr W21).1) E22.1) bd_b23)) nin0)).ext E45).keep Ku56 (ninS (Nat.ne_of_lt (Nat.lt_of_lt_of_le (Nat.lt_of_lt_of_le (Nat.lt_of_lt_of_le (Nat.lt_of_lt_of_le (Nat.lt_of_lt_of_le (Nat.lt_of_lt_of_le (Nat.lt_of_lt_of_le (Nat.lt_of_lt_of_le lt_b7 (Keep.of_wr W11).1) (Keep.of_wr W16).1) E17.1) (Keep.of_wr W21).1) E22.1) E23.1) Ku39.1) bd_b45)) nin0)).keep Ku68 (ninS (Nat.ne_of_lt (Nat.lt_of_lt_of_le (Nat.lt_of_lt_of_le (Nat.lt_of_lt_of_le (Nat.lt_of_lt_of_le (Nat.lt_of_lt_of_le lt_b7 (Keep.of_wr W11).1) (Keep.of_wr W16).1) E17.1) (Keep.of_wr W21).1) bd_b22)) nin0)).ext E72).keep Ku87 nin0).keep Ku107 nin0).keep Ku119 (ninS (Nat.ne_of_lt (Nat.lt_of_lt_of_le (Nat.lt_of_lt_of_le (Nat.lt_of_lt_of_le (Nat.lt_of_lt_of_le (Nat.lt_of_lt_of_le (Nat.lt_of_lt_of_le (Nat.lt_of_lt_of_le (Nat.lt_of_lt_of_le (Nat.lt_of_lt_of_le (Nat.lt_of_lt_of_le (Nat.lt_of_lt_of_le lt_b7 (Keep.of_wr W11).1) (Keep.of_wr W16).1) E17.1) (Keep.of_wr W21).1) E22.1) E23.1) Ku39.1) E45.1) Ku56.1) Ku68.1) bd_b72)) nin0)).ext E739).keep Ku750 (ninS (Nat.ne_of_lt (Nat.lt_of_lt_of_le (Nat.lt_of_lt_of_le (Nat.lt_of_lt_of_le (Nat.lt_of_lt_of_le (Nat.lt_of_lt_of_le (Nat.lt_of_lt_of_le (Nat.lt_of_lt_of_le (Nat.lt_of_lt_of_le (Nat.lt_of_lt_of_le (Nat.lt_of_lt_of_le (Nat.lt_of_lt_of_le (Nat.lt_of_lt_of_le (Nat.lt_of_lt_of_le (Nat.lt_of_lt_of_le (Nat.lt_of_lt_of_le lt_b7 (Keep.of_wr W11).1) (Keep.of_wr W16).1) E17.1) (Keep.of_wr W21).1) E22.1) E23.1) Ku39.1) E45.1) Ku56.1) Ku68.1) E72.1) Ku87.1) Ku107.1) Ku119.1) bd_b739)) nin0)).ext E757).keep Ku761 (ninS (Nat.ne_of_lt (Nat.lt_of_lt_of_le (Nat.lt_of_lt_of_le (Nat.lt_of_lt_of_le (Nat.lt_of_lt_of_le (Nat.lt_of_lt_of_le (Nat.lt_of_lt_of_le (Nat.lt_of_lt_of_le (Nat.lt_of_lt_of_le (Nat.lt_of_lt_of_le (Nat.lt_of_lt_of_le (Nat.lt_of_lt_of_le (Nat.lt_of_lt_of_le (Nat.lt_of_lt_of_le (Nat.lt_of_lt_of_le (Nat.lt_of_lt_of_le (Nat.lt_of_lt_of_le (Nat.lt_of_lt_of_le lt_b7 (Keep.of_wr W11).1) (Keep.of_wr W16).1) E17.1) (Keep.of_wr W21).1) E22.1) E23.1) Ku39.1) E45.1) Ku56.1) Ku68.1) E72.1) Ku87.1) Ku107.1) Ku119.1) E739.1) Ku750.1) bd_b757)) nin0)).ext E766).ext E767)
          obtain ⟨_, _, ⟨T769, L769, k769, n769⟩, -, X769, ⟨Lc769, hQ769, l769, y769, z769⟩, st769⟩ := X767.specialBack hx (y := M_4) rfl hown758 (mvT hZ758 (hw _ (gw 7 rfl))) (mvT hZ758 (hw _ (gw 8 rfl))) (mvT hZ758 (hw _ (gw 9 rfl))) (by decide) (backOf (W := 5) (rm1_2 l Z a0 hw [] b767 b7 i8 i13 k7 p24 h767 n0  O767 f768 S_25 hk26 (own_lt255 hi8) (own_lt255 hi13) A767 D767_30 D767_32 (Nat.lt_of_lt_of_le (Nat.lt_of_lt_of_le (Nat.lt_of_lt_of_le (Nat.lt_of_lt_of_le (Nat.lt_of_lt_of_le (Nat.lt_of_lt_of_le (Nat.lt_of_lt_of_le (Nat.lt_of_lt_of_le (Nat.lt_of_lt_of_le (Nat.lt_of_lt_of_le (Nat.lt_of_lt_of_le (Nat.lt_of_lt_of_le (Nat.lt_of_lt_of_le (Nat.lt_of_lt_of_le (Nat.lt_of_lt_of_le (Nat.lt_of_lt_of_le (Nat.lt_of_lt_of_le (Nat.lt_of_lt_of_le (Nat.lt_of_lt_of_le (Nat.lt_of_lt_of_le lt_b7 (Keep.of_wr W11).1) (Keep.of_wr W16).1) E17.1) (Keep.of_wr W21).1) E22.1) E23.1) Ku39.1) E45.1) Ku56.1) Ku68.1) E72.1) Ku87.1) Ku107.1) Ku119.1) E739.1) Ku750.1) E757.1) Ku761.1) E766.1) E767.1) g_b767 lt_b767) hZ758 (hw _ (gw 9 rfl)) (hw _ (gw 6 rfl)) (by decide) (by decide)) (g := (mkF m 205 #[.val (.int p1), .val (.int p2), .val (.int p3), .val (.int p4), .val (.int p5), .val (.int p6), .val (.ref b7), .val (.ref b17), .val (.ref b22), .val (.ref b72), .val (.int i124), .val (.ref a581), .val (.int (1 : Int32)), .val (.ref b739), .val (.ref b757), .unset, .unset] [(.ref b7), (.ref b767), (.ref b767), (.ref b72), (.ref b757), (.ref b766), (.ref b766)])) rfl (by rw [hml]; rfl) (Steps.refl _) (a := b767) (argsL := [(.ref b7)]) (rest := [(.ref b767), (.ref b72), (.ref b757), (.ref b766), (.ref b766)]) (lenOf pd_4 rfl) rfl (by show 2 * 0 + _ ≤ _; exact Nat.le_of_eq rfl) (hb hby at_205) (fun _ _ => ⟨rfl, e767, (by decide : 29 + 1 ≤ _), (by decide : 180 + 2 ≤ _)⟩)
          dsimp only [Pt.U, Pt.locs, Pt.cells, Pt.slots] at X769 l769 y769 z769 st769 hQ769
          subst l769 y769 z769
          obtain ⟨i770, i771, b772, k773, u774, u775, rfl, u777, u778, u779, Ku780, u781, u782, u783, u784, u785⟩ := hQ769
          have Ou780 : Old Z n0 T769.heap := O767.keep Ku780 (allS g_b767 all0)
          have g_b772 : n0 ≤ b772 := Nat.le_trans (own_z O767) u778
          have sz_b772 : h0.size ≤ b772 := Nat.le_trans (Nat.le_trans (Nat.le_trans (Nat.le_trans (Nat.le_trans (Nat.le_trans (Nat.le_trans (Nat.le_trans (Nat.le_trans (Nat.le_trans (Nat.le_trans (Nat.le_trans (Nat.le_trans (Nat.le_trans (Nat.le_trans (Nat.le_trans (Nat.le_trans (Nat.le_trans (Nat.le_trans (Nat.le_trans (Nat.le_trans E7.1 (Keep.of_wr W11).1) (Keep.of_wr W16).1) E17.1) (Keep.of_wr W21).1) E22.1) E23.1) Ku39.1) E45.1) Ku56.1) Ku68.1) E72.1) Ku87.1) Ku107.1) Ku119.1) E739.1) Ku750.1) E757.1) Ku761.1) E766.1) E767.1) u778
          have N769 := Fr.app N758 u777
          have pre786 : ∀ t, Steps p.tables e below (T769.setTop (mkF m 208 #[.val (.int p1), .val (.int p2), .val (.int p3), .val (.int p4), .val (.int p5), .val (.int p6), .val (.ref b7), .val (.ref b17), .val (.ref b22), .val (.ref b72), .val (.int i124), .val (.ref a581), .val (.int (1 : Int32)), .val (.ref b739), .val (.ref b757), .unset, .unset] [(.ref b767), (.ref b72), (.ref b757), (.ref b766), (.ref b766)])) t → Steps p.tables e below (s₁.setTop (entryFrame m #[(.int p1), (.int p2), (.int p3), (.int p4), (.int p5), (.int p6)] maxLocals)) t := by
            intro t kt
            refine pre756 t ?_
            show Steps p.tables e below (T741.setTop (mkF m 161 #[.val (.int p1), .val (.int p2), .val (.int p3), .val (.int p4), .val (.int p5), .val (.int p6), .val (.ref b7), .val (.ref b17), .val (.ref b22), .val (.ref b72), .val (.int i124), .val (.ref a581), .val (.int (1 : Int32)), .unset, .unset, .unset, .unset] [(.ref b739)])) _
            refine XS.goto X741.here hx rfl (pc0 := 161) (pc' := 165) rfl (hb hby at_161) (by decide) (by decide) ?_
            show Steps p.tables e below (T741.setTop (mkF m 165 #[.val (.int p1), .val (.int p2), .val (.int p3), .val (.int p4), .val (.int p5), .val (.int p6), .val (.ref b7), .val (.ref b17), .val (.ref b22), .val (.ref b72), .val (.int i124), .val (.ref a581), .val (.int (1 : Int32)), .unset, .unset, .unset, .unset] [(.ref b739)])) _
            refine XS.astore X741.here hx rfl (hb hby at_165) rfl rfl (l' := #[.val (.int p1), .val (.int p2), .val (.int p3), .val (.int p4), .val (.int p5), .val (.int p6), .val (.ref b7), .val (.ref b17), .val (.ref b22), .val (.ref b72), .val (.int i124), .val (.ref a581), .val (.int (1 : Int32)), .val (.ref b739), .unset, .unset, .unset]) rfl ?_
            show Steps p.tables e below (T741.setTop (mkF m 167 #[.val (.int p1), .val (.int p2), .val (.int p3), .val (.int p4), .val (.int p5), .val (.int p6), .val (.ref b7), .val (.ref b17), .val (.ref b22), .val (.ref b72), .val (.int i124), .val (.ref a581), .val (.int (1 : Int32)), .val (.ref b739), .unset, .unset, .unset] [])) _
            refine XS.iload X741.here hx rfl (hb hby at_167) rfl ?_
            show Steps p.tables e below (T741.setTop (mkF m 169 #[.val (.int p1), .val (.int p2), .val (.int p3), .val (.int p4), .val (.int p5), .val (.int p6), .val (.ref b7), .val (.ref b17), .val (.ref b22), .val (.ref b72), .val (.int i124), .val (.ref a581), .val (.int (1 : Int32)), .val (.ref b739), .unset, .unset, .unset] [(.int (1 : Int32))])) _
            refine XS.ifNo X741.here hx rfl (hb hby at_169) rfl ((if0 _ _).trans (feq (by decide +kernel : ¬ ((1 : Int32) = (0 : Int32)))).1) ?_
            show Steps p.tables e below (T741.setTop (mkF m 172 #[.val (.int p1), .val (.int p2), .val (.int p3), .val (.int p4), .val (.int p5), .val (.int p6), .val (.ref b7), .val (.ref b17), .val (.ref b22), .val (.ref b72), .val (.int i124), .val (.ref a581), .val (.int (1 : Int32)), .val (.ref b739), .unset, .unset, .unset] [])) _
            refine st757 _ ?_
            show Steps p.tables e below (T757.setTop (mkF m 175 #[.val (.int p1), .val (.int p2), .val (.int p3), .val (.int p4), .val (.int p5), .val (.int p6), .val (.ref b7), .val (.ref b17), .val (.ref b22), .val (.ref b72), .val (.int i124), .val (.ref a581), .val (.int (1 : Int32)), .val (.ref b739), .unset, .unset, .unset] [(.ref b757)])) _
            refine XS.dup X757.here hx rfl (hb hby at_175) rfl rfl ?_
            show Steps p.tables e below (T757.setTop (mkF m 176 #[.val (.int p1), .val (.int p2), .val (.int p3), .val (.int p4), .val (.int p5), .val (.int p6), .val (.ref b7), .val (.ref b17), .val (.ref b22), .val (.ref b72), .val (.int i124), .val (.ref a581), .val (.int (1 : Int32)), .val (.ref b739), .unset, .unset, .unset] [(.ref b757), (.ref b757)])) _
            refine XS.aload X757.here hx rfl (hb hby at_176) rfl rfl ?_
            show Steps p.tables e below (T757.setTop (mkF m 178 #[.val (.int p1), .val (.int p2), .val (.int p3), .val (.int p4), .val (.int p5), .val (.int p6), .val (.ref b7), .val (.ref b17), .val (.ref b22), .val (.ref b72), .val (.int i124), .val (.ref a581), .val (.int (1 : Int32)), .val (.ref b739), .unset, .unset, .unset] [(.ref b22), (.ref b757), (.ref b757)])) _
            refine XS.aload X757.here hx rfl (hb hby at_178) rfl rfl ?_
            show Steps p.tables e below (T757.setTop (mkF m 180 #[.val (.int p1), .val (.int p2), .val (.int p3), .val (.int p4), .val (.int p5), .val (.int p6), .val (.ref b7), .val (.ref b17), .val (.ref b22), .val (.ref b72), .val (.int i124), .val (.ref a581), .val (.int (1 : Int32)), .val (.ref b739), .unset, .unset, .unset] [(.ref a581), (.ref b22), (.ref b757), (.ref b757)])) _
            refine XS.aload X757.here hx rfl (hb hby at_180) rfl rfl ?_
            show Steps p.tables e below (T757.setTop (mkF m 182 #[.val (.int p1), .val (.int p2), .val (.int p3), .val (.int p4), .val (.int p5), .val (.int p6), .val (.ref b7), .val (.ref b17), .val (.ref b22), .val (.ref b72), .val (.int i124), .val (.ref a581), .val (.int (1 : Int32)), .val (.ref b739), .unset, .unset, .unset] [(.ref b739), (.ref a581), (.ref b22), (.ref b757), (.ref b757)])) _
            refine st758.trans ?_
            show Steps p.tables e below (T758.setTop (mkF m 185 #[.val (.int p1), .val (.int p2), .val (.int p3), .val (.int p4), .val (.int p5), .val (.int p6), .val (.ref b7), .val (.ref b17), .val (.ref b22), .val (.ref b72), .val (.int i124), .val (.ref a581), .val (.int (1 : Int32)), .val (.ref b739), .unset, .unset, .unset] [(.ref b757)])) _
            refine XS.goto X758.here hx rfl (pc0 := 185) (pc' := 189) rfl (hb hby at_185) (by decide) (by decide) ?_
            show Steps p.tables e below (T758.setTop (mkF m 189 #[.val (.int p1), .val (.int p2), .val (.int p3), .val (.int p4), .val (.int p5), .val (.int p6), .val (.ref b7), .val (.ref b17), .val (.ref b22), .val (.ref b72), .val (.int i124), .val (.ref a581), .val (.int (1 : Int32)), .val (.ref b739), .unset, .unset, .unset] [(.ref b757)])) _
            refine XS.astore X758.here hx rfl (hb hby at_189) rfl rfl (l' := #[.val (.int p1), .val (.int p2), .val (.int p3), .val (.int p4), .val (.int p5), .val (.int p6), .val (.ref b7), .val (.ref b17), .val (.ref b22), .val (.ref b72), .val (.int i124), .val (.ref a581), .val (.int (1 : Int32)), .val (.ref b739), .val (.ref b757), .unset, .unset]) rfl ?_
            show Steps p.tables e below (T758.setTop (mkF m 191 #[.val (.int p1), .val (.int p2), .val (.int p3), .val (.int p4), .val (.int p5), .val (.int p6), .val (.ref b7), .val (.ref b17), .val (.ref b22), .val (.ref b72), .val (.int i124), .val (.ref a581), .val (.int (1 : Int32)), .val (.ref b739), .val (.ref b757), .unset, .unset] [])) _
            refine st766 _ ?_
            show Steps p.tables e below (T766.setTop (mkF m 194 #[.val (.int p1), .val (.int p2), .val (.int p3), .val (.int p4), .val (.int p5), .val (.int p6), .val (.ref b7), .val (.ref b17), .val (.ref b22), .val (.ref b72), .val (.int i124), .val (.ref a581), .val (.int (1 : Int32)), .val (.ref b739), .val (.ref b757), .unset, .unset] [(.ref b766)])) _
            refine XS.dup X766.here hx rfl (hb hby at_194) rfl rfl ?_
            show Steps p.tables e below (T766.setTop (mkF m 195 #[.val (.int p1), .val (.int p2), .val (.int p3), .val (.int p4), .val (.int p5), .val (.int p6), .val (.ref b7), .val (.ref b17), .val (.ref b22), .val (.ref b72), .val (.int i124), .val (.ref a581), .val (.int (1 : Int32)), .val (.ref b739), .val (.ref b757), .unset, .unset] [(.ref b766), (.ref b766)])) _
            refine XS.aload X766.here hx rfl (hb hby at_195) rfl rfl ?_
            show Steps p.tables e below (T766.setTop (mkF m 197 #[.val (.int p1), .val (.int p2), .val (.int p3), .val (.int p4), .val (.int p5), .val (.int p6), .val (.ref b7), .val (.ref b17), .val (.ref b22), .val (.ref b72), .val (.int i124), .val (.ref a581), .val (.int (1 : Int32)), .val (.ref b739), .val (.ref b757), .unset, .unset] [(.ref b757), (.ref b766), (.ref b766)])) _
            refine XS.aload X766.here hx rfl (hb hby at_197) rfl rfl ?_
            show Steps p.tables e below (T766.setTop (mkF m 199 #[.val (.int p1), .val (.int p2), .val (.int p3), .val (.int p4), .val (.int p5), .val (.int p6), .val (.ref b7), .val (.ref b17), .val (.ref b22), .val (.ref b72), .val (.int i124), .val (.ref a581), .val (.int (1 : Int32)), .val (.ref b739), .val (.ref b757), .unset, .unset] [(.ref b72), (.ref b757), (.ref b766), (.ref b766)])) _
            refine st767 _ ?_
            show Steps p.tables e below (T767.setTop (mkF m 202 #[.val (.int p1), .val (.int p2), .val (.int p3), .val (.int p4), .val (.int p5), .val (.int p6), .val (.ref b7), .val (.ref b17), .val (.ref b22), .val (.ref b72), .val (.int i124), .val (.ref a581), .val (.int (1 : Int32)), .val (.ref b739), .val (.ref b757), .unset, .unset] [(.ref b767), (.ref b72), (.ref b757), (.ref b766), (.ref b766)])) _
            refine XS.dup X767.here hx rfl (hb hby at_202) rfl rfl ?_
            show Steps p.tables e below (T767.setTop (mkF m 203 #[.val (.int p1), .val (.int p2), .val (.int p3), .val (.int p4), .val (.int p5), .val (.int p6), .val (.ref b7), .val (.ref b17), .val (.ref b22), .val (.ref b72), .val (.int i124), .val (.ref a581), .val (.int (1 : Int32)), .val (.ref b739), .val (.ref b757), .unset, .unset] [(.ref b767), (.ref b767), (.ref b72), (.ref b757), (.ref b766), (.ref b766)])) _
            refine XS.aload X767.here hx rfl (hb hby at_203) rfl rfl ?_
            show Steps p.tables e below (T767.setTop (mkF m 205 #[.val (.int p1), .val (.int p2), .val (.int p3), .val (.int p4), .val (.int p5), .val (.int p6), .val (.ref b7), .val (.ref b17), .val (.ref b22), .val (.ref b72), .val (.int i124), .val (.ref a581), .val (.int (1 : Int32)), .val (.ref b739), .val (.ref b757), .unset, .unset] [(.ref b7), (.ref b767), (.ref b767), (.ref b72), (.ref b757), (.ref b766), (.ref b766)])) _
            refine st769.trans ?_
            exact kt
          obtain rfl : i30 = i771 := (u774.trans u33.symm).symm
          obtain rfl : i29 = i770 := (u775.trans u34.symm).symm
          have f787 : Exa Z T769.heap b766 "com/example/stemline/stemline/graph/Edge" := ((Exa.ext E767 A766).keep Ku780)
          have f788 : Fld Z T769.heap b766 "com/example/stemline/stemline/graph/Edge" "file" "Ljava/lang/String;" .null := ((Fld.ext E767 D766_102).keep Ku780 (ninS (Nat.ne_of_lt (Nat.lt_of_lt_of_le lt_b766 bd_b767)) nin0))
          have f789 : Fld Z T769.heap b766 "com/example/stemline/stemline/graph/Edge" "line" "I" (.int (0 : Int32)) := ((Fld.ext E767 D766_104).keep Ku780 (ninS (Nat.ne_of_lt (Nat.lt_of_lt_of_le lt_b766 bd_b767)) nin0))
          have f790 : Fld Z T769.heap b766 "com/example/stemline/stemline/graph/Edge" "source" "Lcom/example/stemline/stemline/model/ColumnSource;" .null := ((Fld.ext E767 D766_98).keep Ku780 (ninS (Nat.ne_of_lt (Nat.lt_of_lt_of_le lt_b766 bd_b767)) nin0))
          have f791 : Fld Z T769.heap b766 "com/example/stemline/stemline/graph/Edge" "target" "Lcom/example/stemline/stemline/model/TableColumn;" .null := ((Fld.ext E767 D766_100).keep Ku780 (ninS (Nat.ne_of_lt (Nat.lt_of_lt_of_le lt_b766 bd_b767)) nin0))
          obtain ⟨_, _, ⟨T792, L792, k792, n792⟩, -, X792, sn792, gr792, ⟨Lc792, hQ792, l792, y792, z792⟩, st792⟩ := X769.specialBackS hx (y := M_12) rfl hown758 (mvT hZ758 (hw _ (gw 90 rfl))) (mvT hZ758 (hw _ (gw 91 rfl))) (mvT hZ758 (hw _ (gw 92 rfl))) (by decide) (backOfS (W := 1) (rm15_22 l Z a0 hw [] b766 b757 b72 b767 p5 T769.heap n0  Ou780 f787 f788 f789 f790 f791 g_b766) hZ758 (hw _ (gw 92 rfl)) (hw _ (gw 89 rfl)) (by decide) (by decide)) (g := (mkF m 210 #[.val (.int p1), .val (.int p2), .val (.int p3), .val (.int p4), .val (.int p5), .val (.int p6), .val (.ref b7), .val (.ref b17), .val (.ref b22), .val (.ref b72), .val (.int i124), .val (.ref a581), .val (.int (1 : Int32)), .val (.ref b739), .val (.ref b757), .unset, .unset] [(.int p5), (.ref b767), (.ref b72), (.ref b757), (.ref b766), (.ref b766)])) rfl (by rw [hml]; rfl) (Steps.refl _) (a := b766) (argsL := [(.ref b757), (.ref b72), (.ref b767), (.int p5)]) (rest := [(.ref b766)]) (lenOf pd_12 rfl) rfl (by show 2 * 0 + _ ≤ _; exact Nat.le_of_eq rfl) (hb hby at_210) (fun _ _ => ⟨rfl, rfl, (by decide : 30 + 4 ≤ _), (by decide : 182 + 48 ≤ _)⟩)
          dsimp only [Pt.U, Pt.locs, Pt.cells, Pt.slots] at X792 l792 y792 z792 st792 hQ792 sn792 gr792
          subst l792 y792 z792
          have gs792 : T769.heap.size ≤ T792.heap.size := gr792
          have hS792 : s.Since T792.vm T792.heap.size := hS758.trans sn792 (Nat.le_trans (Nat.le_trans (Nat.le_trans (Nat.le_trans (Nat.le_refl _) E766.1) E767.1) Ku780.1) gs792)
          have hZ792 : Z.Warmed39 (s.setVm T792.vm).vm := State.Warmed39.trans (t := (s.setVm T758.vm)) hZ758 sn792.1
          have hown792 : (s.setVm T792.vm).vm.findClass "com/example/stemline/stemline/graph/EdgeSourceColumnPinLaw" = some m.cls := by rw [show (s.setVm T792.vm).vm = T792.vm from rfl, sn792.1.alike.findClass]; exact hown758
          obtain ⟨rfl, u794, Ku795, u796, u797, u798, u799, u800⟩ := hQ792
          have Ou795 : Old Z n0 T792.heap := Ou780.keep Ku795 (allS g_b766 all0)
          have N792 := Fr.app N769 u794
          have f801 : Exa Z T792.heap b757 "com/example/stemline/stemline/model/ColumnSource" := (((Exa.ext E767 (Exa.ext E766 u762)).keep Ku780).keep Ku795)
          have f802 : Fld Z T792.heap b757 "com/example/stemline/stemline/model/ColumnSource" "column" "Lcom/example/stemline/stemline/model/TableColumn;" (.ref b22) := (((Fld.ext E767 (Fld.ext E766 u763)).keep Ku780 (ninS (Nat.ne_of_lt (Nat.lt_of_lt_of_le (Nat.lt_of_lt_of_le (Nat.lt_of_lt_of_le lt_b757 Ku761.1) E766.1) bd_b767)) nin0)).keep Ku795 (ninS (Nat.ne_of_lt (Nat.lt_of_lt_of_le (Nat.lt_of_lt_of_le lt_b757 Ku761.1) bd_b766)) nin0))
          obtain ⟨cq803, kq803, q803a, q803b, q803c⟩ := isOf hZ792 rfl u796
          obtain ⟨_, _, ⟨T803, L803, k803, n803⟩, -, X803, ⟨Lc803, hQ803, l803, y803, z803⟩, st803⟩ := X792.virtualBack hx (y := M_13) (z := M_13) hown792 (mvT hZ792 (hw _ (gw 105 rfl))) (mvT hZ792 (hw _ (gw 106 rfl))) (notFace_of_selects (args := #[]) (mvT hZ792 (hw _ (gw 108 rfl)))) (mvT hZ792 (hw _ (gw 108 rfl))) (mvT hZ792 (hw _ (gw 107 rfl))) (by decide) (backOf (W := 0) (rm16_23 l Z a0 hw [] b766 b757 b22 T792.heap n0  Ou795 u799 f801 f802) hZ792 (hw _ (gw 109 rfl)) (hw _ (gw 89 rfl)) (by decide) (by decide)) q803a q803c (g := (mkF m 217 #[.val (.int p1), .val (.int p2), .val (.int p3), .val (.int p4), .val (.int p5), .val (.int p6), .val (.ref b7), .val (.ref b17), .val (.ref b22), .val (.ref b72), .val (.int i124), .val (.ref a581), .val (.int (1 : Int32)), .val (.ref b739), .val (.ref b757), .val (.ref b766), .unset] [(.ref b766)])) rfl (by rw [hml]; rfl) (Steps.refl _) (argsL := []) (rest := []) (lenOf pd_13 rfl) rfl (by show 2 * 0 + _ ≤ _; exact Nat.le_of_eq rfl) (hb hby at_217) (fun _ _ => ⟨rfl, rfl, (by decide : 34 + 0 ≤ _), (by decide : 230 + 0 ≤ _)⟩)
          dsimp only [Pt.U, Pt.locs, Pt.cells, Pt.slots] at X803 l803 y803 z803 st803 hQ803
          subst l803 y803 z803
          obtain ⟨rfl, u805, u806⟩ := hQ803
          have N803 := Fr.app N792 u805
          obtain ⟨fs, hr, hrun, hended, hEnd⟩ := X803.leaveW (s := s) (vm₁ := T792.vm) hS792 (by rw [u806]; exact (Nat.le_refl _)) (v := some (.int (1 : Int32))) (fun h => by rw [Bd.returns] at h; cases h)
          refine ⟨_, _, pre786 _ ?_, hrun, hended, _, _, rfl, ?_, hEnd.1, hEnd.2.1, hEnd.2.2.1, hEnd.2.2.2.mono (by decide) (by decide)⟩
          · show Steps p.tables e below (T769.setTop (mkF m 208 #[.val (.int p1), .val (.int p2), .val (.int p3), .val (.int p4), .val (.int p5), .val (.int p6), .val (.ref b7), .val (.ref b17), .val (.ref b22), .val (.ref b72), .val (.int i124), .val (.ref a581), .val (.int (1 : Int32)), .val (.ref b739), .val (.ref b757), .unset, .unset] [(.ref b767), (.ref b72), (.ref b757), (.ref b766), (.ref b766)])) _
            refine XS.iload X769.here hx rfl (hb hby at_208) rfl ?_
            show Steps p.tables e below (T769.setTop (mkF m 210 #[.val (.int p1), .val (.int p2), .val (.int p3), .val (.int p4), .val (.int p5), .val (.int p6), .val (.ref b7), .val (.ref b17), .val (.ref b22), .val (.ref b72), .val (.int i124), .val (.ref a581), .val (.int (1 : Int32)), .val (.ref b739), .val (.ref b757), .unset, .unset] [(.int p5), (.ref b767), (.ref b72), (.ref b757), (.ref b766), (.ref b766)])) _
            refine st792.trans ?_
            show Steps p.tables e below (T792.setTop (mkF m 213 #[.val (.int p1), .val (.int p2), .val (.int p3), .val (.int p4), .val (.int p5), .val (.int p6), .val (.ref b7), .val (.ref b17), .val (.ref b22), .val (.ref b72), .val (.int i124), .val (.ref a581), .val (.int (1 : Int32)), .val (.ref b739), .val (.ref b757), .unset, .unset] [(.ref b766)])) _
            refine XS.astore X792.here hx rfl (hb hby at_213) rfl rfl (l' := #[.val (.int p1), .val (.int p2), .val (.int p3), .val (.int p4), .val (.int p5), .val (.int p6), .val (.ref b7), .val (.ref b17), .val (.ref b22), .val (.ref b72), .val (.int i124), .val (.ref a581), .val (.int (1 : Int32)), .val (.ref b739), .val (.ref b757), .val (.ref b766), .unset]) rfl ?_
            show Steps p.tables e below (T792.setTop (mkF m 215 #[.val (.int p1), .val (.int p2), .val (.int p3), .val (.int p4), .val (.int p5), .val (.int p6), .val (.ref b7), .val (.ref b17), .val (.ref b22), .val (.ref b72), .val (.int i124), .val (.ref a581), .val (.int (1 : Int32)), .val (.ref b739), .val (.ref b757), .val (.ref b766), .unset] [])) _
            refine XS.aload X792.here hx rfl (hb hby at_215) rfl rfl ?_
            show Steps p.tables e below (T792.setTop (mkF m 217 #[.val (.int p1), .val (.int p2), .val (.int p3), .val (.int p4), .val (.int p5), .val (.int p6), .val (.ref b7), .val (.ref b17), .val (.ref b22), .val (.ref b72), .val (.int i124), .val (.ref a581), .val (.int (1 : Int32)), .val (.ref b739), .val (.ref b757), .val (.ref b766), .unset] [(.ref b766)])) _
            refine st803.trans ?_
            show Steps p.tables e below (T803.setTop (mkF m 220 #[.val (.int p1), .val (.int p2), .val (.int p3), .val (.int p4), .val (.int p5), .val (.int p6), .val (.ref b7), .val (.ref b17), .val (.ref b22), .val (.ref b72), .val (.int i124), .val (.ref a581), .val (.int (1 : Int32)), .val (.ref b739), .val (.ref b757), .val (.ref b766), .unset] [(.ref b22)])) _
            refine XS.astore X803.here hx rfl (hb hby at_220) rfl rfl (l' := #[.val (.int p1), .val (.int p2), .val (.int p3), .val (.int p4), .val (.int p5), .val (.int p6), .val (.ref b7), .val (.ref b17), .val (.ref b22), .val (.ref b72), .val (.int i124), .val (.ref a581), .val (.int (1 : Int32)), .val (.ref b739), .val (.ref b757), .val (.ref b766), .val (.ref b22)]) rfl ?_
            show Steps p.tables e below (T803.setTop (mkF m 222 #[.val (.int p1), .val (.int p2), .val (.int p3), .val (.int p4), .val (.int p5), .val (.int p6), .val (.ref b7), .val (.ref b17), .val (.ref b22), .val (.ref b72), .val (.int i124), .val (.ref a581), .val (.int (1 : Int32)), .val (.ref b739), .val (.ref b757), .val (.ref b766), .val (.ref b22)] [])) _
            refine XS.iload X803.here hx rfl (hb hby at_222) rfl ?_
            show Steps p.tables e below (T803.setTop (mkF m 224 #[.val (.int p1), .val (.int p2), .val (.int p3), .val (.int p4), .val (.int p5), .val (.int p6), .val (.ref b7), .val (.ref b17), .val (.ref b22), .val (.ref b72), .val (.int i124), .val (.ref a581), .val (.int (1 : Int32)), .val (.ref b739), .val (.ref b757), .val (.ref b766), .val (.ref b22)] [(.int (1 : Int32))])) _
            refine XS.ifYes X803.here hx rfl (pc0 := 224) (pc' := 238) rfl (hb hby at_224) rfl ((if0 _ _).trans (feq (by decide +kernel : ¬ ((1 : Int32) = (0 : Int32)))).2) (by decide) (by decide) ?_
            show Steps p.tables e below (T803.setTop (mkF m 238 #[.val (.int p1), .val (.int p2), .val (.int p3), .val (.int p4), .val (.int p5), .val (.int p6), .val (.ref b7), .val (.ref b17), .val (.ref b22), .val (.ref b72), .val (.int i124), .val (.ref a581), .val (.int (1 : Int32)), .val (.ref b739), .val (.ref b757), .val (.ref b766), .val (.ref b22)] [])) _
            refine XS.aload X803.here hx rfl (hb hby at_238) rfl rfl ?_
            show Steps p.tables e below (T803.setTop (mkF m 240 #[.val (.int p1), .val (.int p2), .val (.int p3), .val (.int p4), .val (.int p5), .val (.int p6), .val (.ref b7), .val (.ref b17), .val (.ref b22), .val (.ref b72), .val (.int i124), .val (.ref a581), .val (.int (1 : Int32)), .val (.ref b739), .val (.ref b757), .val (.ref b766), .val (.ref b22)] [(.ref b22)])) _
            refine XS.aload X803.here hx rfl (hb hby at_240) rfl rfl ?_
            show Steps p.tables e below (T803.setTop (mkF m 242 #[.val (.int p1), .val (.int p2), .val (.int p3), .val (.int p4), .val (.int p5), .val (.int p6), .val (.ref b7), .val (.ref b17), .val (.ref b22), .val (.ref b72), .val (.int i124), .val (.ref a581), .val (.int (1 : Int32)), .val (.ref b739), .val (.ref b757), .val (.ref b766), .val (.ref b22)] [(.ref b22), (.ref b22)])) _
            refine Jvm.RoadKit.acmp (g := (mkF m 242 #[.val (.int p1), .val (.int p2), .val (.int p3), .val (.int p4), .val (.int p5), .val (.int p6), .val (.ref b7), .val (.ref b17), .val (.ref b22), .val (.ref b72), .val (.int i124), .val (.ref a581), .val (.int (1 : Int32)), .val (.ref b739), .val (.ref b757), .val (.ref b766), .val (.ref b22)] [(.ref b22), (.ref b22)])) X803 hx rfl rfl rfl (pc0 := 242) (pc' := 245) (same := true) rfl (hb hby at_242) rfl (decide_eq_true rfl) (by decide) (by decide) ?_
            show Steps p.tables e below (T803.setTop (mkF m 245 #[.val (.int p1), .val (.int p2), .val (.int p3), .val (.int p4), .val (.int p5), .val (.int p6), .val (.ref b7), .val (.ref b17), .val (.ref b22), .val (.ref b72), .val (.int i124), .val (.ref a581), .val (.int (1 : Int32)), .val (.ref b739), .val (.ref b757), .val (.ref b766), .val (.ref b22)] [])) _
            refine XS.iconst X803.here hx rfl (hb hby at_245) ?_
            show Steps p.tables e below (T803.setTop (mkF m 246 #[.val (.int p1), .val (.int p2), .val (.int p3), .val (.int p4), .val (.int p5), .val (.int p6), .val (.ref b7), .val (.ref b17), .val (.ref b22), .val (.ref b72), .val (.int i124), .val (.ref a581), .val (.int (1 : Int32)), .val (.ref b739), .val (.ref b757), .val (.ref b766), .val (.ref b22)] [(.int (1 : Int32))])) _
            refine XS.goto X803.here hx rfl (pc0 := 246) (pc' := 250) rfl (hb hby at_246) (by decide) (by decide) ?_
            show Steps p.tables e below (T803.setTop (mkF m 250 #[.val (.int p1), .val (.int p2), .val (.int p3), .val (.int p4), .val (.int p5), .val (.int p6), .val (.ref b7), .val (.ref b17), .val (.ref b22), .val (.ref b72), .val (.int i124), .val (.ref a581), .val (.int (1 : Int32)), .val (.ref b739), .val (.ref b757), .val (.ref b766), .val (.ref b22)] [(.int (1 : Int32))])) _
            exact retN X803 hx (t := .boolean) Bd.returns (by simp) (hb hby at_250) hr
          · show Q0 Z _ _ _ _ _ _ _ _ _ _ h0 n0 _ T803.heap _
            rw [u806]
            exact ⟨rfl, N803⟩
set_option maxRecDepth 65536 in
set_option maxHeartbeats 40000000 in
theorem comes_1 {Post : Tables → Env → Array Value → State → Outcome → State → Prop} (hpost : ∀ tb e args s v u, (limb_1_1.after args s (.returned v) u = true ∧ limb_1_2.after args s (.returned v) u = true ∧ True) → ReturnedEndW s (.returned v) u (Jvm.fieldLocs frame_1_writes args s ++ Jvm.arrayLocs frame_1_arrays args s ++ Jvm.staticLocs frame_1_statics s) 56 6336 → Post tb e args s (.returned v) u) :
    ArmFor flags0 classFile x code maxLocals ret World_1 tables_1 room_1 Calls_1 rest_1 Pre_1 Post := by
  intro l hfl _ _ p e ha hc hk s m args below hf hA hF happ hP
  obtain ⟨hcalls, hrest, hpre⟩ := hP
  obtain ⟨-, -, -, hnamed, -, -, -, hat⟩ := (Spec.applies_iff hf).mp happ
  obtain ⟨hg, hn⟩ := and_e (Cond.before_iff.mp (show (Jvm.Cond.and given_1 narrow_1).before args s = true from hpre))
  obtain ⟨h1, hr0⟩ := and_e hg
  obtain ⟨ha0, hr1⟩ := and_e hr0
  obtain ⟨ha1, hr2⟩ := and_e hr1
  obtain ⟨ha2, hr3⟩ := and_e hr2
  obtain ⟨ha3, hr4⟩ := and_e hr3
  obtain ⟨ha4, hr5⟩ := and_e hr4
  obtain ⟨w0, w1, w2, w3, w4, w5, rfl⟩ : ∃ w0 w1 w2 w3 w4 w5 : Value, args = #[w0, w1, w2, w3, w4, w5] := by
    have hs : args.size = 6 := by simpa [Cond.value, given_1] using h1
    obtain ⟨L⟩ := args
    match L, hs with
    | [w0, w1, w2, w3, w4, w5], _ => exact ⟨w0, w1, w2, w3, w4, w5, rfl⟩
  have hwt := fun d (hd : d ∈ tables_1) => atoms_spec (ws := Jvm.Cond.code x code maxLocals ret :: tables_1) hat d (List.mem_cons_of_mem _ hd)
  obtain ⟨hsets, hown0⟩ := atoms_of _ (rest_1_c_eq ▸ (show rest_1_c.before _ s = true from hrest))
  have hw : ∀ d ∈ own_ws, d.before _ s = true := fun d hd => (List.mem_append.mp hd).elim (hwt d) (hsets d)
  have hfit : Fit s := fun {y c} hc i hi => by
    obtain ⟨ha, rfl⟩ := Array.getElem?_eq_some_iff.mp hc
    have q := List.all_eq_true.mp ((Array.all_eq_true_iff_forall_mem.mp hF) _ (Array.getElem_mem ha)) i (List.mem_range.mpr hi)
    simpa [Array.getElem?_eq_getElem hi] using q
  obtain ⟨i0, ei0⟩ := is_v ha0
  obtain rfl : w0 = (.int i0) := Option.some.inj ei0
  obtain ⟨i1, ei1⟩ := is_v ha1
  obtain rfl : w1 = (.int i1) := Option.some.inj ei1
  obtain ⟨i2, ei2⟩ := is_v ha2
  obtain rfl : w2 = (.int i2) := Option.some.inj ei2
  obtain ⟨i3, ei3⟩ := is_v ha3
  obtain rfl : w3 = (.int i3) := Option.some.inj ei3
  obtain ⟨i4, ei4⟩ := is_v ha4
  obtain rfl : w4 = (.int i4) := Option.some.inj ei4
  obtain ⟨i5, ei5⟩ := is_v hr5
  obtain rfl : w5 = (.int i5) := Option.some.inj ei5
  obtain ⟨c1, c2⟩ := and_e hn
  obtain ⟨c3, c4⟩ := and_e c2
  have hs1 := Cond.before_iff.mp (hsets _ (List.mem_of_getElem? (i := 1) rfl))
  have hs2 := Cond.before_iff.mp (hsets _ (List.mem_of_getElem? (i := 2) rfl))
  have hs8 := Cond.before_iff.mp (hsets _ (List.mem_of_getElem? (i := 8) rfl))
  obtain ⟨o1, ev_o1⟩ := exa_v c1
  have S_o1 : Sta s s.heap "com/example/stemline/stemline/model/SourceKind" "TRANSFORMATION" "Lcom/example/stemline/stemline/model/SourceKind;" (.ref o1) := Sta.start ev_o1 (Or.inr ⟨(hw _ (gw 69 rfl)), (hw _ (gw 70 rfl))⟩)
  have E_o1 : Exa s s.heap o1 "com/example/stemline/stemline/model/SourceKind" := Exa.start ev_o1 c1
  obtain ⟨o2, ev_o2⟩ := exa_v c3
  have S_o2 : Sta s s.heap "com/example/stemline/stemline/model/SourceKind" "IDENTITY" "Lcom/example/stemline/stemline/model/SourceKind;" (.ref o2) := Sta.start ev_o2 (Or.inr ⟨(hw _ (gw 69 rfl)), (hw _ (gw 116 rfl))⟩)
  have E_o2 : Exa s s.heap o2 "com/example/stemline/stemline/model/SourceKind" := Exa.start ev_o2 c3
  obtain ⟨o3, ev_o3⟩ := exa_v c4
  have S_o3 : Sta s s.heap "com/example/stemline/stemline/model/SourceKind" "AGGREGATION" "Lcom/example/stemline/stemline/model/SourceKind;" (.ref o3) := Sta.start ev_o3 (Or.inr ⟨(hw _ (gw 69 rfl)), (hw _ (gw 118 rfl))⟩)
  have E_o3 : Exa s s.heap o3 "com/example/stemline/stemline/model/SourceKind" := Exa.start ev_o3 c4
  obtain ⟨n1, ev_n1⟩ := is_v hs1
  have S_n1 : Sta s s.heap "java/lang/String" "COMPACT_STRINGS" "Z" (.int n1) := Sta.start ev_n1 (Or.inl (hw _ (gw 119 rfl)))
  have cn5 : ¬ (n1 = (0 : Int32)) := gotF (Cond.eq_ints ev_n1 (Term.int_eval (0))) (not_v hs2)
  obtain ⟨r2, ev_r2, ir_r2⟩ := isR_v hs8
  have S_r2 : Sta s s.heap "jdk/internal/util/Preconditions" "SIOOBE_FORMATTER" "Ljava/util/function/BiFunction;" r2 := Sta.start ev_r2 (Or.inl (hw _ (gw 126 rfl)))
  obtain ⟨n, o, h1, h2, h3, _, L, rfl, ⟨rfl, N⟩, hq⟩ := rm0 l s _ hw tables_1 i0 i1 i2 i3 i4 i5 n1 o2 o1 o3 s.heap s.heap.size (Old.start s) S_n1 cn5 S_o2 S_o1 S_o3 p e ha hc hk s m _ below hf ((Spec.applies_iff_loose hf).mp happ).1 ⟨rfl, State.Warmed39.refl s, rfl⟩ trivial
  refine ⟨n, _, h1, h2, h3, hpost _ _ _ _ _ _ ⟨Cond.after_iff.mpr rfl, Cond.after_iff.mpr (eq_i res_at (Term.int_eval (1)) rfl), trivial⟩ ⟨hq.1, hq.2.1, hq.2.2.1, (hq.2.2.2.sift fun y hy => Or.inr (N y hy)).mono (by decide) (by decide)⟩⟩
theorem main_1_1 : Claimed_1_1 := comes_1 fun _ _ _ _ _ _ h hF => ⟨h.1, hF⟩
theorem main_1_2 : Claimed_1_2 := comes_1 fun _ _ _ _ _ _ h hF => ⟨h.2.1, hF⟩
end Jvm.Pilot.@@N@@
namespace Jvm.Pilot.@@N@@
open Jvm Jvm.ClassFile Sem Op Lib Jvm.Free Jvm.Stand Jvm.Pilot.@@N@@.Jvm.D
/-! MADE BY PROGRAM (witnessworld.py) out of the Statement's table words and the real class files: 26 classes; the members and pool entries that the words name. The judged class is class 1, her method 1. -/
namespace start1
open Jvm.ClassFile
def u (s : String) : CpInfo := .utf8 (stringToUtf16 s)
/-- a pool by its gaps: so many unusable entries, then the entry; so many at the end -/
def gap : Nat → List CpInfo → List CpInfo
  | 0, r => r
  | n + 1, r => .unusable :: gap n r
def poolList (es : List (Nat × CpInfo)) (last : Nat) : List CpInfo := es.foldr (fun e r => gap e.1 (e.2 :: r)) (gap last [])
def pool (es : List (Nat × CpInfo)) (last : Nat) : Array CpInfo := ⟨poolList es last⟩
def fileOf (pool : Array CpInfo) (this : Nat) (attrs : Array Attribute := #[]) (ms : Array MethodInfo := #[]) (fl : Nat := 33) (sup : Nat := 0) (ifs : Array Nat := #[]) (fds : Array FieldInfo := #[]) : ClassFile where
  minorVersion := 0
  majorVersion := 65
  constantPool := pool
  accessFlags := fl
  thisClass := this
  superClass := sup
  interfaces := ifs
  fields := fds
  methods := ms
  attributes := attrs
def plain (name : String) (sup : Option ClassId) : Class where
  name := name
  kind := .ordinary
  loader := none
  accessFlags := 33
  super := sup
  interfaces := #[]
  cf := none
  fields := #[]
  methods := #[]
  instanceTypes := #[]
  staticTypes := #[]
  resolved := #[]
  callSites := []
  init := .initialized
  statics := none
  mirror := none

def pool0 : Array CpInfo := pool [(5, u "<init>"), (0, u "()V"), (1, .class_ 10), (1, u "java/lang/Object")] 113

def k0c0 : Code := { maxStack := 0, maxLocals := 1, code := object_method_1_code, exceptionTable := #[], attributes := #[] }
def k0m0 : Method := { name := "<init>", desc := "()V", sig := { parameters := [], returnType := none }, accessFlags := 1, code := some k0c0 }
/-- java/lang/Object -/
def k0 : Class := { plain "java/lang/Object" none with
  accessFlags := 33
  interfaces := #[]
  cf := some (fileOf pool0 8 #[] #[{ accessFlags := 1, nameIndex := 5, descriptorIndex := 6, attributes := #[] }] 33 0 #[] #[])
  fields := #[]
  methods := #[k0m0]
  instanceTypes := #[]
  staticTypes := #[]
  resolved := Array.replicate 124 none
  statics := none }

def pool1 : Array CpInfo := pool [(2, .class_ 4), (1, u "java/lang/Object"), (0, u "<init>"), (0, u "()V"), (0, .class_ 8), (0, u "com/example/stemline/stemline/model/TableColumn"), (0, .class_ 10), (0, u "java/lang/String"), (0, .methodref 9 12), (0, .nameAndType 5 13), (0, u "([C)V"), (0, .methodref 7 15), (0, .nameAndType 5 16), (0, u "(Ljava/lang/String;Ljava/lang/String;)V"), (0, .methodref 9 18), (0, .nameAndType 19 20), (0, u "valueOf"), (0, u "(C)Ljava/lang/String;"), (0, .fieldref 22 23), (0, .class_ 24), (0, .nameAndType 25 26), (0, u "com/example/stemline/stemline/model/SourceKind"), (0, u "IDENTITY"), (0, u "Lcom/example/stemline/stemline/model/SourceKind;"), (0, .fieldref 22 28), (0, .nameAndType 29 26), (0, u "TRANSFORMATION"), (0, .fieldref 22 31), (0, .nameAndType 32 26), (0, u "AGGREGATION"), (0, .class_ 34), (0, u "com/example/stemline/stemline/model/ColumnSource"), (0, .methodref 33 36), (0, .nameAndType 5 37), (0, u "(Lcom/example/stemline/stemline/model/TableColumn;Lcom/example/stemline/stemline/model/SourceKind;Ljava/lang/String;)V"), (0, .class_ 39), (0, u "com/example/stemline/stemline/graph/Edge"), (0, .methodref 38 41), (0, .nameAndType 5 42), (0, u "(Lcom/example/stemline/stemline/model/ColumnSource;Lcom/example/stemline/stemline/model/TableColumn;Ljava/lang/String;I)V"), (0, .methodref 38 44), (0, .nameAndType 45 46), (0, u "sourceColumn"), (0, u "()Lcom/example/stemline/stemline/model/TableColumn;"), (0, .class_ 48), (0, u "com/example/stemline/stemline/graph/EdgeSourceColumnPinLaw"), (2, u "law"), (0, u "(IIIIII)Z")] 5

def k1m0 : Method := { name := "<init>", desc := "()V", sig := { parameters := [], returnType := none }, accessFlags := 1, code := none }
def k1c1 : Code := { maxStack := 7, maxLocals := 17, code := code, exceptionTable := #[], attributes := #[] }
def k1m1 : Method := { name := "law", desc := "(IIIIII)Z", sig := { parameters := [.int, .int, .int, .int, .int, .int], returnType := some .boolean }, accessFlags := 9, code := some k1c1 }
/-- com/example/stemline/stemline/graph/EdgeSourceColumnPinLaw -/
def k1 : Class := { plain "com/example/stemline/stemline/graph/EdgeSourceColumnPinLaw" (some 0) with
  accessFlags := 49
  interfaces := #[]
  cf := some (fileOf pool1 47 #[] #[{ accessFlags := 1, nameIndex := 5, descriptorIndex := 6, attributes := #[] }, { accessFlags := 9, nameIndex := 51, descriptorIndex := 52, attributes := #[] }] 49 2 #[] #[])
  fields := #[]
  methods := #[k1m0, k1m1]
  instanceTypes := #[]
  staticTypes := #[]
  resolved := Array.replicate 58 none
  statics := none }

def pool2 : Array CpInfo := pool [(1, .methodref 2 3), (0, .class_ 4), (0, .nameAndType 5 6), (0, u "java/lang/Object"), (0, u "<init>"), (0, u "()V"), (0, .class_ 8), (0, u "java/lang/Record")] 13

def k2c0 : Code := { maxStack := 1, maxLocals := 1, code := jdk_30_method_1_code, exceptionTable := #[], attributes := #[] }
def k2m0 : Method := { name := "<init>", desc := "()V", sig := { parameters := [], returnType := none }, accessFlags := 4, code := some k2c0 }
/-- java/lang/Record -/
def k2 : Class := { plain "java/lang/Record" (some 0) with
  accessFlags := 1057
  interfaces := #[]
  cf := some (fileOf pool2 7 #[] #[{ accessFlags := 4, nameIndex := 5, descriptorIndex := 6, attributes := #[] }] 1057 2 #[] #[])
  fields := #[]
  methods := #[k2m0]
  instanceTypes := #[]
  staticTypes := #[]
  resolved := Array.replicate 22 none
  statics := none }

def pool3 : Array CpInfo := pool [(1, .class_ 2), (0, u "java/lang/Comparable"), (0, .class_ 4), (0, u "java/lang/Object")] 7

/-- java/lang/Comparable -/
def k3 : Class := { plain "java/lang/Comparable" (some 0) with
  accessFlags := 1537
  interfaces := #[]
  cf := some (fileOf pool3 1 #[] #[] 1537 3 #[] #[])
  fields := #[]
  methods := #[]
  instanceTypes := #[]
  staticTypes := #[]
  resolved := Array.replicate 12 none
  statics := none }

def pool4 : Array CpInfo := pool [(1, .methodref 2 3), (0, .class_ 4), (0, .nameAndType 5 6), (0, u "java/lang/Record"), (0, u "<init>"), (0, u "()V"), (0, .string 8), (0, u "table"), (0, .methodref 10 11), (0, .class_ 12), (0, .nameAndType 13 14), (0, u "java/util/Objects"), (0, u "requireNonNull"), (0, u "(Ljava/lang/Object;Ljava/lang/String;)Ljava/lang/Object;"), (0, .string 16), (0, u "name"), (0, .fieldref 18 19), (0, .class_ 20), (0, .nameAndType 8 21), (0, u "com/example/stemline/stemline/model/TableColumn"), (0, u "Ljava/lang/String;"), (0, .fieldref 18 23), (0, .nameAndType 16 21), (41, .class_ 66), (0, u "java/lang/Comparable"), (0, u "(Ljava/lang/String;Ljava/lang/String;)V")] 40

def k4c0 : Code := { maxStack := 2, maxLocals := 3, code := prog_56_method_1_code, exceptionTable := #[], attributes := #[] }
def k4m0 : Method := { name := "<init>", desc := "(Ljava/lang/String;Ljava/lang/String;)V", sig := { parameters := [(.object "java/lang/String"), (.object "java/lang/String")], returnType := none }, accessFlags := 1, code := some k4c0 }
/-- com/example/stemline/stemline/model/TableColumn -/
def k4 : Class := { plain "com/example/stemline/stemline/model/TableColumn" (some 2) with
  accessFlags := 49
  interfaces := #[3]
  cf := some (fileOf pool4 18 #[] #[{ accessFlags := 1, nameIndex := 5, descriptorIndex := 67, attributes := #[] }] 49 2 #[65] #[{ accessFlags := 18, nameIndex := 8, descriptorIndex := 21, attributes := #[] }, { accessFlags := 18, nameIndex := 16, descriptorIndex := 21, attributes := #[] }])
  fields := #[{ name := "table", type := (.object "java/lang/String"), accessFlags := 18, slot := 0, constantValue := 0 }, { name := "name", type := (.object "java/lang/String"), accessFlags := 18, slot := 1, constantValue := 0 }]
  methods := #[k4m0]
  instanceTypes := #[(.object "java/lang/String"), (.object "java/lang/String")]
  staticTypes := #[]
  resolved := Array.replicate 108 none
  statics := none }

def pool5 : Array CpInfo := pool [(1, .class_ 2), (0, u "java/io/Serializable"), (0, .class_ 4), (0, u "java/lang/Object")] 2

/-- java/io/Serializable -/
def k5 : Class := { plain "java/io/Serializable" (some 0) with
  accessFlags := 1537
  interfaces := #[]
  cf := some (fileOf pool5 1 #[] #[] 1537 3 #[] #[])
  fields := #[]
  methods := #[]
  instanceTypes := #[]
  staticTypes := #[]
  resolved := Array.replicate 7 none
  statics := none }

def pool6 : Array CpInfo := pool [(2, .class_ 4), (1, u "java/lang/CharSequence"), (42, .class_ 48), (0, u "java/lang/CharSequence$1CodePointIterator"), (10, .class_ 60), (0, u "java/lang/CharSequence$1CharIterator"), (5, .class_ 67), (0, u "java/lang/Object")] 63

/-- java/lang/CharSequence -/
def k6 : Class := { plain "java/lang/CharSequence" (some 0) with
  accessFlags := 1537
  interfaces := #[]
  cf := some (fileOf pool6 2 #[.nestMembers #[47, 59]] #[] 1537 66 #[] #[])
  fields := #[]
  methods := #[]
  instanceTypes := #[]
  staticTypes := #[]
  resolved := Array.replicate 131 none
  statics := none }

def pool7 : Array CpInfo := pool [(1, .class_ 2), (0, u "java/lang/constant/Constable"), (0, .class_ 4), (0, u "java/lang/Object")] 6

/-- java/lang/constant/Constable -/
def k7 : Class := { plain "java/lang/constant/Constable" (some 0) with
  accessFlags := 1537
  interfaces := #[]
  cf := some (fileOf pool7 1 #[] #[] 1537 3 #[] #[])
  fields := #[]
  methods := #[]
  instanceTypes := #[]
  staticTypes := #[]
  resolved := Array.replicate 11 none
  statics := none }

def pool8 : Array CpInfo := pool [(1, .class_ 2), (0, u "java/lang/constant/ConstantDesc"), (0, .class_ 4), (0, u "java/lang/Object")] 32

/-- java/lang/constant/ConstantDesc -/
def k8 : Class := { plain "java/lang/constant/ConstantDesc" (some 0) with
  accessFlags := 1537
  interfaces := #[]
  cf := some (fileOf pool8 1 #[] #[] 1537 3 #[] #[])
  fields := #[]
  methods := #[]
  instanceTypes := #[]
  staticTypes := #[]
  resolved := Array.replicate 37 none
  statics := none }

def pool9 : Array CpInfo := pool [(1, .methodref 2 3), (0, .class_ 4), (0, .nameAndType 5 6), (0, u "java/lang/Object"), (0, u "<init>"), (0, u "()V"), (2, .fieldref 10 11), (0, .class_ 12), (0, .nameAndType 13 14), (0, u "java/lang/String"), (0, u "value"), (0, u "[B"), (0, .fieldref 10 16), (0, .nameAndType 17 18), (0, u "coder"), (0, u "B"), (2, u "hash"), (0, u "I"), (2, u "hashIsZero"), (0, u "Z"), (0, .methodref 10 28), (0, .nameAndType 5 29), (0, u "([CIILjava/lang/Void;)V"), (8, .fieldref 10 39), (0, .nameAndType 40 26), (0, u "COMPACT_STRINGS"), (1, .class_ 44), (1, u "java/lang/StringUTF16"), (0, u "compress"), (1, .methodref 42 48), (0, .nameAndType 49 50), (0, u "coderFromArrayLen"), (0, u "([BI)B"), (2, u "toBytes"), (53, .class_ 109), (1, u "java/lang/StringLatin1"), (67, .methodref 42 178), (0, .nameAndType 45 179), (0, u "([CII)[B"), (29, .methodref 10 210), (0, .nameAndType 5 211), (0, u "([BB)V"), (157, u "(C)Z"), (205, .class_ 576), (0, u "java/lang/CharSequence"), (22, u "CASE_INSENSITIVE_ORDER"), (0, u "Ljava/util/Comparator;"), (181, u "valueOf"), (0, u "(C)Ljava/lang/String;"), (226, u "([C)V"), (4, .methodref 107 1016), (0, .nameAndType 1017 369), (0, u "canEncode"), (0, .methodref 107 1019), (0, .nameAndType 53 1020), (0, u "(C)[B"), (80, u "serialPersistentFields"), (0, u "[Ljava/io/ObjectStreamField;"), (0, .class_ 1104), (0, u "java/lang/String$CaseInsensitiveComparator"), (1, .class_ 1107), (0, u "java/io/Serializable"), (0, .class_ 1109), (0, u "java/lang/Comparable"), (0, .class_ 1111), (0, u "java/lang/constant/Constable"), (0, .class_ 1113), (0, u "java/lang/constant/ConstantDesc"), (2, u "serialVersionUID"), (0, u "J"), (3, u "REPL"), (0, u "C"), (2, u "LATIN1"), (1, u "UTF16")] 323

def k9m0 : Method := { name := "<init>", desc := "()V", sig := { parameters := [], returnType := none }, accessFlags := 1, code := none }
def k9c1 : Code := { maxStack := 5, maxLocals := 2, code := jdk_42_method_3_code, exceptionTable := #[], attributes := #[] }
def k9m1 : Method := { name := "<init>", desc := "([C)V", sig := { parameters := [(.array .char)], returnType := none }, accessFlags := 1, code := some k9c1 }
def k9c2 : Code := { maxStack := 4, maxLocals := 1, code := jdk_42_method_139_code, exceptionTable := #[], attributes := #[] }
def k9m2 : Method := { name := "valueOf", desc := "(C)Ljava/lang/String;", sig := { parameters := [.char], returnType := some (.object "java/lang/String") }, accessFlags := 9, code := some k9c2 }
def k9c3 : Code := { maxStack := 4, maxLocals := 6, code := jdk_42_method_149_code, exceptionTable := #[], attributes := #[] }
def k9m3 : Method := { name := "<init>", desc := "([CIILjava/lang/Void;)V", sig := { parameters := [(.array .char), .int, .int, (.object "java/lang/Void")], returnType := none }, accessFlags := 2, code := some k9c3 }
def k9c4 : Code := { maxStack := 2, maxLocals := 3, code := jdk_42_method_151_code, exceptionTable := #[], attributes := #[] }
def k9m4 : Method := { name := "<init>", desc := "([BB)V", sig := { parameters := [(.array .byte), .byte], returnType := none }, accessFlags := 0, code := some k9c4 }
/-- java/lang/String -/
def k9 : Class := { plain "java/lang/String" (some 0) with
  accessFlags := 49
  interfaces := #[5, 3, 6, 7, 8]
  cf := some (fileOf pool9 10 #[.nestMembers #[1103]] #[{ accessFlags := 1, nameIndex := 5, descriptorIndex := 6, attributes := #[] }, { accessFlags := 1, nameIndex := 5, descriptorIndex := 1010, attributes := #[] }, { accessFlags := 9, nameIndex := 782, descriptorIndex := 783, attributes := #[] }, { accessFlags := 2, nameIndex := 5, descriptorIndex := 29, attributes := #[] }, { accessFlags := 0, nameIndex := 5, descriptorIndex := 211, attributes := #[] }] 49 2 #[1106, 1108, 575, 1110, 1112] #[{ accessFlags := 18, nameIndex := 13, descriptorIndex := 14, attributes := #[] }, { accessFlags := 18, nameIndex := 17, descriptorIndex := 18, attributes := #[] }, { accessFlags := 2, nameIndex := 21, descriptorIndex := 22, attributes := #[] }, { accessFlags := 2, nameIndex := 25, descriptorIndex := 26, attributes := #[] }, { accessFlags := 26, nameIndex := 1116, descriptorIndex := 1117, attributes := #[] }, { accessFlags := 24, nameIndex := 40, descriptorIndex := 26, attributes := #[] }, { accessFlags := 26, nameIndex := 1101, descriptorIndex := 1102, attributes := #[] }, { accessFlags := 26, nameIndex := 1121, descriptorIndex := 1122, attributes := #[] }, { accessFlags := 25, nameIndex := 599, descriptorIndex := 600, attributes := #[] }, { accessFlags := 24, nameIndex := 1125, descriptorIndex := 18, attributes := #[] }, { accessFlags := 24, nameIndex := 1127, descriptorIndex := 18, attributes := #[] }])
  fields := #[{ name := "value", type := (.array .byte), accessFlags := 18, slot := 0, constantValue := 0 }, { name := "coder", type := .byte, accessFlags := 18, slot := 1, constantValue := 0 }, { name := "hash", type := .int, accessFlags := 2, slot := 2, constantValue := 0 }, { name := "hashIsZero", type := .boolean, accessFlags := 2, slot := 3, constantValue := 0 }, { name := "serialVersionUID", type := .long, accessFlags := 26, slot := 0, constantValue := 0 }, { name := "COMPACT_STRINGS", type := .boolean, accessFlags := 24, slot := 1, constantValue := 0 }, { name := "serialPersistentFields", type := (.array (.object "java/io/ObjectStreamField")), accessFlags := 26, slot := 2, constantValue := 0 }, { name := "REPL", type := .char, accessFlags := 26, slot := 3, constantValue := 0 }, { name := "CASE_INSENSITIVE_ORDER", type := (.object "java/util/Comparator"), accessFlags := 25, slot := 4, constantValue := 0 }, { name := "LATIN1", type := .byte, accessFlags := 24, slot := 5, constantValue := 0 }, { name := "UTF16", type := .byte, accessFlags := 24, slot := 6, constantValue := 0 }]
  methods := #[k9m0, k9m1, k9m2, k9m3, k9m4]
  instanceTypes := #[(.array .byte), .byte, .int, .boolean]
  staticTypes := #[.long, .boolean, (.array (.object "java/io/ObjectStreamField")), .char, (.object "java/util/Comparator"), .byte, .byte]
  resolved := Array.replicate 1451 none
  statics := some 0 }

def pool10 : Array CpInfo := pool [(6, .class_ 8), (1, u "java/lang/Object"), (0, u "<init>"), (0, u "()V"), (1, .class_ 14), (1, u "java/lang/StringUTF16"), (31, u "$assertionsDisabled"), (0, u "Z"), (13, u "HI_BYTE_SHIFT"), (0, u "I"), (2, u "LO_BYTE_SHIFT"), (49, .methodref 12 116), (0, .nameAndType 117 118), (0, u "compress"), (0, u "([CI[BII)I"), (3, u "([CII)[B"), (138, u "coderFromArrayLen"), (0, u "([BI)B"), (106, .class_ 371), (1, u "java/lang/StringUTF16$LinesSpliterator"), (58, u "MAX_LENGTH"), (196, .class_ 628), (0, u "java/lang/StringUTF16$CodePointsSpliterator"), (0, .class_ 630), (0, u "java/lang/StringUTF16$CharsSpliterator")] 4

def k10m0 : Method := { name := "<init>", desc := "()V", sig := { parameters := [], returnType := none }, accessFlags := 0, code := none }
def k10c1 : Code := { maxStack := 2, maxLocals := 2, code := jdk_52_method_15_code, exceptionTable := #[], attributes := #[] }
def k10m1 : Method := { name := "coderFromArrayLen", desc := "([BI)B", sig := { parameters := [(.array .byte), .int], returnType := some .byte }, accessFlags := 8, code := some k10c1 }
def k10c2 : Code := { maxStack := 5, maxLocals := 6, code := jdk_52_method_16_code, exceptionTable := #[], attributes := #[] }
def k10m2 : Method := { name := "compress", desc := "([CII)[B", sig := { parameters := [(.array .char), .int, .int], returnType := some (.array .byte) }, accessFlags := 9, code := some k10c2 }
def k10c3 : Code := { maxStack := 3, maxLocals := 7, code := jdk_52_method_21_code, exceptionTable := #[], attributes := #[] }
def k10m3 : Method := { name := "compress", desc := "([CI[BII)I", sig := { parameters := [(.array .char), .int, (.array .byte), .int, .int], returnType := some .int }, accessFlags := 9, code := some k10c3 }
/-- java/lang/StringUTF16 -/
def k10 : Class := { plain "java/lang/StringUTF16" (some 0) with
  accessFlags := 48
  interfaces := #[]
  cf := some (fileOf pool10 12 #[.nestMembers #[627, 629, 369]] #[{ accessFlags := 0, nameIndex := 9, descriptorIndex := 10, attributes := #[] }, { accessFlags := 8, nameIndex := 261, descriptorIndex := 262, attributes := #[] }, { accessFlags := 9, nameIndex := 117, descriptorIndex := 122, attributes := #[] }, { accessFlags := 9, nameIndex := 117, descriptorIndex := 118, attributes := #[] }] 48 6 #[] #[{ accessFlags := 26, nameIndex := 61, descriptorIndex := 62, attributes := #[] }, { accessFlags := 26, nameIndex := 65, descriptorIndex := 62, attributes := #[] }, { accessFlags := 24, nameIndex := 430, descriptorIndex := 62, attributes := #[] }, { accessFlags := 4120, nameIndex := 46, descriptorIndex := 47, attributes := #[] }])
  fields := #[{ name := "HI_BYTE_SHIFT", type := .int, accessFlags := 26, slot := 0, constantValue := 0 }, { name := "LO_BYTE_SHIFT", type := .int, accessFlags := 26, slot := 1, constantValue := 0 }, { name := "MAX_LENGTH", type := .int, accessFlags := 24, slot := 2, constantValue := 0 }, { name := "$assertionsDisabled", type := .boolean, accessFlags := 4120, slot := 3, constantValue := 0 }]
  methods := #[k10m0, k10m1, k10m2, k10m3]
  instanceTypes := #[]
  staticTypes := #[.int, .int, .int, .boolean]
  resolved := Array.replicate 635 none
  statics := none }

def pool11 : Array CpInfo := pool [(2, .class_ 4), (1, u "java/lang/Object"), (0, u "<init>"), (0, u "()V"), (35, .class_ 44), (1, u "java/util/Objects"), (0, u "requireNonNull"), (48, u "(Ljava/lang/Object;Ljava/lang/String;)Ljava/lang/Object;")] 89

def k11m0 : Method := { name := "<init>", desc := "()V", sig := { parameters := [], returnType := none }, accessFlags := 2, code := none }
def k11c1 : Code := { maxStack := 3, maxLocals := 2, code := jdk_31_method_11_code, exceptionTable := #[], attributes := #[] }
def k11m1 : Method := { name := "requireNonNull", desc := "(Ljava/lang/Object;Ljava/lang/String;)Ljava/lang/Object;", sig := { parameters := [(.object "java/lang/Object"), (.object "java/lang/String")], returnType := some (.object "java/lang/Object") }, accessFlags := 9, code := some k11c1 }
/-- java/util/Objects -/
def k11 : Class := { plain "java/util/Objects" (some 0) with
  accessFlags := 49
  interfaces := #[]
  cf := some (fileOf pool11 42 #[] #[{ accessFlags := 2, nameIndex := 5, descriptorIndex := 6, attributes := #[] }, { accessFlags := 9, nameIndex := 45, descriptorIndex := 94, attributes := #[] }] 49 2 #[] #[])
  fields := #[]
  methods := #[k11m0, k11m1]
  instanceTypes := #[]
  staticTypes := #[]
  resolved := Array.replicate 184 none
  statics := none }

def pool12 : Array CpInfo := pool [(4, .class_ 6), (1, u "java/lang/Object"), (0, u "<init>"), (0, u "()V"), (5, .class_ 16), (1, u "java/lang/StringLatin1"), (73, u "canEncode"), (14, u "(C)Z"), (15, u "$assertionsDisabled"), (0, u "Z"), (98, .class_ 223), (1, u "java/lang/StringLatin1$LinesSpliterator"), (156, u "toBytes"), (1, u "(C)[B"), (7, .class_ 391), (0, u "java/lang/StringLatin1$CharsSpliterator")] 3

def k12m0 : Method := { name := "<init>", desc := "()V", sig := { parameters := [], returnType := none }, accessFlags := 0, code := none }
def k12c1 : Code := { maxStack := 2, maxLocals := 1, code := jdk_43_method_3_code, exceptionTable := #[], attributes := #[] }
def k12m1 : Method := { name := "canEncode", desc := "(C)Z", sig := { parameters := [.char], returnType := some .boolean }, accessFlags := 9, code := some k12c1 }
def k12c2 : Code := { maxStack := 4, maxLocals := 1, code := jdk_43_method_46_code, exceptionTable := #[], attributes := #[] }
def k12m2 : Method := { name := "toBytes", desc := "(C)[B", sig := { parameters := [.char], returnType := some (.array .byte) }, accessFlags := 9, code := some k12c2 }
/-- java/lang/StringLatin1 -/
def k12 : Class := { plain "java/lang/StringLatin1" (some 0) with
  accessFlags := 48
  interfaces := #[]
  cf := some (fileOf pool12 14 #[.nestMembers #[390, 221]] #[{ accessFlags := 0, nameIndex := 7, descriptorIndex := 8, attributes := #[] }, { accessFlags := 9, nameIndex := 90, descriptorIndex := 105, attributes := #[] }, { accessFlags := 9, nameIndex := 380, descriptorIndex := 382, attributes := #[] }] 48 4 #[] #[{ accessFlags := 4120, nameIndex := 121, descriptorIndex := 122, attributes := #[] }])
  fields := #[{ name := "$assertionsDisabled", type := .boolean, accessFlags := 4120, slot := 0, constantValue := 0 }]
  methods := #[k12m0, k12m1, k12m2]
  instanceTypes := #[]
  staticTypes := #[.boolean]
  resolved := Array.replicate 395 none
  statics := none }

def pool13 : Array CpInfo := pool [(2, .class_ 4), (1, u "java/lang/Enum"), (0, u "name"), (0, u "Ljava/lang/String;"), (2, u "ordinal"), (0, u "I"), (1, .class_ 14), (1, u "java/lang/Object"), (4, u "hash"), (86, .class_ 108), (1, u "java/lang/Enum$EnumDesc"), (2, .class_ 112), (0, u "java/lang/constant/Constable"), (0, .class_ 114), (0, u "java/lang/Comparable"), (0, .class_ 116), (0, u "java/io/Serializable")] 87

/-- java/lang/Enum -/
def k13 : Class := { plain "java/lang/Enum" (some 0) with
  accessFlags := 1057
  interfaces := #[7, 3, 5]
  cf := some (fileOf pool13 2 #[.nestMembers #[106]] #[] 1057 12 #[111, 113, 115] #[{ accessFlags := 18, nameIndex := 5, descriptorIndex := 6, attributes := #[] }, { accessFlags := 18, nameIndex := 9, descriptorIndex := 10, attributes := #[] }, { accessFlags := 2, nameIndex := 19, descriptorIndex := 10, attributes := #[] }])
  fields := #[{ name := "name", type := (.object "java/lang/String"), accessFlags := 18, slot := 0, constantValue := 0 }, { name := "ordinal", type := .int, accessFlags := 18, slot := 1, constantValue := 0 }, { name := "hash", type := .int, accessFlags := 2, slot := 2, constantValue := 0 }]
  methods := #[]
  instanceTypes := #[(.object "java/lang/String"), .int, .int]
  staticTypes := #[]
  resolved := Array.replicate 204 none
  statics := none }

def pool14 : Array CpInfo := pool [(1, .class_ 2), (0, u "com/example/stemline/stemline/model/SourceKind"), (2, u "IDENTITY"), (0, u "Lcom/example/stemline/stemline/model/SourceKind;"), (2, u "TRANSFORMATION"), (2, u "AGGREGATION"), (2, u "$VALUES"), (0, u "[Lcom/example/stemline/stemline/model/SourceKind;"), (6, .class_ 25), (1, u "java/lang/Enum")] 32

/-- com/example/stemline/stemline/model/SourceKind -/
def k14 : Class := { plain "com/example/stemline/stemline/model/SourceKind" (some 13) with
  accessFlags := 16433
  interfaces := #[]
  cf := some (fileOf pool14 1 #[] #[] 16433 23 #[] #[{ accessFlags := 16409, nameIndex := 5, descriptorIndex := 6, attributes := #[] }, { accessFlags := 16409, nameIndex := 9, descriptorIndex := 6, attributes := #[] }, { accessFlags := 16409, nameIndex := 12, descriptorIndex := 6, attributes := #[] }, { accessFlags := 4122, nameIndex := 15, descriptorIndex := 16, attributes := #[] }])
  fields := #[{ name := "IDENTITY", type := (.object "com/example/stemline/stemline/model/SourceKind"), accessFlags := 16409, slot := 0, constantValue := 0 }, { name := "TRANSFORMATION", type := (.object "com/example/stemline/stemline/model/SourceKind"), accessFlags := 16409, slot := 1, constantValue := 0 }, { name := "AGGREGATION", type := (.object "com/example/stemline/stemline/model/SourceKind"), accessFlags := 16409, slot := 2, constantValue := 0 }, { name := "$VALUES", type := (.array (.object "com/example/stemline/stemline/model/SourceKind")), accessFlags := 4122, slot := 3, constantValue := 0 }]
  methods := #[]
  instanceTypes := #[(.object "java/lang/String"), .int, .int]
  staticTypes := #[(.object "com/example/stemline/stemline/model/SourceKind"), (.object "com/example/stemline/stemline/model/SourceKind"), (.object "com/example/stemline/stemline/model/SourceKind"), (.array (.object "com/example/stemline/stemline/model/SourceKind"))]
  resolved := Array.replicate 58 none
  statics := some 1 }

def pool15 : Array CpInfo := pool [(1, .methodref 2 3), (0, .class_ 4), (0, .nameAndType 5 6), (0, u "java/lang/Record"), (0, u "<init>"), (0, u "()V"), (0, .string 8), (0, u "column"), (0, .methodref 10 11), (0, .class_ 12), (0, .nameAndType 13 14), (0, u "java/util/Objects"), (0, u "requireNonNull"), (0, u "(Ljava/lang/Object;Ljava/lang/String;)Ljava/lang/Object;"), (0, .string 16), (0, u "kind"), (0, .fieldref 18 19), (0, .class_ 20), (0, .nameAndType 8 21), (0, u "com/example/stemline/stemline/model/ColumnSource"), (0, u "Lcom/example/stemline/stemline/model/TableColumn;"), (0, .fieldref 18 23), (0, .nameAndType 16 24), (0, u "Lcom/example/stemline/stemline/model/SourceKind;"), (0, .fieldref 18 26), (0, .nameAndType 27 28), (0, u "expression"), (0, u "Ljava/lang/String;"), (12, u "MAX_EXPRESSION_TERMS"), (0, u "I"), (2, u "(Lcom/example/stemline/stemline/model/TableColumn;Lcom/example/stemline/stemline/model/SourceKind;Ljava/lang/String;)V"), (6, u "()Lcom/example/stemline/stemline/model/TableColumn;")] 23

def k15c0 : Code := { maxStack := 2, maxLocals := 4, code := prog_40_method_1_code, exceptionTable := #[], attributes := #[] }
def k15m0 : Method := { name := "<init>", desc := "(Lcom/example/stemline/stemline/model/TableColumn;Lcom/example/stemline/stemline/model/SourceKind;Ljava/lang/String;)V", sig := { parameters := [(.object "com/example/stemline/stemline/model/TableColumn"), (.object "com/example/stemline/stemline/model/SourceKind"), (.object "java/lang/String")], returnType := none }, accessFlags := 1, code := some k15c0 }
def k15c1 : Code := { maxStack := 1, maxLocals := 1, code := prog_40_method_5_code, exceptionTable := #[], attributes := #[] }
def k15m1 : Method := { name := "column", desc := "()Lcom/example/stemline/stemline/model/TableColumn;", sig := { parameters := [], returnType := some (.object "com/example/stemline/stemline/model/TableColumn") }, accessFlags := 1, code := some k15c1 }
/-- com/example/stemline/stemline/model/ColumnSource -/
def k15 : Class := { plain "com/example/stemline/stemline/model/ColumnSource" (some 2) with
  accessFlags := 49
  interfaces := #[]
  cf := some (fileOf pool15 18 #[] #[{ accessFlags := 1, nameIndex := 5, descriptorIndex := 45, attributes := #[] }, { accessFlags := 1, nameIndex := 8, descriptorIndex := 52, attributes := #[] }] 49 2 #[] #[{ accessFlags := 18, nameIndex := 8, descriptorIndex := 21, attributes := #[] }, { accessFlags := 18, nameIndex := 16, descriptorIndex := 24, attributes := #[] }, { accessFlags := 18, nameIndex := 27, descriptorIndex := 28, attributes := #[] }, { accessFlags := 25, nameIndex := 41, descriptorIndex := 42, attributes := #[] }])
  fields := #[{ name := "column", type := (.object "com/example/stemline/stemline/model/TableColumn"), accessFlags := 18, slot := 0, constantValue := 0 }, { name := "kind", type := (.object "com/example/stemline/stemline/model/SourceKind"), accessFlags := 18, slot := 1, constantValue := 0 }, { name := "expression", type := (.object "java/lang/String"), accessFlags := 18, slot := 2, constantValue := 0 }, { name := "MAX_EXPRESSION_TERMS", type := .int, accessFlags := 25, slot := 0, constantValue := 0 }]
  methods := #[k15m0, k15m1]
  instanceTypes := #[(.object "com/example/stemline/stemline/model/TableColumn"), (.object "com/example/stemline/stemline/model/SourceKind"), (.object "java/lang/String")]
  staticTypes := #[.int]
  resolved := Array.replicate 76 none
  statics := none }

def pool16 : Array CpInfo := pool [(1, .methodref 2 3), (0, .class_ 4), (0, .nameAndType 5 6), (0, u "java/lang/Record"), (0, u "<init>"), (0, u "()V"), (0, .string 8), (0, u "target"), (0, .methodref 10 11), (0, .class_ 12), (0, .nameAndType 13 14), (0, u "java/util/Objects"), (0, u "requireNonNull"), (0, u "(Ljava/lang/Object;Ljava/lang/String;)Ljava/lang/Object;"), (0, .string 16), (0, u "file"), (0, .fieldref 18 19), (0, .class_ 20), (0, .nameAndType 21 22), (0, u "com/example/stemline/stemline/graph/Edge"), (0, u "source"), (0, u "Lcom/example/stemline/stemline/model/ColumnSource;"), (0, .fieldref 18 24), (0, .nameAndType 8 25), (0, u "Lcom/example/stemline/stemline/model/TableColumn;"), (0, .fieldref 18 27), (0, .nameAndType 16 28), (0, u "Ljava/lang/String;"), (0, .fieldref 18 30), (0, .nameAndType 31 32), (0, u "line"), (0, u "I"), (0, .methodref 34 35), (0, .class_ 36), (0, .nameAndType 37 38), (0, u "com/example/stemline/stemline/model/ColumnSource"), (0, u "column"), (0, u "()Lcom/example/stemline/stemline/model/TableColumn;"), (53, u "ORDER"), (0, u "Ljava/util/Comparator;"), (2, u "(Lcom/example/stemline/stemline/model/ColumnSource;Lcom/example/stemline/stemline/model/TableColumn;Ljava/lang/String;I)V"), (3, u "sourceColumn")] 75

def k16c0 : Code := { maxStack := 2, maxLocals := 5, code := prog_23_method_1_code, exceptionTable := #[], attributes := #[] }
def k16m0 : Method := { name := "<init>", desc := "(Lcom/example/stemline/stemline/model/ColumnSource;Lcom/example/stemline/stemline/model/TableColumn;Ljava/lang/String;I)V", sig := { parameters := [(.object "com/example/stemline/stemline/model/ColumnSource"), (.object "com/example/stemline/stemline/model/TableColumn"), (.object "java/lang/String"), .int], returnType := none }, accessFlags := 1, code := some k16c0 }
def k16c1 : Code := { maxStack := 1, maxLocals := 1, code := prog_23_method_2_code, exceptionTable := #[], attributes := #[] }
def k16m1 : Method := { name := "sourceColumn", desc := "()Lcom/example/stemline/stemline/model/TableColumn;", sig := { parameters := [], returnType := some (.object "com/example/stemline/stemline/model/TableColumn") }, accessFlags := 1, code := some k16c1 }
/-- com/example/stemline/stemline/graph/Edge -/
def k16 : Class := { plain "com/example/stemline/stemline/graph/Edge" (some 2) with
  accessFlags := 49
  interfaces := #[]
  cf := some (fileOf pool16 18 #[] #[{ accessFlags := 1, nameIndex := 5, descriptorIndex := 96, attributes := #[] }, { accessFlags := 1, nameIndex := 100, descriptorIndex := 38, attributes := #[] }] 49 2 #[] #[{ accessFlags := 18, nameIndex := 21, descriptorIndex := 22, attributes := #[] }, { accessFlags := 18, nameIndex := 8, descriptorIndex := 25, attributes := #[] }, { accessFlags := 18, nameIndex := 16, descriptorIndex := 28, attributes := #[] }, { accessFlags := 18, nameIndex := 31, descriptorIndex := 32, attributes := #[] }, { accessFlags := 25, nameIndex := 92, descriptorIndex := 93, attributes := #[] }])
  fields := #[{ name := "source", type := (.object "com/example/stemline/stemline/model/ColumnSource"), accessFlags := 18, slot := 0, constantValue := 0 }, { name := "target", type := (.object "com/example/stemline/stemline/model/TableColumn"), accessFlags := 18, slot := 1, constantValue := 0 }, { name := "file", type := (.object "java/lang/String"), accessFlags := 18, slot := 2, constantValue := 0 }, { name := "line", type := .int, accessFlags := 18, slot := 3, constantValue := 0 }, { name := "ORDER", type := (.object "java/util/Comparator"), accessFlags := 25, slot := 0, constantValue := 0 }]
  methods := #[k16m0, k16m1]
  instanceTypes := #[(.object "com/example/stemline/stemline/model/ColumnSource"), (.object "com/example/stemline/stemline/model/TableColumn"), (.object "java/lang/String"), .int]
  staticTypes := #[(.object "java/util/Comparator")]
  resolved := Array.replicate 176 none
  statics := none }

def pool17 : Array CpInfo := pool [(2, .class_ 4), (1, u "java/lang/Object"), (0, u "<init>"), (0, u "()V"), (17, .class_ 26), (1, u "jdk/internal/util/Preconditions"), (28, .class_ 56), (0, u "jdk/internal/util/Preconditions$4"), (57, .class_ 115), (0, u "jdk/internal/util/Preconditions$1"), (7, u "SIOOBE_FORMATTER"), (0, u "Ljava/util/function/BiFunction;"), (0, .class_ 126), (0, u "jdk/internal/util/Preconditions$2"), (3, u "AIOOBE_FORMATTER"), (0, .class_ 132), (0, u "jdk/internal/util/Preconditions$3"), (3, u "IOOBE_FORMATTER")] 57

def k17m0 : Method := { name := "<init>", desc := "()V", sig := { parameters := [], returnType := none }, accessFlags := 1, code := none }
/-- jdk/internal/util/Preconditions -/
def k17 : Class := { plain "jdk/internal/util/Preconditions" (some 0) with
  accessFlags := 33
  interfaces := #[]
  cf := some (fileOf pool17 24 #[.nestMembers #[55, 131, 125, 114]] #[{ accessFlags := 1, nameIndex := 5, descriptorIndex := 6, attributes := #[] }] 33 2 #[] #[{ accessFlags := 25, nameIndex := 123, descriptorIndex := 124, attributes := #[] }, { accessFlags := 25, nameIndex := 130, descriptorIndex := 124, attributes := #[] }, { accessFlags := 25, nameIndex := 136, descriptorIndex := 124, attributes := #[] }])
  fields := #[{ name := "SIOOBE_FORMATTER", type := (.object "java/util/function/BiFunction"), accessFlags := 25, slot := 0, constantValue := 0 }, { name := "AIOOBE_FORMATTER", type := (.object "java/util/function/BiFunction"), accessFlags := 25, slot := 1, constantValue := 0 }, { name := "IOOBE_FORMATTER", type := (.object "java/util/function/BiFunction"), accessFlags := 25, slot := 2, constantValue := 0 }]
  methods := #[k17m0]
  instanceTypes := #[]
  staticTypes := #[(.object "java/util/function/BiFunction"), (.object "java/util/function/BiFunction"), (.object "java/util/function/BiFunction")]
  resolved := Array.replicate 194 none
  statics := some 2 }

def pool18 : Array CpInfo := pool [(9, u "<init>"), (6, .class_ 18), (1, u "java/lang/Object"), (0, u "()V"), (1, .class_ 23), (1, u "jdk/internal/util/ArraysSupport"), (0, u "LOG2_ARRAY_LONG_INDEX_SCALE"), (0, u "I"), (2, u "U"), (0, u "Ljdk/internal/misc/Unsafe;"), (8, u "BIG_ENDIAN"), (0, u "Z"), (8, u "LOG2_BYTE_BIT_SIZE"), (4, u "LOG2_ARRAY_INT_INDEX_SCALE"), (54, u "JLA"), (0, u "Ljdk/internal/access/JavaLangAccess;"), (11, u "LOG2_ARRAY_BOOLEAN_INDEX_SCALE"), (9, u "LOG2_ARRAY_BYTE_INDEX_SCALE"), (5, u "LOG2_ARRAY_CHAR_INDEX_SCALE"), (5, u "LOG2_ARRAY_SHORT_INDEX_SCALE"), (18, u "LOG2_ARRAY_FLOAT_INDEX_SCALE"), (24, u "LOG2_ARRAY_DOUBLE_INDEX_SCALE"), (89, u "T_BOOLEAN"), (2, u "T_CHAR"), (1, u "T_FLOAT"), (1, u "T_DOUBLE"), (1, u "T_BYTE"), (1, u "T_SHORT"), (1, u "T_INT"), (1, u "T_LONG"), (1, u "SOFT_MAX_ARRAY_LENGTH")] 83

def k18m0 : Method := { name := "<init>", desc := "()V", sig := { parameters := [], returnType := none }, accessFlags := 2, code := none }
/-- jdk/internal/util/ArraysSupport -/
def k18 : Class := { plain "jdk/internal/util/ArraysSupport" (some 0) with
  accessFlags := 33
  interfaces := #[]
  cf := some (fileOf pool18 21 #[] #[{ accessFlags := 2, nameIndex := 9, descriptorIndex := 19, attributes := #[] }] 33 16 #[] #[{ accessFlags := 24, nameIndex := 28, descriptorIndex := 29, attributes := #[] }, { accessFlags := 26, nameIndex := 38, descriptorIndex := 39, attributes := #[] }, { accessFlags := 25, nameIndex := 121, descriptorIndex := 25, attributes := #[] }, { accessFlags := 25, nameIndex := 131, descriptorIndex := 25, attributes := #[] }, { accessFlags := 25, nameIndex := 137, descriptorIndex := 25, attributes := #[] }, { accessFlags := 25, nameIndex := 143, descriptorIndex := 25, attributes := #[] }, { accessFlags := 25, nameIndex := 53, descriptorIndex := 25, attributes := #[] }, { accessFlags := 25, nameIndex := 24, descriptorIndex := 25, attributes := #[] }, { accessFlags := 25, nameIndex := 162, descriptorIndex := 25, attributes := #[] }, { accessFlags := 25, nameIndex := 187, descriptorIndex := 25, attributes := #[] }, { accessFlags := 26, nameIndex := 48, descriptorIndex := 25, attributes := #[] }, { accessFlags := 25, nameIndex := 277, descriptorIndex := 25, attributes := #[] }, { accessFlags := 25, nameIndex := 280, descriptorIndex := 25, attributes := #[] }, { accessFlags := 25, nameIndex := 282, descriptorIndex := 25, attributes := #[] }, { accessFlags := 25, nameIndex := 284, descriptorIndex := 25, attributes := #[] }, { accessFlags := 25, nameIndex := 286, descriptorIndex := 25, attributes := #[] }, { accessFlags := 25, nameIndex := 288, descriptorIndex := 25, attributes := #[] }, { accessFlags := 25, nameIndex := 290, descriptorIndex := 25, attributes := #[] }, { accessFlags := 25, nameIndex := 292, descriptorIndex := 25, attributes := #[] }, { accessFlags := 26, nameIndex := 108, descriptorIndex := 109, attributes := #[] }, { accessFlags := 25, nameIndex := 294, descriptorIndex := 25, attributes := #[] }])
  fields := #[{ name := "U", type := (.object "jdk/internal/misc/Unsafe"), accessFlags := 24, slot := 0, constantValue := 0 }, { name := "BIG_ENDIAN", type := .boolean, accessFlags := 26, slot := 1, constantValue := 0 }, { name := "LOG2_ARRAY_BOOLEAN_INDEX_SCALE", type := .int, accessFlags := 25, slot := 2, constantValue := 0 }, { name := "LOG2_ARRAY_BYTE_INDEX_SCALE", type := .int, accessFlags := 25, slot := 3, constantValue := 0 }, { name := "LOG2_ARRAY_CHAR_INDEX_SCALE", type := .int, accessFlags := 25, slot := 4, constantValue := 0 }, { name := "LOG2_ARRAY_SHORT_INDEX_SCALE", type := .int, accessFlags := 25, slot := 5, constantValue := 0 }, { name := "LOG2_ARRAY_INT_INDEX_SCALE", type := .int, accessFlags := 25, slot := 6, constantValue := 0 }, { name := "LOG2_ARRAY_LONG_INDEX_SCALE", type := .int, accessFlags := 25, slot := 7, constantValue := 0 }, { name := "LOG2_ARRAY_FLOAT_INDEX_SCALE", type := .int, accessFlags := 25, slot := 8, constantValue := 0 }, { name := "LOG2_ARRAY_DOUBLE_INDEX_SCALE", type := .int, accessFlags := 25, slot := 9, constantValue := 0 }, { name := "LOG2_BYTE_BIT_SIZE", type := .int, accessFlags := 26, slot := 10, constantValue := 0 }, { name := "T_BOOLEAN", type := .int, accessFlags := 25, slot := 11, constantValue := 0 }, { name := "T_CHAR", type := .int, accessFlags := 25, slot := 12, constantValue := 0 }, { name := "T_FLOAT", type := .int, accessFlags := 25, slot := 13, constantValue := 0 }, { name := "T_DOUBLE", type := .int, accessFlags := 25, slot := 14, constantValue := 0 }, { name := "T_BYTE", type := .int, accessFlags := 25, slot := 15, constantValue := 0 }, { name := "T_SHORT", type := .int, accessFlags := 25, slot := 16, constantValue := 0 }, { name := "T_INT", type := .int, accessFlags := 25, slot := 17, constantValue := 0 }, { name := "T_LONG", type := .int, accessFlags := 25, slot := 18, constantValue := 0 }, { name := "JLA", type := (.object "jdk/internal/access/JavaLangAccess"), accessFlags := 26, slot := 19, constantValue := 0 }, { name := "SOFT_MAX_ARRAY_LENGTH", type := .int, accessFlags := 25, slot := 20, constantValue := 0 }]
  methods := #[k18m0]
  instanceTypes := #[]
  staticTypes := #[(.object "jdk/internal/misc/Unsafe"), .boolean, .int, .int, .int, .int, .int, .int, .int, .int, .int, .int, .int, .int, .int, .int, .int, .int, .int, (.object "jdk/internal/access/JavaLangAccess"), .int]
  resolved := Array.replicate 378 none
  statics := none }

def pool19 : Array CpInfo := pool [(1, u "java/lang/Cloneable"), (0, .class_ 1), (0, u "java/lang/Object"), (0, .class_ 3)] 3

/-- java/lang/Cloneable -/
def k19 : Class := { plain "java/lang/Cloneable" (some 0) with
  accessFlags := 1537
  interfaces := #[]
  cf := some (fileOf pool19 2 #[] #[] 1537 4 #[] #[])
  fields := #[]
  methods := #[]
  instanceTypes := #[]
  staticTypes := #[]
  resolved := Array.replicate 8 none
  statics := none }

/-- the primitive byte -/
def k20 : Class := { plain "byte" none with kind := .primitive 'B', accessFlags := 0x411 }
/-- [B -/
def k21 : Class := { plain "[B" (some 0) with kind := .array 20 .byte, interfaces := #[19, 5], accessFlags := 1041 }

/-- the primitive char -/
def k22 : Class := { plain "char" none with kind := .primitive 'C', accessFlags := 0x411 }
/-- [C -/
def k23 : Class := { plain "[C" (some 0) with kind := .array 22 .char, interfaces := #[19, 5], accessFlags := 1041 }

/-- the primitive int -/
def k24 : Class := { plain "int" none with kind := .primitive 'I', accessFlags := 0x411 }
/-- [I -/
def k25 : Class := { plain "[I" (some 0) with kind := .array 24 .int, interfaces := #[19, 5], accessFlags := 1041 }

def heap : Heap := #[{ cls := 9, slots := #[.long 0, .int 1, .null, .int 0, .null, .int 0, .int 0], vm := .statics 9 },
  { cls := 14, slots := #[.ref 4, .ref 3, .ref 5, .null], vm := .statics 14 },
  { cls := 17, slots := #[.null, .null, .null], vm := .statics 17 },
  { cls := 14, slots := #[.null, .int 0, .int 0], vm := .none },
  { cls := 14, slots := #[.null, .int 0, .int 0], vm := .none },
  { cls := 14, slots := #[.null, .int 0, .int 0], vm := .none }]
def classes : Array Class := #[k0, k1, k2, k3, k4, k5, k6, k7, k8, k9, k10, k11, k12, k13, k14, k15, k16, k17, k18, k19, k20, k21, k22, k23, k24, k25]
def interned : List (Array UInt16 × Addr) := []
def slotsUsed : Nat := 23
def theMethod : MethodId := ⟨1, 1⟩
def args0 : Array Value := #[.int 1, .int 2, .int 3, .int 4, .int 5, .int 6]
def aboutOver (below : List Frame) : State where
  vm := { classes := classes, interned := interned.toArray }
  heap := heap
  slotsUsed := slotsUsed
  threads := #[{ frames := .invoking theMethod args0 :: below }]
def below0 : List Frame := [.native { method := ⟨0, 0⟩, args := #[] }]
def about1 : State := aboutOver below0
def p0 : Program := .bare "" "" ""
def e0 : Env := launch0.env 0 0 0
theorem w_frames : about1.frames = Frame.invoking theMethod args0 :: below0 := rfl
set_option maxRecDepth 65536 in
theorem w_args : argsFit about1.vm theMethod args0 = true := by decide +kernel
set_option maxRecDepth 65536 in
theorem w_heap : heapFits about1 = true := by decide +kernel
set_option maxRecDepth 65536 in
theorem w_runnable : about1.curStatus? = some .runnable := by decide +kernel
set_option maxRecDepth 65536 in
theorem w_alone : about1.alone = true := by decide +kernel
set_option maxRecDepth 65536 in
theorem w_named : about1.methodNamed? x = some theMethod := by decide +kernel
set_option maxRecDepth 65536 in
theorem w_hears : about1.hears theMethod below0 = true := by decide +kernel
set_option maxRecDepth 65536 in
theorem w_ripe : about1.ripe theMethod args0 below0 = true := by decide +kernel
theorem w_running : about1.status = .running := rfl
set_option maxRecDepth 65536 in
theorem w_room : about1.hasRoom e0.platform room_1 = true :=
  launch0.hasRoom_least _ room_1 (by decide +kernel) (by decide +kernel) (by decide +kernel) (by decide +kernel) (by decide +kernel) (by decide +kernel)
theorem allAtoms_all (ts : List Jvm.Cond) (a : Array Jvm.Value) (st : Jvm.State) : (allAtoms ts).before a st = ts.all (fun c => c.before a st) := by
  induction ts with
  | nil => rfl
  | cons c t ih =>
    show (Jvm.Cond.and c (allAtoms t)).before a st = _
    rw [Jvm.Cond.before_and, ih, List.all_cons]
def words1 : List Jvm.Cond := Jvm.Cond.code x code maxLocals ret :: tables_1
/-- a 'code' word, met by the world's own term for the bytes: nothing is compared byte by byte -/
theorem code_word {y : MethodName} {bytes : ByteArray} {mx : Nat} {rt : Option FieldType} {a : Array Value} {s : State} {m : MethodId} {meth : Method} {c : Code} (h1 : s.methodNamed? y = some m) (h2 : s.vm.method? m = some meth) (h3 : meth.code = some c) (h4 : c.code = bytes)
    (h5 : (c.maxLocals == mx && c.exceptionTable.isEmpty && decide (c.maxStack ≤ mostOperands) && decide (meth.sig.returnType = rt) && !meth.locks && decide (parseMethodDescriptor y.desc = some meth.sig)) = true) : (Jvm.Cond.code y bytes mx rt).before a s = true := by
  simp only [Bool.and_eq_true, beq_iff_eq, Bool.not_eq_true', decide_eq_true_eq] at h5
  obtain ⟨⟨⟨⟨⟨g1, g2⟩, g3⟩, g4⟩, g5⟩, g6⟩ := h5
  simp [Cond.before, Cond.holds, Cond.value, h1, h2, h3, h4, g1, g2, g3, g4, g5, g6]
def isCode : Jvm.Cond → Bool
  | .code _ _ _ _ => true
  | _ => false
theorem all_split {L : List Jvm.Cond} {P : Jvm.Cond → Bool} (h1 : L.all (fun c => isCode c || P c) = true) (h2 : ∀ c ∈ L.filter isCode, P c = true) : L.all P = true := by
  refine List.all_eq_true.mpr fun c hc => ?_
  have h := List.all_eq_true.mp h1 c hc
  rcases Bool.eq_false_or_eq_true (isCode c) with hi | hi
  · exact h2 c (List.mem_filter.mpr ⟨hc, hi⟩)
  · simpa [hi] using h
set_option maxRecDepth 65536 in
theorem w_c0 : (Jvm.Cond.code x code maxLocals ret).before args0 about1 = true := code_word (m := ⟨1, 1⟩) (meth := k1m1) (c := k1c1) (by decide +kernel) rfl rfl rfl (by decide +kernel)
set_option maxRecDepth 65536 in
theorem w_c1 : (Jvm.Cond.code ({ cls := "java/lang/String", name := "<init>", desc := "([C)V" } : Jvm.MethodName) jdk_42_method_3_code (2 : Nat) (Option.none : Option Jvm.ClassFile.FieldType)).before args0 about1 = true := code_word (m := ⟨9, 1⟩) (meth := k9m1) (c := k9c1) (by decide +kernel) rfl rfl rfl (by decide +kernel)
set_option maxRecDepth 65536 in
theorem w_c2 : (Jvm.Cond.code ({ cls := "java/lang/String", name := "<init>", desc := "([CIILjava/lang/Void;)V" } : Jvm.MethodName) jdk_42_method_149_code (6 : Nat) (Option.none : Option Jvm.ClassFile.FieldType)).before args0 about1 = true := code_word (m := ⟨9, 3⟩) (meth := k9m3) (c := k9c3) (by decide +kernel) rfl rfl rfl (by decide +kernel)
set_option maxRecDepth 65536 in
theorem w_c3 : (Jvm.Cond.code ({ cls := "java/lang/Object", name := "<init>", desc := "()V" } : Jvm.MethodName) object_method_1_code (1 : Nat) (Option.none : Option Jvm.ClassFile.FieldType)).before args0 about1 = true := code_word (m := ⟨0, 0⟩) (meth := k0m0) (c := k0c0) (by decide +kernel) rfl rfl rfl (by decide +kernel)
set_option maxRecDepth 65536 in
theorem w_c4 : (Jvm.Cond.code ({ cls := "java/lang/StringUTF16", name := "compress", desc := "([CII)[B" } : Jvm.MethodName) jdk_52_method_16_code (6 : Nat) (Option.some (Jvm.ClassFile.FieldType.array Jvm.ClassFile.FieldType.byte))).before args0 about1 = true := code_word (m := ⟨10, 2⟩) (meth := k10m2) (c := k10c2) (by decide +kernel) rfl rfl rfl (by decide +kernel)
set_option maxRecDepth 65536 in
theorem w_c5 : (Jvm.Cond.code ({ cls := "java/lang/StringUTF16", name := "compress", desc := "([CI[BII)I" } : Jvm.MethodName) jdk_52_method_21_code (7 : Nat) (Option.some Jvm.ClassFile.FieldType.int)).before args0 about1 = true := code_word (m := ⟨10, 3⟩) (meth := k10m3) (c := k10c3) (by decide +kernel) rfl rfl rfl (by decide +kernel)
set_option maxRecDepth 65536 in
theorem w_c6 : (Jvm.Cond.code ({ cls := "java/lang/StringUTF16", name := "coderFromArrayLen", desc := "([BI)B" } : Jvm.MethodName) jdk_52_method_15_code (2 : Nat) (Option.some Jvm.ClassFile.FieldType.byte)).before args0 about1 = true := code_word (m := ⟨10, 1⟩) (meth := k10m1) (c := k10c1) (by decide +kernel) rfl rfl rfl (by decide +kernel)
set_option maxRecDepth 65536 in
theorem w_c7 : (Jvm.Cond.code ({ cls := "com/example/stemline/stemline/model/TableColumn", name := "<init>", desc := "(Ljava/lang/String;Ljava/lang/String;)V" } : Jvm.MethodName) prog_56_method_1_code (3 : Nat) (Option.none : Option Jvm.ClassFile.FieldType)).before args0 about1 = true := code_word (m := ⟨4, 0⟩) (meth := k4m0) (c := k4c0) (by decide +kernel) rfl rfl rfl (by decide +kernel)
set_option maxRecDepth 65536 in
theorem w_c8 : (Jvm.Cond.code ({ cls := "java/lang/Record", name := "<init>", desc := "()V" } : Jvm.MethodName) jdk_30_method_1_code (1 : Nat) (Option.none : Option Jvm.ClassFile.FieldType)).before args0 about1 = true := code_word (m := ⟨2, 0⟩) (meth := k2m0) (c := k2c0) (by decide +kernel) rfl rfl rfl (by decide +kernel)
set_option maxRecDepth 65536 in
theorem w_c9 : (Jvm.Cond.code ({ cls := "java/util/Objects", name := "requireNonNull", desc := "(Ljava/lang/Object;Ljava/lang/String;)Ljava/lang/Object;" } : Jvm.MethodName) jdk_31_method_11_code (2 : Nat) (Option.some (Jvm.ClassFile.FieldType.object "java/lang/Object"))).before args0 about1 = true := code_word (m := ⟨11, 1⟩) (meth := k11m1) (c := k11c1) (by decide +kernel) rfl rfl rfl (by decide +kernel)
set_option maxRecDepth 65536 in
theorem w_c10 : (Jvm.Cond.code ({ cls := "java/lang/String", name := "valueOf", desc := "(C)Ljava/lang/String;" } : Jvm.MethodName) jdk_42_method_139_code (1 : Nat) (Option.some (Jvm.ClassFile.FieldType.object "java/lang/String"))).before args0 about1 = true := code_word (m := ⟨9, 2⟩) (meth := k9m2) (c := k9c2) (by decide +kernel) rfl rfl rfl (by decide +kernel)
set_option maxRecDepth 65536 in
theorem w_c11 : (Jvm.Cond.code ({ cls := "java/lang/StringLatin1", name := "canEncode", desc := "(C)Z" } : Jvm.MethodName) jdk_43_method_3_code (1 : Nat) (Option.some Jvm.ClassFile.FieldType.boolean)).before args0 about1 = true := code_word (m := ⟨12, 1⟩) (meth := k12m1) (c := k12c1) (by decide +kernel) rfl rfl rfl (by decide +kernel)
set_option maxRecDepth 65536 in
theorem w_c12 : (Jvm.Cond.code ({ cls := "java/lang/StringLatin1", name := "toBytes", desc := "(C)[B" } : Jvm.MethodName) jdk_43_method_46_code (1 : Nat) (Option.some (Jvm.ClassFile.FieldType.array Jvm.ClassFile.FieldType.byte))).before args0 about1 = true := code_word (m := ⟨12, 2⟩) (meth := k12m2) (c := k12c2) (by decide +kernel) rfl rfl rfl (by decide +kernel)
set_option maxRecDepth 65536 in
theorem w_c13 : (Jvm.Cond.code ({ cls := "java/lang/String", name := "<init>", desc := "([BB)V" } : Jvm.MethodName) jdk_42_method_151_code (3 : Nat) (Option.none : Option Jvm.ClassFile.FieldType)).before args0 about1 = true := code_word (m := ⟨9, 4⟩) (meth := k9m4) (c := k9c4) (by decide +kernel) rfl rfl rfl (by decide +kernel)
set_option maxRecDepth 65536 in
theorem w_c14 : (Jvm.Cond.code ({ cls := "com/example/stemline/stemline/model/ColumnSource", name := "<init>", desc := "(Lcom/example/stemline/stemline/model/TableColumn;Lcom/example/stemline/stemline/model/SourceKind;Ljava/lang/String;)V" } : Jvm.MethodName) prog_40_method_1_code (4 : Nat) (Option.none : Option Jvm.ClassFile.FieldType)).before args0 about1 = true := code_word (m := ⟨15, 0⟩) (meth := k15m0) (c := k15c0) (by decide +kernel) rfl rfl rfl (by decide +kernel)
set_option maxRecDepth 65536 in
theorem w_c15 : (Jvm.Cond.code ({ cls := "com/example/stemline/stemline/graph/Edge", name := "<init>", desc := "(Lcom/example/stemline/stemline/model/ColumnSource;Lcom/example/stemline/stemline/model/TableColumn;Ljava/lang/String;I)V" } : Jvm.MethodName) prog_23_method_1_code (5 : Nat) (Option.none : Option Jvm.ClassFile.FieldType)).before args0 about1 = true := code_word (m := ⟨16, 0⟩) (meth := k16m0) (c := k16c0) (by decide +kernel) rfl rfl rfl (by decide +kernel)
set_option maxRecDepth 65536 in
theorem w_c16 : (Jvm.Cond.code ({ cls := "com/example/stemline/stemline/graph/Edge", name := "sourceColumn", desc := "()Lcom/example/stemline/stemline/model/TableColumn;" } : Jvm.MethodName) prog_23_method_2_code (1 : Nat) (Option.some (Jvm.ClassFile.FieldType.object "com/example/stemline/stemline/model/TableColumn"))).before args0 about1 = true := code_word (m := ⟨16, 1⟩) (meth := k16m1) (c := k16c1) (by decide +kernel) rfl rfl rfl (by decide +kernel)
set_option maxRecDepth 65536 in
theorem w_c17 : (Jvm.Cond.code ({ cls := "com/example/stemline/stemline/model/ColumnSource", name := "column", desc := "()Lcom/example/stemline/stemline/model/TableColumn;" } : Jvm.MethodName) prog_40_method_5_code (1 : Nat) (Option.some (Jvm.ClassFile.FieldType.object "com/example/stemline/stemline/model/TableColumn"))).before args0 about1 = true := code_word (m := ⟨15, 1⟩) (meth := k15m1) (c := k15c1) (by decide +kernel) rfl rfl rfl (by decide +kernel)
def codes1 : List Jvm.Cond := [Jvm.Cond.code x code maxLocals ret, Jvm.Cond.code ({ cls := "java/lang/String", name := "<init>", desc := "([C)V" } : Jvm.MethodName) jdk_42_method_3_code (2 : Nat) (Option.none : Option Jvm.ClassFile.FieldType), Jvm.Cond.code ({ cls := "java/lang/String", name := "<init>", desc := "([CIILjava/lang/Void;)V" } : Jvm.MethodName) jdk_42_method_149_code (6 : Nat) (Option.none : Option Jvm.ClassFile.FieldType), Jvm.Cond.code ({ cls := "java/lang/Object", name := "<init>", desc := "()V" } : Jvm.MethodName) object_method_1_code (1 : Nat) (Option.none : Option Jvm.ClassFile.FieldType), Jvm.Cond.code ({ cls := "java/lang/StringUTF16", name := "compress", desc := "([CII)[B" } : Jvm.MethodName) jdk_52_method_16_code (6 : Nat) (Option.some (Jvm.ClassFile.FieldType.array Jvm.ClassFile.FieldType.byte)), Jvm.Cond.code ({ cls := "java/lang/StringUTF16", name := "compress", desc := "([CI[BII)I" } : Jvm.MethodName) jdk_52_method_21_code (7 : Nat) (Option.some Jvm.ClassFile.FieldType.int), Jvm.Cond.code ({ cls := "java/lang/StringUTF16", name := "coderFromArrayLen", desc := "([BI)B" } : Jvm.MethodName) jdk_52_method_15_code (2 : Nat) (Option.some Jvm.ClassFile.FieldType.byte), Jvm.Cond.code ({ cls := "com/example/stemline/stemline/model/TableColumn", name := "<init>", desc := "(Ljava/lang/String;Ljava/lang/String;)V" } : Jvm.MethodName) prog_56_method_1_code (3 : Nat) (Option.none : Option Jvm.ClassFile.FieldType), Jvm.Cond.code ({ cls := "java/lang/Record", name := "<init>", desc := "()V" } : Jvm.MethodName) jdk_30_method_1_code (1 : Nat) (Option.none : Option Jvm.ClassFile.FieldType), Jvm.Cond.code ({ cls := "java/util/Objects", name := "requireNonNull", desc := "(Ljava/lang/Object;Ljava/lang/String;)Ljava/lang/Object;" } : Jvm.MethodName) jdk_31_method_11_code (2 : Nat) (Option.some (Jvm.ClassFile.FieldType.object "java/lang/Object")), Jvm.Cond.code ({ cls := "java/lang/String", name := "valueOf", desc := "(C)Ljava/lang/String;" } : Jvm.MethodName) jdk_42_method_139_code (1 : Nat) (Option.some (Jvm.ClassFile.FieldType.object "java/lang/String")), Jvm.Cond.code ({ cls := "java/lang/StringLatin1", name := "canEncode", desc := "(C)Z" } : Jvm.MethodName) jdk_43_method_3_code (1 : Nat) (Option.some Jvm.ClassFile.FieldType.boolean), Jvm.Cond.code ({ cls := "java/lang/StringLatin1", name := "toBytes", desc := "(C)[B" } : Jvm.MethodName) jdk_43_method_46_code (1 : Nat) (Option.some (Jvm.ClassFile.FieldType.array Jvm.ClassFile.FieldType.byte)), Jvm.Cond.code ({ cls := "java/lang/String", name := "<init>", desc := "([BB)V" } : Jvm.MethodName) jdk_42_method_151_code (3 : Nat) (Option.none : Option Jvm.ClassFile.FieldType), Jvm.Cond.code ({ cls := "com/example/stemline/stemline/model/ColumnSource", name := "<init>", desc := "(Lcom/example/stemline/stemline/model/TableColumn;Lcom/example/stemline/stemline/model/SourceKind;Ljava/lang/String;)V" } : Jvm.MethodName) prog_40_method_1_code (4 : Nat) (Option.none : Option Jvm.ClassFile.FieldType), Jvm.Cond.code ({ cls := "com/example/stemline/stemline/graph/Edge", name := "<init>", desc := "(Lcom/example/stemline/stemline/model/ColumnSource;Lcom/example/stemline/stemline/model/TableColumn;Ljava/lang/String;I)V" } : Jvm.MethodName) prog_23_method_1_code (5 : Nat) (Option.none : Option Jvm.ClassFile.FieldType), Jvm.Cond.code ({ cls := "com/example/stemline/stemline/graph/Edge", name := "sourceColumn", desc := "()Lcom/example/stemline/stemline/model/TableColumn;" } : Jvm.MethodName) prog_23_method_2_code (1 : Nat) (Option.some (Jvm.ClassFile.FieldType.object "com/example/stemline/stemline/model/TableColumn")), Jvm.Cond.code ({ cls := "com/example/stemline/stemline/model/ColumnSource", name := "column", desc := "()Lcom/example/stemline/stemline/model/TableColumn;" } : Jvm.MethodName) prog_40_method_5_code (1 : Nat) (Option.some (Jvm.ClassFile.FieldType.object "com/example/stemline/stemline/model/TableColumn"))]
set_option maxRecDepth 65536 in
theorem codes_eq : words1.filter isCode = codes1 := rfl
theorem w_codes : ∀ c ∈ words1.filter isCode, c.before args0 about1 = true := by
  rw [codes_eq]
  intro c hc
  simp only [codes1, List.mem_cons, List.not_mem_nil, or_false] at hc
  rcases hc with rfl | rfl | rfl | rfl | rfl | rfl | rfl | rfl | rfl | rfl | rfl | rfl | rfl | rfl | rfl | rfl | rfl | rfl
  · exact w_c0
  · exact w_c1
  · exact w_c2
  · exact w_c3
  · exact w_c4
  · exact w_c5
  · exact w_c6
  · exact w_c7
  · exact w_c8
  · exact w_c9
  · exact w_c10
  · exact w_c11
  · exact w_c12
  · exact w_c13
  · exact w_c14
  · exact w_c15
  · exact w_c16
  · exact w_c17
set_option maxRecDepth 65536 in
theorem w_t1 : (words1.take 24).all (fun c => isCode c || c.before args0 about1) = true := by decide +kernel
set_option maxRecDepth 65536 in
theorem w_t2 : ((words1.drop 24).take 24).all (fun c => isCode c || c.before args0 about1) = true := by decide +kernel
set_option maxRecDepth 65536 in
theorem w_t3 : (((words1.drop 24).drop 24).take 24).all (fun c => isCode c || c.before args0 about1) = true := by decide +kernel
set_option maxRecDepth 65536 in
theorem w_t4 : ((((words1.drop 24).drop 24).drop 24).take 24).all (fun c => isCode c || c.before args0 about1) = true := by decide +kernel
set_option maxRecDepth 65536 in
theorem w_t5 : ((((words1.drop 24).drop 24).drop 24).drop 24).all (fun c => isCode c || c.before args0 about1) = true := by decide +kernel
theorem w_tables : (allAtoms (Jvm.Cond.code x code maxLocals ret :: tables_1)).before args0 about1 = true := by
  rw [allAtoms_all]
  show words1.all (fun c => c.before args0 about1) = true
  refine all_split ?_ w_codes
  rw [← List.take_append_drop 24 words1, List.all_append, w_t1, ← List.take_append_drop 24 (words1.drop 24), List.all_append, w_t2, ← List.take_append_drop 24 ((words1.drop 24).drop 24), List.all_append, w_t3, ← List.take_append_drop 24 (((words1.drop 24).drop 24).drop 24), List.all_append, w_t4, w_t5]
  rfl
set_option maxRecDepth 65536 in
theorem w_rest : rest_1_c.before args0 about1 = true := by decide +kernel
set_option maxRecDepth 65536 in
theorem w_case : (Jvm.Cond.and given_1 narrow_1).before args0 about1 = true := by decide +kernel
theorem w_applies : (headSpec (Jvm.Cond.code x code maxLocals ret :: tables_1) room_1).applies x e0.platform about1 = true :=
  (Spec.applies_iff w_frames).mpr ⟨w_running, w_runnable, w_alone, w_named, w_hears, w_ripe, w_room, w_tables⟩
theorem atStart : AtStart classFile x code maxLocals ret World_1 tables_1 room_1 Calls_1 rest_1 Pre_1 launch0 p0 e0 about1 theMethod args0 below0 :=
  ⟨lists_1, trivial, launch0.admits_env _ _ _, launch0.least_env, fairChoices_fair.cas, fairChoices_fair.clock, w_frames, w_args, w_heap, w_applies, trivial, w_rest, w_case⟩
end start1
theorem witness_1 : WitnessClaimed_1 := ⟨start1.p0, start1.e0, start1.about1, start1.theMethod, start1.args0, start1.below0, start1.atStart⟩
end Jvm.Pilot.@@N@@
