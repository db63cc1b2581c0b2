import JvmDerived
import JvmDerived.Pilot.@@N@@Statement
import JvmDerived.Pilot.@@N@@Code
set_option linter.unusedVariables false
set_option linter.unusedSimpArgs false
@@BLOCK:NumsL.lean.txt@@
namespace Jvm.RoadKit
open Sem ClassFile Op Lib Jvm.Stand Jvm.Free Jvm.LawKit
section New
variable {p : Program} {l : Launch} {e : Env} {R : Room} {s : State} {m : MethodId} {args : Array Value} {below : List Frame} {meth : Method} {c : Code} {T : State} {locs : List Loc} {cells slots : Nat}
theorem retI (X : Stand p l e R s m args below meth c T locs cells slots) (hx : p.tables.exec = Jvm.exec) {pc : Nat} {Ls : Array Slot} {z : Int32} {rest : List Value} (hret : meth.sig.returnType = some .int) (hd : decode c.code pc = .ok (.ireturn, 1)) {fs : List Frame}
    (hl : ∀ (f : JFrame) (acts : List Action), f.method = m → f.locked = none → f.entered = [] → (doReturn e (T.setTop f) acts (some (.int z))).1 = T.setFrames fs) : Steps p.tables e below (T.setTop (mkF m pc Ls (.int z :: rest))) (T.setFrames fs) := by
  have hm' : T.vm.method? m = some meth := X.method'
  have hn : narrow .int (.int z) = .int z := rfl
  show Steps p.tables e below (T.setTop { method := m, pc := pc, locals := Ls, stack := _ :: rest, locked := none }) _
  jvm_step X.here [X.here.top, hx, hd, hm', hret, hn]
  first | (intro acts; rw [hl _ acts rfl rfl rfl]) | rw [hl _ _ rfl rfl rfl]
  exact Steps.refl _
end New
end Jvm.RoadKit
namespace Jvm.Pilot.@@N@@
open Jvm Jvm.ClassFile Sem Op Lib Jvm.Free Jvm.Stand Jvm.LawKit Jvm.RoadKit Bundle Jvm.Pilot.@@N@@.Jvm.D
theorem own_eqI {args : Array Value} {s : State} {a : Term} {k : Int32} (h : (Cond.eq a (.int k)).value args s none s [] = some true) : a.eval args s none [] s = some (.int k) := by
  obtain ⟨x, y, hx, hy, k1, k2⟩ := cmp_v (Or.inl h)
  obtain rfl : Value.int k = y := Option.some.inj ((Term.int_eval k).symm.trans hy)
  obtain ⟨z, rfl⟩ : ∃ z, x = .int z := k2
  have hz : z = k := gotT (Cond.eq_ints hx hy) h
  rw [hz] at hx; exact hx
theorem own_eqR {args : Array Value} {s : State} {a b : Term} {y : Addr} (hb : b.eval args s none [] s = some (.ref y)) (h : (Cond.eq a b).value args s none s [] = some true) : a.eval args s none [] s = some (.ref y) := by
  obtain ⟨x, y', hx, hy, k1, k2⟩ := cmp_v (Or.inl h)
  obtain rfl : Value.ref y = y' := Option.some.inj (hb.symm.trans hy)
  have hr : x.isRef = true := k2.2
  have hz : x = .ref y := gotT (eq_R hx hy hr rfl) h
  rw [hz] at hx; exact hx
theorem own_z {Z : State} {n0 : Nat} {h : Heap} (O : Old Z n0 h) : n0 ≤ h.size := O.1 ▸ O.2.1
theorem own_len {args : Array Value} {s : State} {t : Term} {x : Addr} {cl : Cell} {ty : FieldType} {n : Int32} (ev : t.eval args s none [] s = some (.ref x)) (A : Arr s s.heap x cl ty) (h : (Term.length t).eval args s none [] s = some (.int n)) : cl.slots.size < 2 ^ 31 ∧ cl.slots.size.toInt32 = n := by
  have ha : s.arrayAt? x = some cl := IntBox.arrayAt_of A.1 A.2.1 A.2.2
  simpa [Term.eval, ev, ha] using h
theorem own_elem {args : Array Value} {s : State} {t : Term} {x : Addr} {cl : Cell} {ty : FieldType} {j : Int32} {v : Value} {i : Nat} (ev : t.eval args s none [] s = some (.ref x)) (A : Arr s s.heap x cl ty) (h : (Term.elem t (.int j)).eval args s none [] s = some v) (hi : j.toNatClampNeg = i) : cl.slots[i]? = some v := by
  have q := (elem_in h ev (Term.int_eval j) A.1).2
  rw [hi] at q; exact q
def own_ws : List Jvm.Cond := tables_1 ++ jdkStatics_1
theorem gw (i : Nat) {d : Jvm.Cond} (h : own_ws[i]? = some d) : d ∈ own_ws := List.mem_of_getElem? h
theorem own_mod9 {y x : Int32} (h : y = x &&& 2147483647) : y % 9 = 0 ∨ y % 9 = 1 ∨ y % 9 = 2 ∨ y % 9 = 3 ∨ y % 9 = 4 ∨ y % 9 = 5 ∨ y % 9 = 6 ∨ y % 9 = 7 ∨ y % 9 = 8 := by
  subst h
  have h := Jvm.Kit.i32_mask x 2147483647 (k := 31) (by decide) (by decide +kernel)
  have hn : (9 : Int32).toInt = 9 := by decide +kernel
  have h2 : ((x &&& 2147483647) % 9).toInt = (x &&& 2147483647).toInt % 9 := by rw [Jvm.Kit.i32_rem_nonneg (by omega), hn]
  have e0 : (0 : Int32).toInt = 0 := by decide +kernel
  have e1 : (1 : Int32).toInt = 1 := by decide +kernel
  have e2 : (2 : Int32).toInt = 2 := by decide +kernel
  have e3 : (3 : Int32).toInt = 3 := by decide +kernel
  have e4 : (4 : Int32).toInt = 4 := by decide +kernel
  have e5 : (5 : Int32).toInt = 5 := by decide +kernel
  have e6 : (6 : Int32).toInt = 6 := by decide +kernel
  have e7 : (7 : Int32).toInt = 7 := by decide +kernel
  have e8 : (8 : Int32).toInt = 8 := by decide +kernel
  simp only [← Int32.toInt_inj, e0, e1, e2, e3, e4, e5, e6, e7, e8]
  omega
theorem own_nar255 {y x : Int32} (h : y = x &&& 255) : nar .char y = y := by subst h; exact i2c_mask x
theorem own_i2c255 {y x : Int32} (h : y = x &&& 255) : y.toUInt32.toUInt16.toUInt32.toInt32 = y := by subst h; exact i2c_mask x
theorem own_lt255 {y x : Int32} (h : y = x &&& 255) : ¬ ((255 : Int32) < y) := by
  subst h
  have h := Jvm.Kit.i32_mask x 255 (k := 8) (by decide) (by decide +kernel)
  have e : (255 : Int32).toInt = 255 := by decide +kernel
  rw [Int32.lt_iff_toInt_lt, e]; omega
theorem own_i2b2 {y x : Int32} (h : y = x.toInt8.toInt32) : y.toInt8.toInt32 = y := by
  subst h; rw [Int8.toInt8_toInt32]
theorem own_b255 {b y x : Int32} (hb : b = y.toInt8.toInt32) (h : y = x &&& 255) : b &&& 255 = y := by
  subst hb
  have h1 := Jvm.Kit.i32_mask (y.toInt8.toInt32) 255 (k := 8) (by decide) (by decide +kernel)
  have h2 := Jvm.Kit.i32_mask x 255 (k := 8) (by decide) (by decide +kernel)
  rw [← h] at h2
  have h3 : y.toInt8.toInt32.toInt = y.toInt.bmod 256 := by rw [Int8.toInt_toInt32, Int32.toInt_toInt8]
  rw [← Int32.toInt_inj, h1, h3, Int.bmod_def]
  split <;> omega
theorem own_beq {b c y z u v : Int32} (h1 : b = y.toInt8.toInt32) (h2 : c = z.toInt8.toInt32) (h : y = z) : b = c := by rw [h1, h2, h]
theorem own_bne {b c y z u v : Int32} (h1 : b = y.toInt8.toInt32) (h2 : c = z.toInt8.toInt32) (m1 : y = u &&& 255) (m2 : z = v &&& 255) (h : ¬ y = z) : ¬ b = c := fun q => h (by rw [← own_b255 h1 m1, ← own_b255 h2 m2, q])
theorem own_ltk {y x k : Int32} (h : y = x &&& 255) (hk : 255 < k.toInt) : y < k := by
  subst h
  have h := Jvm.Kit.i32_mask x 255 (k := 8) (by decide) (by decide +kernel)
  rw [Int32.lt_iff_toInt_lt]; omega
theorem own_pos {x : Int32} (h : ¬ (x < (1 : Int32))) : (0 : Int32) < x := by
  have e0 : (0 : Int32).toInt = 0 := by decide +kernel
  have e1 : (1 : Int32).toInt = 1 := by decide +kernel
  rw [Int32.lt_iff_toInt_lt] at *; omega
theorem own_npos {x : Int32} (h : x < (1 : Int32)) : ¬ ((0 : Int32) < x) := by
  have e0 : (0 : Int32).toInt = 0 := by decide +kernel
  have e1 : (1 : Int32).toInt = 1 := by decide +kernel
  rw [Int32.lt_iff_toInt_lt] at *; omega
theorem d1_0 : decode jdk_42_method_3_code 0 = .ok (.aload_n 0, 1) := by decide +kernel
theorem d1_1 : decode jdk_42_method_3_code 1 = .ok (.aload_n 1, 1) := by decide +kernel
theorem d1_2 : decode jdk_42_method_3_code 2 = .ok (.iconst 0, 1) := by decide +kernel
theorem d1_3 : decode jdk_42_method_3_code 3 = .ok (.aload_n 1, 1) := by decide +kernel
theorem d1_4 : decode jdk_42_method_3_code 4 = .ok (.arraylength, 1) := by decide +kernel
theorem d1_5 : decode jdk_42_method_3_code 5 = .ok (.aconst_null, 1) := by decide +kernel
theorem d1_6 : decode jdk_42_method_3_code 6 = .ok (.invokespecial 27, 3) := by decide +kernel
theorem d2_0 : decode jdk_42_method_149_code 0 = .ok (.aload_n 0, 1) := by decide +kernel
theorem d2_1 : decode jdk_42_method_149_code 1 = .ok (.invokespecial 1, 3) := by decide +kernel
theorem d2_4 : decode jdk_42_method_149_code 4 = .ok (.iload_n 3, 1) := by decide +kernel
theorem d2_5 : decode jdk_42_method_149_code 5 = .ok (.ifCond .ne 22, 3) := by decide +kernel
theorem d2_27 : decode jdk_42_method_149_code 27 = .ok (.getstatic 38, 3) := by decide +kernel
theorem d2_30 : decode jdk_42_method_149_code 30 = .ok (.ifCond .eq 28, 3) := by decide +kernel
theorem d2_33 : decode jdk_42_method_149_code 33 = .ok (.aload_n 1, 1) := by decide +kernel
theorem d2_34 : decode jdk_42_method_149_code 34 = .ok (.iload_n 2, 1) := by decide +kernel
theorem d2_35 : decode jdk_42_method_149_code 35 = .ok (.iload_n 3, 1) := by decide +kernel
theorem d2_36 : decode jdk_42_method_149_code 36 = .ok (.invokestatic 177, 3) := by decide +kernel
theorem d4_0 : decode jdk_52_method_16_code 0 = .ok (.iload_n 2, 1) := by decide +kernel
theorem d4_1 : decode jdk_52_method_16_code 1 = .ok (.newarray .byte, 2) := by decide +kernel
theorem d4_3 : decode jdk_52_method_16_code 3 = .ok (.astore_n 3, 1) := by decide +kernel
theorem d4_4 : decode jdk_52_method_16_code 4 = .ok (.aload_n 0, 1) := by decide +kernel
theorem d4_5 : decode jdk_52_method_16_code 5 = .ok (.iload_n 1, 1) := by decide +kernel
theorem d4_6 : decode jdk_52_method_16_code 6 = .ok (.aload_n 3, 1) := by decide +kernel
theorem d4_7 : decode jdk_52_method_16_code 7 = .ok (.iconst 0, 1) := by decide +kernel
theorem d4_8 : decode jdk_52_method_16_code 8 = .ok (.iload_n 2, 1) := by decide +kernel
theorem d4_9 : decode jdk_52_method_16_code 9 = .ok (.invokestatic 115, 3) := by decide +kernel
theorem d5_0 : decode jdk_52_method_21_code 0 = .ok (.iconst 0, 1) := by decide +kernel
theorem d5_1 : decode jdk_52_method_21_code 1 = .ok (.istore 5, 2) := by decide +kernel
theorem d5_3 : decode jdk_52_method_21_code 3 = .ok (.iload 5, 2) := by decide +kernel
theorem d5_5 : decode jdk_52_method_21_code 5 = .ok (.iload 4, 2) := by decide +kernel
theorem d5_7 : decode jdk_52_method_21_code 7 = .ok (.if_icmp .ge 37, 3) := by decide +kernel
theorem d5_10 : decode jdk_52_method_21_code 10 = .ok (.aload_n 0, 1) := by decide +kernel
theorem d5_11 : decode jdk_52_method_21_code 11 = .ok (.iload_n 1, 1) := by decide +kernel
theorem d5_12 : decode jdk_52_method_21_code 12 = .ok (.caload, 1) := by decide +kernel
theorem d5_13 : decode jdk_52_method_21_code 13 = .ok (.istore 6, 2) := by decide +kernel
theorem d5_15 : decode jdk_52_method_21_code 15 = .ok (.iload 6, 2) := by decide +kernel
theorem d5_17 : decode jdk_52_method_21_code 17 = .ok (.sipush 255, 3) := by decide +kernel
theorem d5_20 : decode jdk_52_method_21_code 20 = .ok (.if_icmp .le 6, 3) := by decide +kernel
theorem d5_26 : decode jdk_52_method_21_code 26 = .ok (.aload_n 2, 1) := by decide +kernel
theorem d5_27 : decode jdk_52_method_21_code 27 = .ok (.iload_n 3, 1) := by decide +kernel
theorem d5_28 : decode jdk_52_method_21_code 28 = .ok (.iload 6, 2) := by decide +kernel
theorem d5_30 : decode jdk_52_method_21_code 30 = .ok (.i2b, 1) := by decide +kernel
theorem d5_31 : decode jdk_52_method_21_code 31 = .ok (.bastore, 1) := by decide +kernel
theorem d5_32 : decode jdk_52_method_21_code 32 = .ok (.iinc 1 1, 3) := by decide +kernel
theorem d5_35 : decode jdk_52_method_21_code 35 = .ok (.iinc 3 1, 3) := by decide +kernel
theorem d5_38 : decode jdk_52_method_21_code 38 = .ok (.iinc 5 1, 3) := by decide +kernel
theorem d5_41 : decode jdk_52_method_21_code 41 = .ok (.goto (-38), 3) := by decide +kernel
theorem d5_44 : decode jdk_52_method_21_code 44 = .ok (.iload 4, 2) := by decide +kernel
theorem d5_46 : decode jdk_52_method_21_code 46 = .ok (.ireturn, 1) := by decide +kernel
abbrev M_0 : MethodName := ⟨"java/lang/StringUTF16", "compress", "([CI[BII)I"⟩
theorem pn_0 : plainName "java/lang/StringUTF16" = true := by first | (simp [plainName, overriddenIn]; done) | decide +kernel
theorem pd_0 : parseMethodDescriptor "([CI[BII)I" = some ⟨[(.array .char), .int, (.array .byte), .int, .int], some .int⟩ := by decide +kernel
theorem d4_12 : decode jdk_52_method_16_code 12 = .ok (.istore 4, 2) := by decide +kernel
theorem d4_14 : decode jdk_52_method_16_code 14 = .ok (.iload 4, 2) := by decide +kernel
theorem d4_16 : decode jdk_52_method_16_code 16 = .ok (.iload_n 2, 1) := by decide +kernel
theorem d4_17 : decode jdk_52_method_16_code 17 = .ok (.if_icmp .eq 40, 3) := by decide +kernel
theorem d4_57 : decode jdk_52_method_16_code 57 = .ok (.aload_n 3, 1) := by decide +kernel
theorem d4_58 : decode jdk_52_method_16_code 58 = .ok (.areturn, 1) := by decide +kernel
abbrev M_1 : MethodName := ⟨"java/lang/StringUTF16", "compress", "([CII)[B"⟩
theorem pd_1 : parseMethodDescriptor "([CII)[B" = some ⟨[(.array .char), .int, .int], some (.array .byte)⟩ := by decide +kernel
theorem d2_39 : decode jdk_42_method_149_code 39 = .ok (.astore 5, 2) := by decide +kernel
theorem d2_41 : decode jdk_42_method_149_code 41 = .ok (.aload_n 0, 1) := by decide +kernel
theorem d2_42 : decode jdk_42_method_149_code 42 = .ok (.aload 5, 2) := by decide +kernel
theorem d2_44 : decode jdk_42_method_149_code 44 = .ok (.iload_n 3, 1) := by decide +kernel
theorem d2_45 : decode jdk_42_method_149_code 45 = .ok (.invokestatic 47, 3) := by decide +kernel
theorem d6_0 : decode jdk_52_method_15_code 0 = .ok (.iload_n 1, 1) := by decide +kernel
theorem d6_1 : decode jdk_52_method_15_code 1 = .ok (.aload_n 0, 1) := by decide +kernel
theorem d6_2 : decode jdk_52_method_15_code 2 = .ok (.arraylength, 1) := by decide +kernel
theorem d6_3 : decode jdk_52_method_15_code 3 = .ok (.isub, 1) := by decide +kernel
theorem d6_4 : decode jdk_52_method_15_code 4 = .ok (.bipush 31, 2) := by decide +kernel
theorem d6_6 : decode jdk_52_method_15_code 6 = .ok (.iushr, 1) := by decide +kernel
theorem d6_7 : decode jdk_52_method_15_code 7 = .ok (.i2b, 1) := by decide +kernel
theorem d6_8 : decode jdk_52_method_15_code 8 = .ok (.ireturn, 1) := by decide +kernel
abbrev M_2 : MethodName := ⟨"java/lang/StringUTF16", "coderFromArrayLen", "([BI)B"⟩
theorem pd_2 : parseMethodDescriptor "([BI)B" = some ⟨[(.array .byte), .int], some .byte⟩ := by decide +kernel
theorem d2_48 : decode jdk_42_method_149_code 48 = .ok (.putfield 15, 3) := by decide +kernel
theorem d2_51 : decode jdk_42_method_149_code 51 = .ok (.aload_n 0, 1) := by decide +kernel
theorem d2_52 : decode jdk_42_method_149_code 52 = .ok (.aload 5, 2) := by decide +kernel
theorem d2_54 : decode jdk_42_method_149_code 54 = .ok (.putfield 9, 3) := by decide +kernel
theorem d2_57 : decode jdk_42_method_149_code 57 = .ok (.return_, 1) := by decide +kernel
abbrev M_3 : MethodName := ⟨"java/lang/String", "<init>", "([CIILjava/lang/Void;)V"⟩
theorem pn_1 : plainName "java/lang/String" = true := by first | (simp [plainName, overriddenIn]; done) | decide +kernel
theorem pd_3 : parseMethodDescriptor "([CIILjava/lang/Void;)V" = some ⟨[(.array .char), .int, .int, (.object "java/lang/Void")], none⟩ := by decide +kernel
theorem d1_9 : decode jdk_42_method_3_code 9 = .ok (.return_, 1) := by decide +kernel
abbrev M_4 : MethodName := ⟨"java/lang/String", "<init>", "([C)V"⟩
theorem pd_4 : parseMethodDescriptor "([C)V" = some ⟨[(.array .char)], none⟩ := by decide +kernel
theorem d7_0 : decode prog_7_method_1_code 0 = .ok (.aload_n 0, 1) := by decide +kernel
theorem d7_1 : decode prog_7_method_1_code 1 = .ok (.invokespecial 1, 3) := by decide +kernel
theorem d8_0 : decode jdk_30_method_1_code 0 = .ok (.aload_n 0, 1) := by decide +kernel
theorem d8_1 : decode jdk_30_method_1_code 1 = .ok (.invokespecial 1, 3) := by decide +kernel
theorem d8_4 : decode jdk_30_method_1_code 4 = .ok (.return_, 1) := by decide +kernel
abbrev M_5 : MethodName := ⟨"java/lang/Record", "<init>", "()V"⟩
theorem pn_2 : plainName "java/lang/Record" = true := by first | (simp [plainName, overriddenIn]; done) | decide +kernel
theorem pd_5 : parseMethodDescriptor "()V" = some ⟨[], none⟩ := by decide +kernel
theorem d7_4 : decode prog_7_method_1_code 4 = .ok (.aload_n 0, 1) := by decide +kernel
theorem d7_5 : decode prog_7_method_1_code 5 = .ok (.aload_n 1, 1) := by decide +kernel
theorem d7_6 : decode prog_7_method_1_code 6 = .ok (.putfield 7, 3) := by decide +kernel
theorem d7_9 : decode prog_7_method_1_code 9 = .ok (.aload_n 0, 1) := by decide +kernel
theorem d7_10 : decode prog_7_method_1_code 10 = .ok (.aload_n 2, 1) := by decide +kernel
theorem d7_11 : decode prog_7_method_1_code 11 = .ok (.putfield 13, 3) := by decide +kernel
theorem d7_14 : decode prog_7_method_1_code 14 = .ok (.aload_n 0, 1) := by decide +kernel
theorem d7_15 : decode prog_7_method_1_code 15 = .ok (.iload_n 3, 1) := by decide +kernel
theorem d7_16 : decode prog_7_method_1_code 16 = .ok (.putfield 16, 3) := by decide +kernel
theorem d7_19 : decode prog_7_method_1_code 19 = .ok (.aload_n 0, 1) := by decide +kernel
theorem d7_20 : decode prog_7_method_1_code 20 = .ok (.aload 4, 2) := by decide +kernel
theorem d7_22 : decode prog_7_method_1_code 22 = .ok (.putfield 20, 3) := by decide +kernel
theorem d7_25 : decode prog_7_method_1_code 25 = .ok (.aload_n 0, 1) := by decide +kernel
theorem d7_26 : decode prog_7_method_1_code 26 = .ok (.iload 5, 2) := by decide +kernel
theorem d7_28 : decode prog_7_method_1_code 28 = .ok (.putfield 24, 3) := by decide +kernel
theorem d7_31 : decode prog_7_method_1_code 31 = .ok (.aload_n 0, 1) := by decide +kernel
theorem d7_32 : decode prog_7_method_1_code 32 = .ok (.iload 6, 2) := by decide +kernel
theorem d7_34 : decode prog_7_method_1_code 34 = .ok (.putfield 28, 3) := by decide +kernel
theorem d7_37 : decode prog_7_method_1_code 37 = .ok (.aload_n 0, 1) := by decide +kernel
theorem d7_38 : decode prog_7_method_1_code 38 = .ok (.iload 7, 2) := by decide +kernel
theorem d7_40 : decode prog_7_method_1_code 40 = .ok (.putfield 31, 3) := by decide +kernel
theorem d7_43 : decode prog_7_method_1_code 43 = .ok (.return_, 1) := by decide +kernel
abbrev M_6 : MethodName := ⟨"com/example/railspan/railspan/board/Route", "<init>", "(Ljava/lang/String;Ljava/lang/String;ILcom/example/railspan/railspan/board/Colour;ZII)V"⟩
theorem pn_3 : plainName "com/example/railspan/railspan/board/Route" = true := by first | (simp [plainName, overriddenIn]; done) | decide +kernel
theorem pd_6 : parseMethodDescriptor "(Ljava/lang/String;Ljava/lang/String;ILcom/example/railspan/railspan/board/Colour;ZII)V" = some ⟨[(.object "java/lang/String"), (.object "java/lang/String"), .int, (.object "com/example/railspan/railspan/board/Colour"), .boolean, .int, .int], none⟩ := by decide +kernel
theorem d9_0 : decode prog_7_method_3_code 0 = .ok (.aload_n 0, 1) := by decide +kernel
theorem d9_1 : decode prog_7_method_3_code 1 = .ok (.getfield 28, 3) := by decide +kernel
theorem d9_4 : decode prog_7_method_3_code 4 = .ok (.ifCond .le 7, 3) := by decide +kernel
theorem d9_11 : decode prog_7_method_3_code 11 = .ok (.iconst 0, 1) := by decide +kernel
theorem d9_12 : decode prog_7_method_3_code 12 = .ok (.ireturn, 1) := by decide +kernel
abbrev M_7 : MethodName := ⟨"com/example/railspan/railspan/board/Route", "isFerry", "()Z"⟩
theorem pd_7 : parseMethodDescriptor "()Z" = some ⟨[], some .boolean⟩ := by decide +kernel
theorem d9_7 : decode prog_7_method_3_code 7 = .ok (.iconst 1, 1) := by decide +kernel
theorem d9_8 : decode prog_7_method_3_code 8 = .ok (.goto 4, 3) := by decide +kernel
theorem pn_4 : plainName "com/example/railspan/railspan/board/RouteIsFerryPinLaw" = true := by first | (simp [plainName, overriddenIn]; done) | decide +kernel
theorem ef_rm5_5 (m : MethodId) (x0 : Addr) (x2 : Addr) : entryFrame m #[(.ref x0), (.int (0 : Int32)), (.ref x2), (.int (0 : Int32)), (.int (2 : Int32))] 7 = mkF m 0 #[.val (.ref x0), .val (.int (0 : Int32)), .val (.ref x2), .val (.int (0 : Int32)), .val (.int (2 : Int32)), .unset, .unset] [] := by first | (simp [entryFrame, mkF, argsToLocals, Value.category]; done) | rfl
def Q5_5 (Z : State) (a1 : Addr) (a2 : Addr) (p3 : Int32) (p4 : Int32) (k5 : ClassId) (k10 : ClassId) (h0 : Heap) (n0 : Nat) (v : Option Value) (h : Heap) (L : List Loc) : Prop := (∃ (i20 : Int32) (i9 : Int32), i9 = (p3.toInt8.toInt32) ∧ i20 = (p4.toInt8.toInt32) ∧ v = some (.int (2 : Int32)) ∧ Fr n0 L ∧ Keep h0 h [a2] ∧ Exa Z h a2 "[B" ∧ Arv Z h a2 k10 .byte (2 : Int32) [(.int i9), (.int i20)] (.int (0 : Int32)))
set_option maxRecDepth 65536 in
set_option maxHeartbeats 40000000 in
theorem rm5_5 (l : Launch) (Z : State) (a0 : Array Value) (hw : ∀ d ∈ own_ws, d.before a0 Z = true) (ws : List Jvm.Cond) (a1 : Addr) (a2 : Addr) (p3 : Int32) (p4 : Int32) (k5 : ClassId) (k10 : ClassId) (h0 : Heap) (n0 : Nat) (O0 : Old Z n0 h0) (V6 : Arv Z h0 a1 k5 .char (2 : Int32) [(.int p3), (.int p4)] (.int (0 : Int32))) (hk8 : ¬ ((255 : Int32) < p3)) (V11 : Arv Z h0 a2 k10 .byte (2 : Int32) [] (.int (0 : Int32))) (g_a2 : n0 ≤ a2) (E_15 : Exa Z h0 a2 "[B") (hne16 : a1 ≠ a2) (hk19 : ¬ ((255 : Int32) < p4)) :
    MetFree l M_0 (head1 (Jvm.Cond.code M_0 jdk_52_method_21_code 7 (some .int) :: ws) ({ frames := 0, cells := 0, slots := 0, locals := 0 } : Room)) (fun a U => a = #[(.ref a1), (.int (0 : Int32)), (.ref a2), (.int (0 : Int32)), (.int (2 : Int32))] ∧ Z.Warmed39 U.vm ∧ U.heap = h0) (fun _ _ _ _ _ => True) (fun _ U o U' => ∃ v L, o = .returned v ∧ Q5_5 Z a1 a2 p3 p4 k5 k10 h0 n0 v U'.heap L ∧ FrameEnd U o U' L ({ frames := 0, cells := 0, slots := 0, locals := 0 } : Room).cells ({ frames := 0, cells := 0, slots := 0, locals := 0 } : Room).slots) := by
  refine MetFree.of_bodySF (plainFor_of_name pn_0) hisR ?_
  intro p e s m args below meth c s₁ Bd hml0 hP hK
  obtain ⟨rfl, hZ, hh⟩ := hP
  have hx := Bd.exec
  have hby := Bd.bytes
  have hml : c.maxLocals = 7 := hml0
  have hown : s.vm.findClass "java/lang/StringUTF16" = some m.cls := findClass_of_methodNamed Bd.named
  have hnm := (name_of_methodNamed Bd.named Bd.method).1
  have X0 : Stand p l e ({ frames := 0, cells := 0, slots := 0, locals := 0 } : Room) s m #[(.ref a1), (.int (0 : Int32)), (.ref a2), (.int (0 : Int32)), (.int (2 : Int32))] below meth c s₁ [] 0 0 := Stand.of_body Bd
  have e0 : s₁.heap = h0 := by rw [← hh, Bd.state]; rfl
  have N0 := Fr.nil n0
  have pre0 : ∀ t, Steps p.tables e below (s₁.setTop (mkF m 0 #[.val (.ref a1), .val (.int (0 : Int32)), .val (.ref a2), .val (.int (0 : Int32)), .val (.int (2 : Int32)), .unset, .unset] [])) t → Steps p.tables e below (s₁.setTop (entryFrame m #[(.ref a1), (.int (0 : Int32)), (.ref a2), (.int (0 : Int32)), (.int (2 : Int32))] 7)) t := fun t k => castTop (ef_rm5_5 m a1 a2) k
  obtain ⟨cl7, Ar7, -, Sz7, -, Hh7, -⟩ := id V6
  have hin7 : ¬ ((0 : Int32) < 0 ∨ cl7.slots.size ≤ ((0 : Int32)).toNatClampNeg) := inb_of Sz7 ⟨by decide +kernel, by decide +kernel⟩
  have hat7 : cl7.slots[((0 : Int32)).toNatClampNeg]? = some (.int p3) := Has.at Hh7 hin7 rfl
  obtain ⟨i9, hi9⟩ : ∃ z, z = (p3.toInt8.toInt32) := ⟨_, rfl⟩
  have Vp12 : Arv Z h0 a2 k10 .byte (2 : Int32) [(.int (0 : Int32))] (.int (0 : Int32)) := V11.pad (pad_rep [] (.int (0 : Int32)) 1)
  obtain ⟨cl13, Ar13, qk13, Sz13, Nn13, Hh13, Gg13⟩ := id Vp12
  have hin13 : ¬ ((0 : Int32) < 0 ∨ cl13.slots.size ≤ ((0 : Int32)).toNatClampNeg) := inb_of Sz13 ⟨by decide +kernel, by decide +kernel⟩
  obtain ⟨T14, h14, X14, e14, W14, st14⟩ := stB X0 hx hZ e0 Ar13 (j := (0 : Int32)) hin13 (g := (mkF m 31 #[.val (.ref a1), .val (.int (0 : Int32)), .val (.ref a2), .val (.int (0 : Int32)), .val (.int (2 : Int32)), .val (.int (0 : Int32)), .val (.int p3)] [(.int i9), (.int (0 : Int32)), (.ref a2)])) rfl rfl (hb hby d5_31)
  rw [show nar .byte i9 = i9 from (own_i2b2 hi9 : (i9.toInt8.toInt32) = i9)] at W14
  have O14 : Old Z n0 h14 := O0.wr W14 g_a2
  have V14 : Arv Z h14 a2 k10 .byte (2 : Int32) [(.int i9)] (.int (0 : Int32)) := Arv.set Ar13 qk13 Sz13 Nn13 Hh13 Gg13 ((own_i2b2 hi9 : (i9.toInt8.toInt32) = i9) ▸ fits_nar_byte _) W14 0 rfl (Nat.le_of_ble_eq_true rfl)
  have N14 := Fr.snoc X14 N0 g_a2
  have f17 : Arv Z h14 a1 k5 .char (2 : Int32) [(.int p3), (.int p4)] (.int (0 : Int32)) := (V6.other W14 hne16)
  obtain ⟨cl18, Ar18, -, Sz18, -, Hh18, -⟩ := id f17
  have hin18 : ¬ ((1 : Int32) < 0 ∨ cl18.slots.size ≤ ((1 : Int32)).toNatClampNeg) := inb_of Sz18 ⟨by decide +kernel, by decide +kernel⟩
  have hat18 : cl18.slots[((1 : Int32)).toNatClampNeg]? = some (.int p4) := Has.at Hh18 hin18 rfl
  obtain ⟨i20, hi20⟩ : ∃ z, z = (p4.toInt8.toInt32) := ⟨_, rfl⟩
  have Vp21 : Arv Z h14 a2 k10 .byte (2 : Int32) [(.int i9), (.int (0 : Int32))] (.int (0 : Int32)) := V14.pad (pad_rep [(.int i9)] (.int (0 : Int32)) 1)
  obtain ⟨cl22, Ar22, qk22, Sz22, Nn22, Hh22, Gg22⟩ := id Vp21
  have hin22 : ¬ ((1 : Int32) < 0 ∨ cl22.slots.size ≤ ((1 : Int32)).toNatClampNeg) := inb_of Sz22 ⟨by decide +kernel, by decide +kernel⟩
  obtain ⟨T23, h23, X23, e23, W23, st23⟩ := stB X14 hx hZ e14 Ar22 (j := (1 : Int32)) hin22 (g := (mkF m 31 #[.val (.ref a1), .val (.int (1 : Int32)), .val (.ref a2), .val (.int (1 : Int32)), .val (.int (2 : Int32)), .val (.int (1 : Int32)), .val (.int p4)] [(.int i20), (.int (1 : Int32)), (.ref a2)])) rfl rfl (hb hby d5_31)
  rw [show nar .byte i20 = i20 from (own_i2b2 hi20 : (i20.toInt8.toInt32) = i20)] at W23
  have O23 : Old Z n0 h23 := O14.wr W23 g_a2
  have V23 : Arv Z h23 a2 k10 .byte (2 : Int32) [(.int i9), (.int i20)] (.int (0 : Int32)) := Arv.set Ar22 qk22 Sz22 Nn22 Hh22 Gg22 ((own_i2b2 hi20 : (i20.toInt8.toInt32) = i20) ▸ fits_nar_byte _) W23 1 rfl (Nat.le_of_ble_eq_true rfl)
  have N23 := Fr.snoc X23 N14 g_a2
  obtain ⟨fs, hr, hrun, hended, hW, hsame⟩ := X23.leave (v := some (.int (2 : Int32))) (fun h => by rw [Bd.returns] at h; cases h)
  have f24 : Exa Z h23 a2 "[B" := (Exa.wr W23 (Exa.wr W14 E_15))
  refine ⟨_, _, pre0 _ ?_, hrun, hended, _, _, rfl, ?_, ⟨_, rfl⟩, hW, hsame.mono (by decide) (by decide)⟩
  · show Steps p.tables e below (s₁.setTop (mkF m 0 #[.val (.ref a1), .val (.int (0 : Int32)), .val (.ref a2), .val (.int (0 : Int32)), .val (.int (2 : Int32)), .unset, .unset] [])) _
    refine XS.iconst X0.here hx rfl (hb hby d5_0) ?_
    show Steps p.tables e below (s₁.setTop (mkF m 1 #[.val (.ref a1), .val (.int (0 : Int32)), .val (.ref a2), .val (.int (0 : Int32)), .val (.int (2 : Int32)), .unset, .unset] [(.int (0 : Int32))])) _
    refine XS.istore X0.here hx rfl (hb hby d5_1) rfl (l' := #[.val (.ref a1), .val (.int (0 : Int32)), .val (.ref a2), .val (.int (0 : Int32)), .val (.int (2 : Int32)), .val (.int (0 : Int32)), .unset]) rfl ?_
    show Steps p.tables e below (s₁.setTop (mkF m 3 #[.val (.ref a1), .val (.int (0 : Int32)), .val (.ref a2), .val (.int (0 : Int32)), .val (.int (2 : Int32)), .val (.int (0 : Int32)), .unset] [])) _
    refine XS.iload X0.here hx rfl (hb hby d5_3) rfl ?_
    show Steps p.tables e below (s₁.setTop (mkF m 5 #[.val (.ref a1), .val (.int (0 : Int32)), .val (.ref a2), .val (.int (0 : Int32)), .val (.int (2 : Int32)), .val (.int (0 : Int32)), .unset] [(.int (0 : Int32))])) _
    refine XS.iload X0.here hx rfl (hb hby d5_5) rfl ?_
    show Steps p.tables e below (s₁.setTop (mkF m 7 #[.val (.ref a1), .val (.int (0 : Int32)), .val (.ref a2), .val (.int (0 : Int32)), .val (.int (2 : Int32)), .val (.int (0 : Int32)), .unset] [(.int (2 : Int32)), (.int (0 : Int32))])) _
    refine XS.icmpNo X0.here hx rfl (hb hby d5_7) rfl (tlt (by decide +kernel : (0 : Int32) < (2 : Int32))).2.1 ?_
    show Steps p.tables e below (s₁.setTop (mkF m 10 #[.val (.ref a1), .val (.int (0 : Int32)), .val (.ref a2), .val (.int (0 : Int32)), .val (.int (2 : Int32)), .val (.int (0 : Int32)), .unset] [])) _
    refine XS.aloadN X0.here hx rfl (hb hby d5_10) rfl rfl ?_
    show Steps p.tables e below (s₁.setTop (mkF m 11 #[.val (.ref a1), .val (.int (0 : Int32)), .val (.ref a2), .val (.int (0 : Int32)), .val (.int (2 : Int32)), .val (.int (0 : Int32)), .unset] [(.ref a1)])) _
    refine XS.iloadN X0.here hx rfl (hb hby d5_11) rfl ?_
    show Steps p.tables e below (s₁.setTop (mkF m 12 #[.val (.ref a1), .val (.int (0 : Int32)), .val (.ref a2), .val (.int (0 : Int32)), .val (.int (2 : Int32)), .val (.int (0 : Int32)), .unset] [(.int (0 : Int32)), (.ref a1)])) _
    refine X0.caload hx (j := (0 : Int32)) (v := (.int p3)) (by rw [e0]; exact Ar7.1) (State.isArrayOf_alike hZ.alike Ar7.2.1) Ar7.2.2 hin7 hat7 (g := (mkF m 12 #[.val (.ref a1), .val (.int (0 : Int32)), .val (.ref a2), .val (.int (0 : Int32)), .val (.int (2 : Int32)), .val (.int (0 : Int32)), .unset] [(.int (0 : Int32)), (.ref a1)])) rfl rfl (hb hby d5_12) _ ?_
    show Steps p.tables e below (s₁.setTop (mkF m 13 #[.val (.ref a1), .val (.int (0 : Int32)), .val (.ref a2), .val (.int (0 : Int32)), .val (.int (2 : Int32)), .val (.int (0 : Int32)), .unset] [(.int p3)])) _
    refine XS.istore X0.here hx rfl (hb hby d5_13) rfl (l' := #[.val (.ref a1), .val (.int (0 : Int32)), .val (.ref a2), .val (.int (0 : Int32)), .val (.int (2 : Int32)), .val (.int (0 : Int32)), .val (.int p3)]) rfl ?_
    show Steps p.tables e below (s₁.setTop (mkF m 15 #[.val (.ref a1), .val (.int (0 : Int32)), .val (.ref a2), .val (.int (0 : Int32)), .val (.int (2 : Int32)), .val (.int (0 : Int32)), .val (.int p3)] [])) _
    refine XS.iload X0.here hx rfl (hb hby d5_15) rfl ?_
    show Steps p.tables e below (s₁.setTop (mkF m 17 #[.val (.ref a1), .val (.int (0 : Int32)), .val (.ref a2), .val (.int (0 : Int32)), .val (.int (2 : Int32)), .val (.int (0 : Int32)), .val (.int p3)] [(.int p3)])) _
    refine XS.sipush X0.here hx rfl (hb hby d5_17) ?_
    show Steps p.tables e below (s₁.setTop (mkF m 20 #[.val (.ref a1), .val (.int (0 : Int32)), .val (.ref a2), .val (.int (0 : Int32)), .val (.int (2 : Int32)), .val (.int (0 : Int32)), .val (.int p3)] [(.int (255 : Int32)), (.int p3)])) _
    refine XS.icmpYes X0.here hx rfl (pc0 := 20) (pc' := 26) rfl (hb hby d5_20) rfl (flt hk8).2.2.2 (by decide) (by decide) ?_
    show Steps p.tables e below (s₁.setTop (mkF m 26 #[.val (.ref a1), .val (.int (0 : Int32)), .val (.ref a2), .val (.int (0 : Int32)), .val (.int (2 : Int32)), .val (.int (0 : Int32)), .val (.int p3)] [])) _
    refine XS.aloadN X0.here hx rfl (hb hby d5_26) rfl rfl ?_
    show Steps p.tables e below (s₁.setTop (mkF m 27 #[.val (.ref a1), .val (.int (0 : Int32)), .val (.ref a2), .val (.int (0 : Int32)), .val (.int (2 : Int32)), .val (.int (0 : Int32)), .val (.int p3)] [(.ref a2)])) _
    refine XS.iloadN X0.here hx rfl (hb hby d5_27) rfl ?_
    show Steps p.tables e below (s₁.setTop (mkF m 28 #[.val (.ref a1), .val (.int (0 : Int32)), .val (.ref a2), .val (.int (0 : Int32)), .val (.int (2 : Int32)), .val (.int (0 : Int32)), .val (.int p3)] [(.int (0 : Int32)), (.ref a2)])) _
    refine XS.iload X0.here hx rfl (hb hby d5_28) rfl ?_
    show Steps p.tables e below (s₁.setTop (mkF m 30 #[.val (.ref a1), .val (.int (0 : Int32)), .val (.ref a2), .val (.int (0 : Int32)), .val (.int (2 : Int32)), .val (.int (0 : Int32)), .val (.int p3)] [(.int p3), (.int (0 : Int32)), (.ref a2)])) _
    refine XS.i2b X0.here hx rfl (hb hby d5_30) rfl ?_
    show Steps p.tables e below (s₁.setTop (mkF m 31 #[.val (.ref a1), .val (.int (0 : Int32)), .val (.ref a2), .val (.int (0 : Int32)), .val (.int (2 : Int32)), .val (.int (0 : Int32)), .val (.int p3)] [(.int (p3.toInt8.toInt32)), (.int (0 : Int32)), (.ref a2)])) _
    rw [← hi9]
    show Steps p.tables e below (s₁.setTop (mkF m 31 #[.val (.ref a1), .val (.int (0 : Int32)), .val (.ref a2), .val (.int (0 : Int32)), .val (.int (2 : Int32)), .val (.int (0 : Int32)), .val (.int p3)] [(.int i9), (.int (0 : Int32)), (.ref a2)])) _
    refine st14 _ ?_
    show Steps p.tables e below (T14.setTop (mkF m 32 #[.val (.ref a1), .val (.int (0 : Int32)), .val (.ref a2), .val (.int (0 : Int32)), .val (.int (2 : Int32)), .val (.int (0 : Int32)), .val (.int p3)] [])) _
    refine XS.iinc X14.here hx rfl (hb hby d5_32) rfl (l' := #[.val (.ref a1), .val (.int ((0 : Int32) + (1 : Int32))), .val (.ref a2), .val (.int (0 : Int32)), .val (.int (2 : Int32)), .val (.int (0 : Int32)), .val (.int p3)]) rfl ?_
    show Steps p.tables e below (T14.setTop (mkF m 35 #[.val (.ref a1), .val (.int ((0 : Int32) + (1 : Int32))), .val (.ref a2), .val (.int (0 : Int32)), .val (.int (2 : Int32)), .val (.int (0 : Int32)), .val (.int p3)] [])) _
    rw [(by decide +kernel : ((0 : Int32) + (1 : Int32)) = (1 : Int32))]
    show Steps p.tables e below (T14.setTop (mkF m 35 #[.val (.ref a1), .val (.int (1 : Int32)), .val (.ref a2), .val (.int (0 : Int32)), .val (.int (2 : Int32)), .val (.int (0 : Int32)), .val (.int p3)] [])) _
    refine XS.iinc X14.here hx rfl (hb hby d5_35) rfl (l' := #[.val (.ref a1), .val (.int (1 : Int32)), .val (.ref a2), .val (.int ((0 : Int32) + (1 : Int32))), .val (.int (2 : Int32)), .val (.int (0 : Int32)), .val (.int p3)]) rfl ?_
    show Steps p.tables e below (T14.setTop (mkF m 38 #[.val (.ref a1), .val (.int (1 : Int32)), .val (.ref a2), .val (.int ((0 : Int32) + (1 : Int32))), .val (.int (2 : Int32)), .val (.int (0 : Int32)), .val (.int p3)] [])) _
    rw [(by decide +kernel : ((0 : Int32) + (1 : Int32)) = (1 : Int32))]
    show Steps p.tables e below (T14.setTop (mkF m 38 #[.val (.ref a1), .val (.int (1 : Int32)), .val (.ref a2), .val (.int (1 : Int32)), .val (.int (2 : Int32)), .val (.int (0 : Int32)), .val (.int p3)] [])) _
    refine XS.iinc X14.here hx rfl (hb hby d5_38) rfl (l' := #[.val (.ref a1), .val (.int (1 : Int32)), .val (.ref a2), .val (.int (1 : Int32)), .val (.int (2 : Int32)), .val (.int ((0 : Int32) + (1 : Int32))), .val (.int p3)]) rfl ?_
    show Steps p.tables e below (T14.setTop (mkF m 41 #[.val (.ref a1), .val (.int (1 : Int32)), .val (.ref a2), .val (.int (1 : Int32)), .val (.int (2 : Int32)), .val (.int ((0 : Int32) + (1 : Int32))), .val (.int p3)] [])) _
    rw [(by decide +kernel : ((0 : Int32) + (1 : Int32)) = (1 : Int32))]
    show Steps p.tables e below (T14.setTop (mkF m 41 #[.val (.ref a1), .val (.int (1 : Int32)), .val (.ref a2), .val (.int (1 : Int32)), .val (.int (2 : Int32)), .val (.int (1 : Int32)), .val (.int p3)] [])) _
    refine XS.goto X14.here hx rfl (pc0 := 41) (pc' := 3) rfl (hb hby d5_41) (by decide) (by decide) ?_
    show Steps p.tables e below (T14.setTop (mkF m 3 #[.val (.ref a1), .val (.int (1 : Int32)), .val (.ref a2), .val (.int (1 : Int32)), .val (.int (2 : Int32)), .val (.int (1 : Int32)), .val (.int p3)] [])) _
    refine XS.iload X14.here hx rfl (hb hby d5_3) rfl ?_
    show Steps p.tables e below (T14.setTop (mkF m 5 #[.val (.ref a1), .val (.int (1 : Int32)), .val (.ref a2), .val (.int (1 : Int32)), .val (.int (2 : Int32)), .val (.int (1 : Int32)), .val (.int p3)] [(.int (1 : Int32))])) _
    refine XS.iload X14.here hx rfl (hb hby d5_5) rfl ?_
    show Steps p.tables e below (T14.setTop (mkF m 7 #[.val (.ref a1), .val (.int (1 : Int32)), .val (.ref a2), .val (.int (1 : Int32)), .val (.int (2 : Int32)), .val (.int (1 : Int32)), .val (.int p3)] [(.int (2 : Int32)), (.int (1 : Int32))])) _
    refine XS.icmpNo X14.here hx rfl (hb hby d5_7) rfl (tlt (by decide +kernel : (1 : Int32) < (2 : Int32))).2.1 ?_
    show Steps p.tables e below (T14.setTop (mkF m 10 #[.val (.ref a1), .val (.int (1 : Int32)), .val (.ref a2), .val (.int (1 : Int32)), .val (.int (2 : Int32)), .val (.int (1 : Int32)), .val (.int p3)] [])) _
    refine XS.aloadN X14.here hx rfl (hb hby d5_10) rfl rfl ?_
    show Steps p.tables e below (T14.setTop (mkF m 11 #[.val (.ref a1), .val (.int (1 : Int32)), .val (.ref a2), .val (.int (1 : Int32)), .val (.int (2 : Int32)), .val (.int (1 : Int32)), .val (.int p3)] [(.ref a1)])) _
    refine XS.iloadN X14.here hx rfl (hb hby d5_11) rfl ?_
    show Steps p.tables e below (T14.setTop (mkF m 12 #[.val (.ref a1), .val (.int (1 : Int32)), .val (.ref a2), .val (.int (1 : Int32)), .val (.int (2 : Int32)), .val (.int (1 : Int32)), .val (.int p3)] [(.int (1 : Int32)), (.ref a1)])) _
    refine X14.caload hx (j := (1 : Int32)) (v := (.int p4)) (by rw [e14]; exact Ar18.1) (State.isArrayOf_alike hZ.alike Ar18.2.1) Ar18.2.2 hin18 hat18 (g := (mkF m 12 #[.val (.ref a1), .val (.int (1 : Int32)), .val (.ref a2), .val (.int (1 : Int32)), .val (.int (2 : Int32)), .val (.int (1 : Int32)), .val (.int p3)] [(.int (1 : Int32)), (.ref a1)])) rfl rfl (hb hby d5_12) _ ?_
    show Steps p.tables e below (T14.setTop (mkF m 13 #[.val (.ref a1), .val (.int (1 : Int32)), .val (.ref a2), .val (.int (1 : Int32)), .val (.int (2 : Int32)), .val (.int (1 : Int32)), .val (.int p3)] [(.int p4)])) _
    refine XS.istore X14.here hx rfl (hb hby d5_13) rfl (l' := #[.val (.ref a1), .val (.int (1 : Int32)), .val (.ref a2), .val (.int (1 : Int32)), .val (.int (2 : Int32)), .val (.int (1 : Int32)), .val (.int p4)]) rfl ?_
    show Steps p.tables e below (T14.setTop (mkF m 15 #[.val (.ref a1), .val (.int (1 : Int32)), .val (.ref a2), .val (.int (1 : Int32)), .val (.int (2 : Int32)), .val (.int (1 : Int32)), .val (.int p4)] [])) _
    refine XS.iload X14.here hx rfl (hb hby d5_15) rfl ?_
    show Steps p.tables e below (T14.setTop (mkF m 17 #[.val (.ref a1), .val (.int (1 : Int32)), .val (.ref a2), .val (.int (1 : Int32)), .val (.int (2 : Int32)), .val (.int (1 : Int32)), .val (.int p4)] [(.int p4)])) _
    refine XS.sipush X14.here hx rfl (hb hby d5_17) ?_
    show Steps p.tables e below (T14.setTop (mkF m 20 #[.val (.ref a1), .val (.int (1 : Int32)), .val (.ref a2), .val (.int (1 : Int32)), .val (.int (2 : Int32)), .val (.int (1 : Int32)), .val (.int p4)] [(.int (255 : Int32)), (.int p4)])) _
    refine XS.icmpYes X14.here hx rfl (pc0 := 20) (pc' := 26) rfl (hb hby d5_20) rfl (flt hk19).2.2.2 (by decide) (by decide) ?_
    show Steps p.tables e below (T14.setTop (mkF m 26 #[.val (.ref a1), .val (.int (1 : Int32)), .val (.ref a2), .val (.int (1 : Int32)), .val (.int (2 : Int32)), .val (.int (1 : Int32)), .val (.int p4)] [])) _
    refine XS.aloadN X14.here hx rfl (hb hby d5_26) rfl rfl ?_
    show Steps p.tables e below (T14.setTop (mkF m 27 #[.val (.ref a1), .val (.int (1 : Int32)), .val (.ref a2), .val (.int (1 : Int32)), .val (.int (2 : Int32)), .val (.int (1 : Int32)), .val (.int p4)] [(.ref a2)])) _
    refine XS.iloadN X14.here hx rfl (hb hby d5_27) rfl ?_
    show Steps p.tables e below (T14.setTop (mkF m 28 #[.val (.ref a1), .val (.int (1 : Int32)), .val (.ref a2), .val (.int (1 : Int32)), .val (.int (2 : Int32)), .val (.int (1 : Int32)), .val (.int p4)] [(.int (1 : Int32)), (.ref a2)])) _
    refine XS.iload X14.here hx rfl (hb hby d5_28) rfl ?_
    show Steps p.tables e below (T14.setTop (mkF m 30 #[.val (.ref a1), .val (.int (1 : Int32)), .val (.ref a2), .val (.int (1 : Int32)), .val (.int (2 : Int32)), .val (.int (1 : Int32)), .val (.int p4)] [(.int p4), (.int (1 : Int32)), (.ref a2)])) _
    refine XS.i2b X14.here hx rfl (hb hby d5_30) rfl ?_
    show Steps p.tables e below (T14.setTop (mkF m 31 #[.val (.ref a1), .val (.int (1 : Int32)), .val (.ref a2), .val (.int (1 : Int32)), .val (.int (2 : Int32)), .val (.int (1 : Int32)), .val (.int p4)] [(.int (p4.toInt8.toInt32)), (.int (1 : Int32)), (.ref a2)])) _
    rw [← hi20]
    show Steps p.tables e below (T14.setTop (mkF m 31 #[.val (.ref a1), .val (.int (1 : Int32)), .val (.ref a2), .val (.int (1 : Int32)), .val (.int (2 : Int32)), .val (.int (1 : Int32)), .val (.int p4)] [(.int i20), (.int (1 : Int32)), (.ref a2)])) _
    refine st23 _ ?_
    show Steps p.tables e below (T23.setTop (mkF m 32 #[.val (.ref a1), .val (.int (1 : Int32)), .val (.ref a2), .val (.int (1 : Int32)), .val (.int (2 : Int32)), .val (.int (1 : Int32)), .val (.int p4)] [])) _
    refine XS.iinc X23.here hx rfl (hb hby d5_32) rfl (l' := #[.val (.ref a1), .val (.int ((1 : Int32) + (1 : Int32))), .val (.ref a2), .val (.int (1 : Int32)), .val (.int (2 : Int32)), .val (.int (1 : Int32)), .val (.int p4)]) rfl ?_
    show Steps p.tables e below (T23.setTop (mkF m 35 #[.val (.ref a1), .val (.int ((1 : Int32) + (1 : Int32))), .val (.ref a2), .val (.int (1 : Int32)), .val (.int (2 : Int32)), .val (.int (1 : Int32)), .val (.int p4)] [])) _
    rw [(by decide +kernel : ((1 : Int32) + (1 : Int32)) = (2 : Int32))]
    show Steps p.tables e below (T23.setTop (mkF m 35 #[.val (.ref a1), .val (.int (2 : Int32)), .val (.ref a2), .val (.int (1 : Int32)), .val (.int (2 : Int32)), .val (.int (1 : Int32)), .val (.int p4)] [])) _
    refine XS.iinc X23.here hx rfl (hb hby d5_35) rfl (l' := #[.val (.ref a1), .val (.int (2 : Int32)), .val (.ref a2), .val (.int ((1 : Int32) + (1 : Int32))), .val (.int (2 : Int32)), .val (.int (1 : Int32)), .val (.int p4)]) rfl ?_
    show Steps p.tables e below (T23.setTop (mkF m 38 #[.val (.ref a1), .val (.int (2 : Int32)), .val (.ref a2), .val (.int ((1 : Int32) + (1 : Int32))), .val (.int (2 : Int32)), .val (.int (1 : Int32)), .val (.int p4)] [])) _
    rw [(by decide +kernel : ((1 : Int32) + (1 : Int32)) = (2 : Int32))]
    show Steps p.tables e below (T23.setTop (mkF m 38 #[.val (.ref a1), .val (.int (2 : Int32)), .val (.ref a2), .val (.int (2 : Int32)), .val (.int (2 : Int32)), .val (.int (1 : Int32)), .val (.int p4)] [])) _
    refine XS.iinc X23.here hx rfl (hb hby d5_38) rfl (l' := #[.val (.ref a1), .val (.int (2 : Int32)), .val (.ref a2), .val (.int (2 : Int32)), .val (.int (2 : Int32)), .val (.int ((1 : Int32) + (1 : Int32))), .val (.int p4)]) rfl ?_
    show Steps p.tables e below (T23.setTop (mkF m 41 #[.val (.ref a1), .val (.int (2 : Int32)), .val (.ref a2), .val (.int (2 : Int32)), .val (.int (2 : Int32)), .val (.int ((1 : Int32) + (1 : Int32))), .val (.int p4)] [])) _
    rw [(by decide +kernel : ((1 : Int32) + (1 : Int32)) = (2 : Int32))]
    show Steps p.tables e below (T23.setTop (mkF m 41 #[.val (.ref a1), .val (.int (2 : Int32)), .val (.ref a2), .val (.int (2 : Int32)), .val (.int (2 : Int32)), .val (.int (2 : Int32)), .val (.int p4)] [])) _
    refine XS.goto X23.here hx rfl (pc0 := 41) (pc' := 3) rfl (hb hby d5_41) (by decide) (by decide) ?_
    show Steps p.tables e below (T23.setTop (mkF m 3 #[.val (.ref a1), .val (.int (2 : Int32)), .val (.ref a2), .val (.int (2 : Int32)), .val (.int (2 : Int32)), .val (.int (2 : Int32)), .val (.int p4)] [])) _
    refine XS.iload X23.here hx rfl (hb hby d5_3) rfl ?_
    show Steps p.tables e below (T23.setTop (mkF m 5 #[.val (.ref a1), .val (.int (2 : Int32)), .val (.ref a2), .val (.int (2 : Int32)), .val (.int (2 : Int32)), .val (.int (2 : Int32)), .val (.int p4)] [(.int (2 : Int32))])) _
    refine XS.iload X23.here hx rfl (hb hby d5_5) rfl ?_
    show Steps p.tables e below (T23.setTop (mkF m 7 #[.val (.ref a1), .val (.int (2 : Int32)), .val (.ref a2), .val (.int (2 : Int32)), .val (.int (2 : Int32)), .val (.int (2 : Int32)), .val (.int p4)] [(.int (2 : Int32)), (.int (2 : Int32))])) _
    refine XS.icmpYes X23.here hx rfl (pc0 := 7) (pc' := 44) rfl (hb hby d5_7) rfl (flt (by decide +kernel : ¬ ((2 : Int32) < (2 : Int32)))).2.1 (by decide) (by decide) ?_
    show Steps p.tables e below (T23.setTop (mkF m 44 #[.val (.ref a1), .val (.int (2 : Int32)), .val (.ref a2), .val (.int (2 : Int32)), .val (.int (2 : Int32)), .val (.int (2 : Int32)), .val (.int p4)] [])) _
    refine XS.iload X23.here hx rfl (hb hby d5_44) rfl ?_
    show Steps p.tables e below (T23.setTop (mkF m 46 #[.val (.ref a1), .val (.int (2 : Int32)), .val (.ref a2), .val (.int (2 : Int32)), .val (.int (2 : Int32)), .val (.int (2 : Int32)), .val (.int p4)] [(.int (2 : Int32))])) _
    exact retI X23 hx Bd.returns (hb hby d5_46) hr
  · show Q5_5 Z _ _ _ _ _ _ h0 n0 _ T23.heap _
    rw [e23]
    exact ⟨i20, i9, hi9, hi20, rfl, N23, (((Keep.refl h0 [a2]).wr W14 (Or.inl (List.mem_of_getElem? (i := 0) rfl))).wr W23 (Or.inl (List.mem_of_getElem? (i := 0) rfl))), f24, V23⟩
theorem ef_rm4_4 (m : MethodId) (x0 : Addr) : entryFrame m #[(.ref x0), (.int (0 : Int32)), (.int (2 : Int32))] 6 = mkF m 0 #[.val (.ref x0), .val (.int (0 : Int32)), .val (.int (2 : Int32)), .unset, .unset, .unset] [] := by first | (simp [entryFrame, mkF, argsToLocals, Value.category]; done) | rfl
def Q4_4 (Z : State) (a1 : Addr) (p3 : Int32) (p4 : Int32) (k5 : ClassId) (h0 : Heap) (n0 : Nat) (v : Option Value) (h : Heap) (L : List Loc) : Prop := (∃ (i11 : Int32) (i12 : Int32) (b2 : Addr) (k2 : ClassId), i12 = (p3.toInt8.toInt32) ∧ i11 = (p4.toInt8.toInt32) ∧ v = some (.ref b2) ∧ Fr n0 L ∧ h0.size ≤ b2 ∧ b2 < h.size ∧ Keep h0 h [] ∧ Exa Z h b2 "[B" ∧ Arv Z h b2 k2 .byte (2 : Int32) [(.int i12), (.int i11)] (.int (0 : Int32)))
set_option maxRecDepth 65536 in
set_option maxHeartbeats 40000000 in
theorem rm4_4 (l : Launch) (Z : State) (a0 : Array Value) (hw : ∀ d ∈ own_ws, d.before a0 Z = true) (ws : List Jvm.Cond) (a1 : Addr) (p3 : Int32) (p4 : Int32) (k5 : ClassId) (h0 : Heap) (n0 : Nat) (O0 : Old Z n0 h0) (V6 : Arv Z h0 a1 k5 .char (2 : Int32) [(.int p3), (.int p4)] (.int (0 : Int32))) (hk7 : ¬ ((255 : Int32) < p3)) (lt_a1 : a1 < h0.size) (hk8 : ¬ ((255 : Int32) < p4)) :
    MetFree l M_1 (head1 (Jvm.Cond.code M_1 jdk_52_method_16_code 6 (some (.array .byte)) :: ws) ({ frames := 1, cells := 1, slots := 2, locals := 18 } : Room)) (fun a U => a = #[(.ref a1), (.int (0 : Int32)), (.int (2 : Int32))] ∧ Z.Warmed39 U.vm ∧ U.heap = h0) (fun _ _ _ _ _ => True) (fun _ U o U' => ∃ v L, o = .returned v ∧ Q4_4 Z a1 p3 p4 k5 h0 n0 v U'.heap L ∧ FrameEnd U o U' L ({ frames := 1, cells := 1, slots := 2, locals := 18 } : Room).cells ({ frames := 1, cells := 1, slots := 2, locals := 18 } : Room).slots) := by
  refine MetFree.of_bodySF (plainFor_of_name pn_0) hisR ?_
  intro p e s m args below meth c s₁ Bd hml0 hP hK
  obtain ⟨rfl, hZ, hh⟩ := hP
  have hx := Bd.exec
  have hby := Bd.bytes
  have hml : c.maxLocals = 6 := hml0
  have hown : s.vm.findClass "java/lang/StringUTF16" = some m.cls := findClass_of_methodNamed Bd.named
  have hnm := (name_of_methodNamed Bd.named Bd.method).1
  have X0 : Stand p l e ({ frames := 1, cells := 1, slots := 2, locals := 18 } : Room) s m #[(.ref a1), (.int (0 : Int32)), (.int (2 : Int32))] below meth c s₁ [] 0 0 := Stand.of_body Bd
  have e0 : s₁.heap = h0 := by rw [← hh, Bd.state]; rfl
  have N0 := Fr.nil n0
  have pre0 : ∀ t, Steps p.tables e below (s₁.setTop (mkF m 0 #[.val (.ref a1), .val (.int (0 : Int32)), .val (.int (2 : Int32)), .unset, .unset, .unset] [])) t → Steps p.tables e below (s₁.setTop (entryFrame m #[(.ref a1), (.int (0 : Int32)), (.int (2 : Int32))] 6)) t := fun t k => castTop (ef_rm4_4 m a1) k
  obtain ⟨T2, h2, k2, X2, e2, E2, A2, Ex2, st2⟩ := newPE X0 hx hZ (hw _ (gw 45 rfl)) e0 (g := (mkF m 1 #[.val (.ref a1), .val (.int (0 : Int32)), .val (.int (2 : Int32)), .unset, .unset, .unset] [(.int (2 : Int32))])) rfl (hb hby d4_1) rfl (by decide +kernel) (cap := 2) (by decide +kernel) (by decide) (by decide) (by decide) (ad := "[B") (by decide +kernel)
  obtain ⟨b2, g2⟩ : ∃ z, z = h0.size := ⟨_, rfl⟩
  rw [← g2] at A2 Ex2 st2
  have O2 : Old Z n0 h2 := O0.ext E2
  have bd_b2 : h0.size ≤ b2 := Nat.le_of_eq g2.symm
  have g_b2 : n0 ≤ b2 := Nat.le_trans (own_z O0) bd_b2
  have sz_b2 : h0.size ≤ b2 := Nat.le_trans (Nat.le_refl _) bd_b2
  have lt_b2 : b2 < h2.size := A2.lt
  have V2 : Arv Z h2 b2 k2 .byte (2 : Int32) [] (.int (0 : Int32)) := Arv.new A2 (by decide +kernel)
  have f9 : Arv Z h2 a1 k5 .char (2 : Int32) [(.int p3), (.int p4)] (.int (0 : Int32)) := (V6.ext E2)
  obtain ⟨_, _, ⟨T10, L10, k10, n10⟩, -, X10, ⟨Lc10, hQ10, l10, y10, z10⟩, st10⟩ := Jvm.LawKit.callS X2 hx (y := M_0) hown (mvT hZ (hw _ (gw 46 rfl))) (mvT hZ (hw _ (gw 47 rfl))) (mvT hZ (hw _ (gw 43 rfl))) (mvT hZ (hw _ (gw 48 rfl))) (by decide) (backOf (W := 0) (rm5_5 l Z a0 hw [] a1 b2 p3 p4 k5 k2 h2 n0  O2 f9 hk7 V2 g_b2 Ex2 (Nat.ne_of_lt (Nat.lt_of_lt_of_le lt_a1 bd_b2)) hk8) hZ (hw _ (gw 48 rfl)) (hw _ (gw 43 rfl)) (by decide) (by decide)) (g := (mkF m 9 #[.val (.ref a1), .val (.int (0 : Int32)), .val (.int (2 : Int32)), .val (.ref b2), .unset, .unset] [(.int (2 : Int32)), (.int (0 : Int32)), (.ref b2), (.int (0 : Int32)), (.ref a1)])) rfl (by rw [hml]; rfl) (argsL := [(.ref a1), (.int (0 : Int32)), (.ref b2), (.int (0 : Int32)), (.int (2 : Int32))]) (rest := []) (lenOf pd_0 rfl) rfl (by show 2 * 0 + _ ≤ _; exact Nat.le_of_eq rfl) (hb hby d4_9) (fun _ _ => ⟨rfl, e2, (by decide : 1 + 0 ≤ _), (by decide : 2 + 0 ≤ _)⟩)
  dsimp only [Pt.U, Pt.locs, Pt.cells, Pt.slots] at X10 l10 y10 z10 st10 hQ10
  subst l10 y10 z10
  obtain ⟨i11, i12, u13, u14, rfl, u16, Ku17, u18, u19⟩ := hQ10
  have Ou17 : Old Z n0 T10.heap := O2.keep Ku17 (allS g_b2 all0)
  have N10 := Fr.app N0 u16
  obtain ⟨fs, hr, hrun, hended, hW, hsame⟩ := X10.leave (v := some (.ref b2)) (fun h => by rw [Bd.returns] at h; cases h)
  refine ⟨_, _, pre0 _ ?_, hrun, hended, _, _, rfl, ?_, ⟨_, rfl⟩, hW, hsame.mono (by decide) (by decide)⟩
  · show Steps p.tables e below (s₁.setTop (mkF m 0 #[.val (.ref a1), .val (.int (0 : Int32)), .val (.int (2 : Int32)), .unset, .unset, .unset] [])) _
    refine XS.iloadN X0.here hx rfl (hb hby d4_0) rfl ?_
    show Steps p.tables e below (s₁.setTop (mkF m 1 #[.val (.ref a1), .val (.int (0 : Int32)), .val (.int (2 : Int32)), .unset, .unset, .unset] [(.int (2 : Int32))])) _
    refine st2 _ ?_
    show Steps p.tables e below (T2.setTop (mkF m 3 #[.val (.ref a1), .val (.int (0 : Int32)), .val (.int (2 : Int32)), .unset, .unset, .unset] [(.ref b2)])) _
    refine XS.astoreN X2.here hx rfl (hb hby d4_3) rfl rfl (l' := #[.val (.ref a1), .val (.int (0 : Int32)), .val (.int (2 : Int32)), .val (.ref b2), .unset, .unset]) rfl ?_
    show Steps p.tables e below (T2.setTop (mkF m 4 #[.val (.ref a1), .val (.int (0 : Int32)), .val (.int (2 : Int32)), .val (.ref b2), .unset, .unset] [])) _
    refine XS.aloadN X2.here hx rfl (hb hby d4_4) rfl rfl ?_
    show Steps p.tables e below (T2.setTop (mkF m 5 #[.val (.ref a1), .val (.int (0 : Int32)), .val (.int (2 : Int32)), .val (.ref b2), .unset, .unset] [(.ref a1)])) _
    refine XS.iloadN X2.here hx rfl (hb hby d4_5) rfl ?_
    show Steps p.tables e below (T2.setTop (mkF m 6 #[.val (.ref a1), .val (.int (0 : Int32)), .val (.int (2 : Int32)), .val (.ref b2), .unset, .unset] [(.int (0 : Int32)), (.ref a1)])) _
    refine XS.aloadN X2.here hx rfl (hb hby d4_6) rfl rfl ?_
    show Steps p.tables e below (T2.setTop (mkF m 7 #[.val (.ref a1), .val (.int (0 : Int32)), .val (.int (2 : Int32)), .val (.ref b2), .unset, .unset] [(.ref b2), (.int (0 : Int32)), (.ref a1)])) _
    refine XS.iconst X2.here hx rfl (hb hby d4_7) ?_
    show Steps p.tables e below (T2.setTop (mkF m 8 #[.val (.ref a1), .val (.int (0 : Int32)), .val (.int (2 : Int32)), .val (.ref b2), .unset, .unset] [(.int (0 : Int32)), (.ref b2), (.int (0 : Int32)), (.ref a1)])) _
    refine XS.iloadN X2.here hx rfl (hb hby d4_8) rfl ?_
    show Steps p.tables e below (T2.setTop (mkF m 9 #[.val (.ref a1), .val (.int (0 : Int32)), .val (.int (2 : Int32)), .val (.ref b2), .unset, .unset] [(.int (2 : Int32)), (.int (0 : Int32)), (.ref b2), (.int (0 : Int32)), (.ref a1)])) _
    refine st10 _ ?_
    show Steps p.tables e below (T10.setTop (mkF m 12 #[.val (.ref a1), .val (.int (0 : Int32)), .val (.int (2 : Int32)), .val (.ref b2), .unset, .unset] [(.int (2 : Int32))])) _
    refine XS.istore X10.here hx rfl (hb hby d4_12) rfl (l' := #[.val (.ref a1), .val (.int (0 : Int32)), .val (.int (2 : Int32)), .val (.ref b2), .val (.int (2 : Int32)), .unset]) rfl ?_
    show Steps p.tables e below (T10.setTop (mkF m 14 #[.val (.ref a1), .val (.int (0 : Int32)), .val (.int (2 : Int32)), .val (.ref b2), .val (.int (2 : Int32)), .unset] [])) _
    refine XS.iload X10.here hx rfl (hb hby d4_14) rfl ?_
    show Steps p.tables e below (T10.setTop (mkF m 16 #[.val (.ref a1), .val (.int (0 : Int32)), .val (.int (2 : Int32)), .val (.ref b2), .val (.int (2 : Int32)), .unset] [(.int (2 : Int32))])) _
    refine XS.iloadN X10.here hx rfl (hb hby d4_16) rfl ?_
    show Steps p.tables e below (T10.setTop (mkF m 17 #[.val (.ref a1), .val (.int (0 : Int32)), .val (.int (2 : Int32)), .val (.ref b2), .val (.int (2 : Int32)), .unset] [(.int (2 : Int32)), (.int (2 : Int32))])) _
    refine XS.icmpYes X10.here hx rfl (pc0 := 17) (pc' := 57) rfl (hb hby d4_17) rfl (teq (by decide +kernel : (2 : Int32) = (2 : Int32))).1 (by decide) (by decide) ?_
    show Steps p.tables e below (T10.setTop (mkF m 57 #[.val (.ref a1), .val (.int (0 : Int32)), .val (.int (2 : Int32)), .val (.ref b2), .val (.int (2 : Int32)), .unset] [])) _
    refine XS.aloadN X10.here hx rfl (hb hby d4_57) rfl rfl ?_
    show Steps p.tables e below (T10.setTop (mkF m 58 #[.val (.ref a1), .val (.int (0 : Int32)), .val (.int (2 : Int32)), .val (.ref b2), .val (.int (2 : Int32)), .unset] [(.ref b2)])) _
    jvm_step X10.here [X10.here.top, hx, (hb hby d4_58), X10.method', Bd.returns, Value.isRef, FieldType.isReference]
    first | (intro acts; rw [hr _ acts rfl rfl rfl]) | rw [hr _ _ rfl rfl rfl]
    exact Steps.refl _
  · show Q4_4 Z _ _ _ _ h0 n0 _ T10.heap _
    exact ⟨i11, i12, b2, k2, u13, u14, rfl, N10, sz_b2, (Nat.lt_of_lt_of_le lt_b2 Ku17.1), (((Keep.refl h0 []).ext E2).trans Ku17 (allS (Or.inr sz_b2) all0)), u18, u19⟩
theorem ef_rm6_6 (m : MethodId) (x0 : Addr) : entryFrame m #[(.ref x0), (.int (2 : Int32))] 2 = mkF m 0 #[.val (.ref x0), .val (.int (2 : Int32))] [] := by first | (simp [entryFrame, mkF, argsToLocals, Value.category]; done) | rfl
def Q6_6 (Z : State) (a1 : Addr) (p2 : Int32) (p3 : Int32) (k4 : ClassId) (h0 : Heap) (n0 : Nat) (v : Option Value) (h : Heap) (L : List Loc) : Prop := (v = some (.int (0 : Int32)) ∧ Fr n0 L ∧ h = h0)
set_option maxRecDepth 65536 in
set_option maxHeartbeats 40000000 in
theorem rm6_6 (l : Launch) (Z : State) (a0 : Array Value) (hw : ∀ d ∈ own_ws, d.before a0 Z = true) (ws : List Jvm.Cond) (a1 : Addr) (p2 : Int32) (p3 : Int32) (k4 : ClassId) (h0 : Heap) (n0 : Nat) (O0 : Old Z n0 h0) (V5 : Arv Z h0 a1 k4 .byte (2 : Int32) [(.int p2), (.int p3)] (.int (0 : Int32))) :
    MetFree l M_2 (head1 (Jvm.Cond.code M_2 jdk_52_method_15_code 2 (some .byte) :: ws) ({ frames := 0, cells := 0, slots := 0, locals := 0 } : Room)) (fun a U => a = #[(.ref a1), (.int (2 : Int32))] ∧ Z.Warmed39 U.vm ∧ U.heap = h0) (fun _ _ _ _ _ => True) (fun _ U o U' => ∃ v L, o = .returned v ∧ Q6_6 Z a1 p2 p3 k4 h0 n0 v U'.heap L ∧ FrameEnd U o U' L ({ frames := 0, cells := 0, slots := 0, locals := 0 } : Room).cells ({ frames := 0, cells := 0, slots := 0, locals := 0 } : Room).slots) := by
  refine MetFree.of_bodySF (plainFor_of_name pn_0) hisR ?_
  intro p e s m args below meth c s₁ Bd hml0 hP hK
  obtain ⟨rfl, hZ, hh⟩ := hP
  have hx := Bd.exec
  have hby := Bd.bytes
  have hml : c.maxLocals = 2 := hml0
  have hown : s.vm.findClass "java/lang/StringUTF16" = some m.cls := findClass_of_methodNamed Bd.named
  have hnm := (name_of_methodNamed Bd.named Bd.method).1
  have X0 : Stand p l e ({ frames := 0, cells := 0, slots := 0, locals := 0 } : Room) s m #[(.ref a1), (.int (2 : Int32))] below meth c s₁ [] 0 0 := Stand.of_body Bd
  have e0 : s₁.heap = h0 := by rw [← hh, Bd.state]; rfl
  have N0 := Fr.nil n0
  have pre0 : ∀ t, Steps p.tables e below (s₁.setTop (mkF m 0 #[.val (.ref a1), .val (.int (2 : Int32))] [])) t → Steps p.tables e below (s₁.setTop (entryFrame m #[(.ref a1), (.int (2 : Int32))] 2)) t := fun t k => castTop (ef_rm6_6 m a1) k
  obtain ⟨cl6, Ar6, -, Sz6, Nn6, -, -⟩ := id V5
  obtain ⟨fs, hr, hrun, hended, hW, hsame⟩ := X0.leave (v := some (.int (0 : Int32))) (fun h => by rw [Bd.returns] at h; cases h)
  refine ⟨_, _, pre0 _ ?_, hrun, hended, _, _, rfl, ?_, ⟨_, rfl⟩, hW, hsame.mono (by decide) (by decide)⟩
  · show Steps p.tables e below (s₁.setTop (mkF m 0 #[.val (.ref a1), .val (.int (2 : Int32))] [])) _
    refine XS.iloadN X0.here hx rfl (hb hby d6_0) rfl ?_
    show Steps p.tables e below (s₁.setTop (mkF m 1 #[.val (.ref a1), .val (.int (2 : Int32))] [(.int (2 : Int32))])) _
    refine XS.aloadN X0.here hx rfl (hb hby d6_1) rfl rfl ?_
    show Steps p.tables e below (s₁.setTop (mkF m 2 #[.val (.ref a1), .val (.int (2 : Int32))] [(.ref a1), (.int (2 : Int32))])) _
    refine X0.arraylength hx (by rw [e0]; exact Ar6.1) (State.isArrayOf_alike hZ.alike Ar6.2.1) (g := (mkF m 2 #[.val (.ref a1), .val (.int (2 : Int32))] [(.ref a1), (.int (2 : Int32))])) rfl rfl (hb hby d6_2) _ ?_
    rw [len_of Sz6 Nn6]
    show Steps p.tables e below (s₁.setTop (mkF m 3 #[.val (.ref a1), .val (.int (2 : Int32))] [(.int (2 : Int32)), (.int (2 : Int32))])) _
    refine XS.isub X0.here hx rfl (hb hby d6_3) rfl ?_
    show Steps p.tables e below (s₁.setTop (mkF m 4 #[.val (.ref a1), .val (.int (2 : Int32))] [(.int ((2 : Int32) - (2 : Int32)))])) _
    rw [(by decide +kernel : ((2 : Int32) - (2 : Int32)) = (0 : Int32))]
    show Steps p.tables e below (s₁.setTop (mkF m 4 #[.val (.ref a1), .val (.int (2 : Int32))] [(.int (0 : Int32))])) _
    refine XS.bipush X0.here hx rfl (hb hby d6_4) ?_
    show Steps p.tables e below (s₁.setTop (mkF m 6 #[.val (.ref a1), .val (.int (2 : Int32))] [(.int (31 : Int32)), (.int (0 : Int32))])) _
    refine XS.iushr X0.here hx rfl (hb hby d6_6) rfl ?_
    show Steps p.tables e below (s₁.setTop (mkF m 7 #[.val (.ref a1), .val (.int (2 : Int32))] [(.int (((0 : Int32).toUInt32 >>> ((31 : Int32) &&& 31).toUInt32).toInt32))])) _
    rw [(by decide +kernel : (((0 : Int32).toUInt32 >>> ((31 : Int32) &&& 31).toUInt32).toInt32) = (0 : Int32))]
    show Steps p.tables e below (s₁.setTop (mkF m 7 #[.val (.ref a1), .val (.int (2 : Int32))] [(.int (0 : Int32))])) _
    refine XS.i2b X0.here hx rfl (hb hby d6_7) rfl ?_
    show Steps p.tables e below (s₁.setTop (mkF m 8 #[.val (.ref a1), .val (.int (2 : Int32))] [(.int ((0 : Int32).toInt8.toInt32))])) _
    rw [(by decide +kernel : ((0 : Int32).toInt8.toInt32) = (0 : Int32))]
    show Steps p.tables e below (s₁.setTop (mkF m 8 #[.val (.ref a1), .val (.int (2 : Int32))] [(.int (0 : Int32))])) _
    exact retN X0 hx (t := .byte) Bd.returns (by simp) (hb hby d6_8) hr
  · show Q6_6 Z _ _ _ _ h0 n0 _ s₁.heap _
    rw [e0]
    exact ⟨rfl, N0, rfl⟩
theorem ef_rm2_3 (m : MethodId) (x0 : Addr) (x1 : Addr) : entryFrame m #[(.ref x0), (.ref x1), (.int (0 : Int32)), (.int (2 : Int32)), .null] 6 = mkF m 0 #[.val (.ref x0), .val (.ref x1), .val (.int (0 : Int32)), .val (.int (2 : Int32)), .val .null, .unset] [] := by first | (simp [entryFrame, mkF, argsToLocals, Value.category]; done) | rfl
def Q2_3 (Z : State) (a1 : Addr) (a2 : Addr) (p4 : Int32) (p8 : Int32) (p9 : Int32) (k10 : ClassId) (h0 : Heap) (n0 : Nat) (v : Option Value) (h : Heap) (L : List Loc) : Prop := (∃ (i15 : Int32) (i16 : Int32) (b17 : Addr) (k18 : ClassId), i16 = (p8.toInt8.toInt32) ∧ i15 = (p9.toInt8.toInt32) ∧ v = none ∧ Fr n0 L ∧ h0.size ≤ b17 ∧ b17 < h.size ∧ Keep h0 h [a1] ∧ Exa Z h a1 "java/lang/String" ∧ Fld Z h a1 "java/lang/String" "coder" "B" (.int (0 : Int32)) ∧ Fld Z h a1 "java/lang/String" "value" "[B" (.ref b17) ∧ Exa Z h b17 "[B" ∧ Arv Z h b17 k18 .byte (2 : Int32) [(.int i16), (.int i15)] (.int (0 : Int32)))
set_option maxRecDepth 65536 in
set_option maxHeartbeats 40000000 in
theorem rm2_3 (l : Launch) (Z : State) (a0 : Array Value) (hw : ∀ d ∈ own_ws, d.before a0 Z = true) (ws : List Jvm.Cond) (a1 : Addr) (a2 : Addr) (p4 : Int32) (p8 : Int32) (p9 : Int32) (k10 : ClassId) (h0 : Heap) (n0 : Nat) (O0 : Old Z n0 h0) (S_5 : Sta Z Z.heap "java/lang/String" "COMPACT_STRINGS" "Z" (.int p4)) (hk7 : ¬ (p4 = (0 : Int32))) (V11 : Arv Z h0 a2 k10 .char (2 : Int32) [(.int p8), (.int p9)] (.int (0 : Int32))) (hk12 : ¬ ((255 : Int32) < p8)) (hk13 : ¬ ((255 : Int32) < p9)) (lt_a2 : a2 < h0.size) (E_32 : Exa Z h0 a1 "java/lang/String") (F33 : Fld Z h0 a1 "java/lang/String" "coder" "B" (.int (0 : Int32))) (F34 : Fld Z h0 a1 "java/lang/String" "value" "[B" .null) (g_a1 : n0 ≤ a1) (lt_a1 : a1 < h0.size) :
    MetFree l M_3 (head1 (Jvm.Cond.code M_3 jdk_42_method_149_code 6 none :: ws) ({ frames := 2, cells := 1, slots := 2, locals := 35 } : Room)) (fun a U => a = #[(.ref a1), (.ref a2), (.int (0 : Int32)), (.int (2 : Int32)), .null] ∧ Z.Warmed39 U.vm ∧ U.heap = h0) (fun _ _ _ _ _ => True) (fun _ U o U' => ∃ v L, o = .returned v ∧ Q2_3 Z a1 a2 p4 p8 p9 k10 h0 n0 v U'.heap L ∧ FrameEnd U o U' L ({ frames := 2, cells := 1, slots := 2, locals := 35 } : Room).cells ({ frames := 2, cells := 1, slots := 2, locals := 35 } : Room).slots) := by
  refine MetFree.of_bodySF (plainFor_of_name pn_1) hisR ?_
  intro p e s m args below meth c s₁ Bd hml0 hP hK
  obtain ⟨rfl, hZ, hh⟩ := hP
  have hx := Bd.exec
  have hby := Bd.bytes
  have hml : c.maxLocals = 6 := hml0
  have hown : s.vm.findClass "java/lang/String" = some m.cls := findClass_of_methodNamed Bd.named
  have hnm := (name_of_methodNamed Bd.named Bd.method).1
  have X0 : Stand p l e ({ frames := 2, cells := 1, slots := 2, locals := 35 } : Room) s m #[(.ref a1), (.ref a2), (.int (0 : Int32)), (.int (2 : Int32)), .null] below meth c s₁ [] 0 0 := Stand.of_body Bd
  have e0 : s₁.heap = h0 := by rw [← hh, Bd.state]; rfl
  have N0 := Fr.nil n0
  have pre0 : ∀ t, Steps p.tables e below (s₁.setTop (mkF m 0 #[.val (.ref a1), .val (.ref a2), .val (.int (0 : Int32)), .val (.int (2 : Int32)), .val .null, .unset] [])) t → Steps p.tables e below (s₁.setTop (entryFrame m #[(.ref a1), (.ref a2), (.int (0 : Int32)), (.int (2 : Int32)), .null] 6)) t := fun t k => castTop (ef_rm2_3 m a1 a2) k
  obtain ⟨T3, X3, e3, st3⟩ := initO X0 hx hZ hown (hw _ (gw 37 rfl)) (hw _ (gw 38 rfl)) (hw _ (gw 39 rfl)) e0 (g := (mkF m 1 #[.val (.ref a1), .val (.ref a2), .val (.int (0 : Int32)), .val (.int (2 : Int32)), .val .null, .unset] [(.ref a1)])) rfl (by rw [hml]; rfl) rfl (hb hby d2_1) (by decide) (W := 0) (by show 2 * 0 + _ ≤ _; exact Nat.le_of_eq rfl) (by decide)
  obtain ⟨T6, X6, e6, st6⟩ := getS2 X3 hx hZ hown (host := "") (Or.inl (hw _ (gw 40 rfl))) Via.refl e3 (Sta.ext O0.2 S_5) (g := (mkF m 27 #[.val (.ref a1), .val (.ref a2), .val (.int (0 : Int32)), .val (.int (2 : Int32)), .val .null, .unset] [])) rfl (hb hby d2_27)
  obtain ⟨_, _, ⟨T14, L14, k14, n14⟩, -, X14, ⟨Lc14, hQ14, l14, y14, z14⟩, st14⟩ := Jvm.LawKit.callS X6 hx (y := M_1) hown (mvT hZ (hw _ (gw 41 rfl))) (mvT hZ (hw _ (gw 42 rfl))) (mvT hZ (hw _ (gw 43 rfl))) (mvT hZ (hw _ (gw 44 rfl))) (by decide) (backOf (W := 0) (rm4_4 l Z a0 hw [] a2 p8 p9 k10 h0 n0  O0 V11 hk12 lt_a2 hk13) hZ (hw _ (gw 44 rfl)) (hw _ (gw 43 rfl)) (by decide) (by decide)) (g := (mkF m 36 #[.val (.ref a1), .val (.ref a2), .val (.int (0 : Int32)), .val (.int (2 : Int32)), .val .null, .unset] [(.int (2 : Int32)), (.int (0 : Int32)), (.ref a2)])) rfl (by rw [hml]; rfl) (argsL := [(.ref a2), (.int (0 : Int32)), (.int (2 : Int32))]) (rest := []) (lenOf pd_1 rfl) rfl (by show 2 * 0 + _ ≤ _; exact Nat.le_of_eq rfl) (hb hby d2_36) (fun _ _ => ⟨rfl, e6, (by decide : 0 + 1 ≤ _), (by decide : 0 + 2 ≤ _)⟩)
  dsimp only [Pt.U, Pt.locs, Pt.cells, Pt.slots] at X14 l14 y14 z14 st14 hQ14
  subst l14 y14 z14
  obtain ⟨i15, i16, b17, k18, u19, u20, rfl, u22, u23, u24, Ku25, u26, u27⟩ := hQ14
  have Ou25 : Old Z n0 T14.heap := O0.keep Ku25 all0
  have g_b17 : n0 ≤ b17 := Nat.le_trans (own_z O0) u23
  have sz_b17 : h0.size ≤ b17 := Nat.le_trans (Nat.le_refl _) u23
  have N14 := Fr.app N0 u22
  obtain ⟨_, _, ⟨T28, L28, k28, n28⟩, -, X28, ⟨Lc28, hQ28, l28, y28, z28⟩, st28⟩ := Jvm.LawKit.callS X14 hx (y := M_2) hown (mvT hZ (hw _ (gw 49 rfl))) (mvT hZ (hw _ (gw 50 rfl))) (mvT hZ (hw _ (gw 43 rfl))) (mvT hZ (hw _ (gw 51 rfl))) (by decide) (backOf (W := 1) (rm6_6 l Z a0 hw [] b17 i16 i15 k18 T14.heap n0  Ou25 u27) hZ (hw _ (gw 51 rfl)) (hw _ (gw 43 rfl)) (by decide) (by decide)) (g := (mkF m 45 #[.val (.ref a1), .val (.ref a2), .val (.int (0 : Int32)), .val (.int (2 : Int32)), .val .null, .val (.ref b17)] [(.int (2 : Int32)), (.ref b17), (.ref a1)])) rfl (by rw [hml]; rfl) (argsL := [(.ref b17), (.int (2 : Int32))]) (rest := [(.ref a1)]) (lenOf pd_2 rfl) rfl (by show 2 * 0 + _ ≤ _; exact Nat.le_of_eq rfl) (hb hby d2_45) (fun _ _ => ⟨rfl, rfl, (by decide : 1 + 0 ≤ _), (by decide : 2 + 0 ≤ _)⟩)
  dsimp only [Pt.U, Pt.locs, Pt.cells, Pt.slots] at X28 l28 y28 z28 st28 hQ28
  subst l28 y28 z28
  obtain ⟨rfl, u30, u31⟩ := hQ28
  have N28 := Fr.app N14 u30
  have f35 : Fld Z T14.heap a1 "java/lang/String" "coder" "B" (.int (0 : Int32)) := (F33.keep Ku25 nin0)
  have f36 : Exa Z T14.heap a1 "java/lang/String" := (E_32.keep Ku25)
  obtain ⟨T37, h37, X37, e37, W37, st37⟩ := putFN X28 hx hZ hown (hw _ (gw 52 rfl)) Via.refl u31 f35 f36 (Or.inr ⟨(hw _ (gw 53 rfl)), rfl, hnm⟩) (hw _ (gw 28 rfl)) (ty := .byte) (v' := (.int (0 : Int32))) (by decide) (by exact congrArg Value.int (by decide +kernel : (nar .byte (0 : Int32)) = (0 : Int32))) ((by decide +kernel : (nar .byte (0 : Int32)) = (0 : Int32)) ▸ fits_nar_byte _) (g := (mkF m 48 #[.val (.ref a1), .val (.ref a2), .val (.int (0 : Int32)), .val (.int (2 : Int32)), .val .null, .val (.ref b17)] [(.int (0 : Int32)), (.ref a1)])) rfl rfl (hb hby d2_48)
  have O37 : Old Z n0 h37 := Ou25.wr W37 g_a1
  have Fw37 : Fld Z h37 a1 "java/lang/String" "coder" "B" (.int (0 : Int32)) := Fld.same W37 f35
  have N37 := Fr.snoc X37 N28 g_a1
  have f38 : Fld Z h37 a1 "java/lang/String" "value" "[B" .null := (Fld.other W37 (F34.keep Ku25 nin0) (Or.inr (slot_ne (Or.inr (hw _ (gw 55 rfl))) (Or.inr (hw _ (gw 53 rfl))) (by decide) (t := (.array .byte)) (t' := .byte) (by decide) (by decide))))
  have f39 : Exa Z h37 a1 "java/lang/String" := (Exa.wr W37 f36)
  obtain ⟨T40, h40, X40, e40, W40, st40⟩ := putF X37 hx hZ hown (host := "") (Or.inl (hw _ (gw 54 rfl))) Via.refl e37 f38 f39 (Or.inr ⟨(hw _ (gw 55 rfl)), rfl, hnm⟩) (hw _ (gw 28 rfl)) (ty := (.array .byte)) (by decide) rfl rfl (g := (mkF m 54 #[.val (.ref a1), .val (.ref a2), .val (.int (0 : Int32)), .val (.int (2 : Int32)), .val .null, .val (.ref b17)] [(.ref b17), (.ref a1)])) rfl rfl (hb hby d2_54)
  have O40 : Old Z n0 h40 := O37.wr W40 g_a1
  have Fw40 : Fld Z h40 a1 "java/lang/String" "value" "[B" (.ref b17) := Fld.same W40 f38
  have N40 := Fr.snoc X40 N37 g_a1
  obtain ⟨fs, hr, hrun, hended, hW, hsame⟩ := X40.leave (v := none) (fun _ => rfl)
  have f41 : Exa Z h40 a1 "java/lang/String" := (Exa.wr W40 f39)
  have f42 : Fld Z h40 a1 "java/lang/String" "coder" "B" (.int (0 : Int32)) := (Fld.other W40 Fw37 (Or.inr (slot_ne (Or.inr (hw _ (gw 53 rfl))) (Or.inr (hw _ (gw 55 rfl))) (by decide) (t := .byte) (t' := (.array .byte)) (by decide) (by decide))))
  have f43 : Exa Z h40 b17 "[B" := (Exa.wr W40 (Exa.wr W37 u26))
  have f44 : Arv Z h40 b17 k18 .byte (2 : Int32) [(.int i16), (.int i15)] (.int (0 : Int32)) := ((u27.other W37 (Ne.symm (Nat.ne_of_lt (Nat.lt_of_lt_of_le lt_a1 u23)))).other W40 (Ne.symm (Nat.ne_of_lt (Nat.lt_of_lt_of_le lt_a1 u23))))
  refine ⟨_, _, pre0 _ ?_, hrun, hended, _, _, rfl, ?_, ⟨_, rfl⟩, hW, hsame.mono (by decide) (by decide)⟩
  · show Steps p.tables e below (s₁.setTop (mkF m 0 #[.val (.ref a1), .val (.ref a2), .val (.int (0 : Int32)), .val (.int (2 : Int32)), .val .null, .unset] [])) _
    refine XS.aloadN X0.here hx rfl (hb hby d2_0) rfl rfl ?_
    show Steps p.tables e below (s₁.setTop (mkF m 1 #[.val (.ref a1), .val (.ref a2), .val (.int (0 : Int32)), .val (.int (2 : Int32)), .val .null, .unset] [(.ref a1)])) _
    refine st3 _ ?_
    show Steps p.tables e below (T3.setTop (mkF m 4 #[.val (.ref a1), .val (.ref a2), .val (.int (0 : Int32)), .val (.int (2 : Int32)), .val .null, .unset] [])) _
    refine XS.iloadN X3.here hx rfl (hb hby d2_4) rfl ?_
    show Steps p.tables e below (T3.setTop (mkF m 5 #[.val (.ref a1), .val (.ref a2), .val (.int (0 : Int32)), .val (.int (2 : Int32)), .val .null, .unset] [(.int (2 : Int32))])) _
    refine XS.ifYes X3.here hx rfl (pc0 := 5) (pc' := 27) rfl (hb hby d2_5) rfl ((if0 _ _).trans (feq (by decide +kernel : ¬ ((2 : Int32) = (0 : Int32)))).2) (by decide) (by decide) ?_
    show Steps p.tables e below (T3.setTop (mkF m 27 #[.val (.ref a1), .val (.ref a2), .val (.int (0 : Int32)), .val (.int (2 : Int32)), .val .null, .unset] [])) _
    refine st6 _ ?_
    show Steps p.tables e below (T6.setTop (mkF m 30 #[.val (.ref a1), .val (.ref a2), .val (.int (0 : Int32)), .val (.int (2 : Int32)), .val .null, .unset] [(.int p4)])) _
    refine XS.ifNo X6.here hx rfl (hb hby d2_30) rfl ((if0 _ _).trans (feq hk7).1) ?_
    show Steps p.tables e below (T6.setTop (mkF m 33 #[.val (.ref a1), .val (.ref a2), .val (.int (0 : Int32)), .val (.int (2 : Int32)), .val .null, .unset] [])) _
    refine XS.aloadN X6.here hx rfl (hb hby d2_33) rfl rfl ?_
    show Steps p.tables e below (T6.setTop (mkF m 34 #[.val (.ref a1), .val (.ref a2), .val (.int (0 : Int32)), .val (.int (2 : Int32)), .val .null, .unset] [(.ref a2)])) _
    refine XS.iloadN X6.here hx rfl (hb hby d2_34) rfl ?_
    show Steps p.tables e below (T6.setTop (mkF m 35 #[.val (.ref a1), .val (.ref a2), .val (.int (0 : Int32)), .val (.int (2 : Int32)), .val .null, .unset] [(.int (0 : Int32)), (.ref a2)])) _
    refine XS.iloadN X6.here hx rfl (hb hby d2_35) rfl ?_
    show Steps p.tables e below (T6.setTop (mkF m 36 #[.val (.ref a1), .val (.ref a2), .val (.int (0 : Int32)), .val (.int (2 : Int32)), .val .null, .unset] [(.int (2 : Int32)), (.int (0 : Int32)), (.ref a2)])) _
    refine st14 _ ?_
    show Steps p.tables e below (T14.setTop (mkF m 39 #[.val (.ref a1), .val (.ref a2), .val (.int (0 : Int32)), .val (.int (2 : Int32)), .val .null, .unset] [(.ref b17)])) _
    refine XS.astore X14.here hx rfl (hb hby d2_39) rfl rfl (l' := #[.val (.ref a1), .val (.ref a2), .val (.int (0 : Int32)), .val (.int (2 : Int32)), .val .null, .val (.ref b17)]) rfl ?_
    show Steps p.tables e below (T14.setTop (mkF m 41 #[.val (.ref a1), .val (.ref a2), .val (.int (0 : Int32)), .val (.int (2 : Int32)), .val .null, .val (.ref b17)] [])) _
    refine XS.aloadN X14.here hx rfl (hb hby d2_41) rfl rfl ?_
    show Steps p.tables e below (T14.setTop (mkF m 42 #[.val (.ref a1), .val (.ref a2), .val (.int (0 : Int32)), .val (.int (2 : Int32)), .val .null, .val (.ref b17)] [(.ref a1)])) _
    refine XS.aload X14.here hx rfl (hb hby d2_42) rfl rfl ?_
    show Steps p.tables e below (T14.setTop (mkF m 44 #[.val (.ref a1), .val (.ref a2), .val (.int (0 : Int32)), .val (.int (2 : Int32)), .val .null, .val (.ref b17)] [(.ref b17), (.ref a1)])) _
    refine XS.iloadN X14.here hx rfl (hb hby d2_44) rfl ?_
    show Steps p.tables e below (T14.setTop (mkF m 45 #[.val (.ref a1), .val (.ref a2), .val (.int (0 : Int32)), .val (.int (2 : Int32)), .val .null, .val (.ref b17)] [(.int (2 : Int32)), (.ref b17), (.ref a1)])) _
    refine st28 _ ?_
    show Steps p.tables e below (T28.setTop (mkF m 48 #[.val (.ref a1), .val (.ref a2), .val (.int (0 : Int32)), .val (.int (2 : Int32)), .val .null, .val (.ref b17)] [(.int (0 : Int32)), (.ref a1)])) _
    refine st37 _ ?_
    show Steps p.tables e below (T37.setTop (mkF m 51 #[.val (.ref a1), .val (.ref a2), .val (.int (0 : Int32)), .val (.int (2 : Int32)), .val .null, .val (.ref b17)] [])) _
    refine XS.aloadN X37.here hx rfl (hb hby d2_51) rfl rfl ?_
    show Steps p.tables e below (T37.setTop (mkF m 52 #[.val (.ref a1), .val (.ref a2), .val (.int (0 : Int32)), .val (.int (2 : Int32)), .val .null, .val (.ref b17)] [(.ref a1)])) _
    refine XS.aload X37.here hx rfl (hb hby d2_52) rfl rfl ?_
    show Steps p.tables e below (T37.setTop (mkF m 54 #[.val (.ref a1), .val (.ref a2), .val (.int (0 : Int32)), .val (.int (2 : Int32)), .val .null, .val (.ref b17)] [(.ref b17), (.ref a1)])) _
    refine st40 _ ?_
    show Steps p.tables e below (T40.setTop (mkF m 57 #[.val (.ref a1), .val (.ref a2), .val (.int (0 : Int32)), .val (.int (2 : Int32)), .val .null, .val (.ref b17)] [])) _
    exact X40.returnOut hx Bd.returns (hb hby d2_57) hr
  · show Q2_3 Z _ _ _ _ _ _ h0 n0 _ T40.heap _
    rw [e40]
    exact ⟨i15, i16, b17, k18, u19, u20, rfl, N40, sz_b17, (Nat.lt_of_lt_of_le (Nat.lt_of_lt_of_le u24 (Keep.of_wr W37).1) (Keep.of_wr W40).1), ((((Keep.refl h0 [a1]).trans Ku25 all0).wr W37 (Or.inl (List.mem_of_getElem? (i := 0) rfl))).wr W40 (Or.inl (List.mem_of_getElem? (i := 0) rfl))), f41, f42, Fw40, f43, f44⟩
theorem ef_rm1_2 (m : MethodId) (x0 : Addr) (x1 : Addr) : entryFrame m #[(.ref x0), (.ref x1)] 2 = mkF m 0 #[.val (.ref x0), .val (.ref x1)] [] := by first | (simp [entryFrame, mkF, argsToLocals, Value.category]; done) | rfl
def Q1_2 (Z : State) (a1 : Addr) (a2 : Addr) (p3 : Int32) (p4 : Int32) (k5 : ClassId) (p8 : Int32) (h0 : Heap) (n0 : Nat) (v : Option Value) (h : Heap) (L : List Loc) : Prop := (∃ (i17 : Int32) (i18 : Int32) (b19 : Addr) (k20 : ClassId), i18 = (p3.toInt8.toInt32) ∧ i17 = (p4.toInt8.toInt32) ∧ v = none ∧ Fr n0 L ∧ h0.size ≤ b19 ∧ b19 < h.size ∧ Keep h0 h [a1] ∧ Exa Z h a1 "java/lang/String" ∧ Fld Z h a1 "java/lang/String" "coder" "B" (.int (0 : Int32)) ∧ Fld Z h a1 "java/lang/String" "value" "[B" (.ref b19) ∧ Exa Z h b19 "[B" ∧ Arv Z h b19 k20 .byte (2 : Int32) [(.int i18), (.int i17)] (.int (0 : Int32)))
set_option maxRecDepth 65536 in
set_option maxHeartbeats 40000000 in
theorem rm1_2 (l : Launch) (Z : State) (a0 : Array Value) (hw : ∀ d ∈ own_ws, d.before a0 Z = true) (ws : List Jvm.Cond) (a1 : Addr) (a2 : Addr) (p3 : Int32) (p4 : Int32) (k5 : ClassId) (p8 : Int32) (h0 : Heap) (n0 : Nat) (O0 : Old Z n0 h0) (V6 : Arv Z h0 a2 k5 .char (2 : Int32) [(.int p3), (.int p4)] (.int (0 : Int32))) (S_9 : Sta Z Z.heap "java/lang/String" "COMPACT_STRINGS" "Z" (.int p8)) (hk10 : ¬ (p8 = (0 : Int32))) (hk11 : ¬ ((255 : Int32) < p3)) (hk12 : ¬ ((255 : Int32) < p4)) (E_13 : Exa Z h0 a1 "java/lang/String") (F14 : Fld Z h0 a1 "java/lang/String" "coder" "B" (.int (0 : Int32))) (F15 : Fld Z h0 a1 "java/lang/String" "value" "[B" .null) (lt_a2 : a2 < h0.size) (g_a1 : n0 ≤ a1) (lt_a1 : a1 < h0.size) :
    MetFree l M_4 (head1 (Jvm.Cond.code M_4 jdk_42_method_3_code 2 none :: ws) ({ frames := 3, cells := 1, slots := 2, locals := 52 } : Room)) (fun a U => a = #[(.ref a1), (.ref a2)] ∧ Z.Warmed39 U.vm ∧ U.heap = h0) (fun _ _ _ _ _ => True) (fun _ U o U' => ∃ v L, o = .returned v ∧ Q1_2 Z a1 a2 p3 p4 k5 p8 h0 n0 v U'.heap L ∧ FrameEnd U o U' L ({ frames := 3, cells := 1, slots := 2, locals := 52 } : Room).cells ({ frames := 3, cells := 1, slots := 2, locals := 52 } : Room).slots) := by
  refine MetFree.of_bodySF (plainFor_of_name pn_1) hisR ?_
  intro p e s m args below meth c s₁ Bd hml0 hP hK
  obtain ⟨rfl, hZ, hh⟩ := hP
  have hx := Bd.exec
  have hby := Bd.bytes
  have hml : c.maxLocals = 2 := hml0
  have hown : s.vm.findClass "java/lang/String" = some m.cls := findClass_of_methodNamed Bd.named
  have hnm := (name_of_methodNamed Bd.named Bd.method).1
  have X0 : Stand p l e ({ frames := 3, cells := 1, slots := 2, locals := 52 } : Room) s m #[(.ref a1), (.ref a2)] below meth c s₁ [] 0 0 := Stand.of_body Bd
  have e0 : s₁.heap = h0 := by rw [← hh, Bd.state]; rfl
  have N0 := Fr.nil n0
  have pre0 : ∀ t, Steps p.tables e below (s₁.setTop (mkF m 0 #[.val (.ref a1), .val (.ref a2)] [])) t → Steps p.tables e below (s₁.setTop (entryFrame m #[(.ref a1), (.ref a2)] 2)) t := fun t k => castTop (ef_rm1_2 m a1 a2) k
  obtain ⟨cl7, Ar7, -, Sz7, Nn7, -, -⟩ := id V6
  obtain ⟨_, _, ⟨T16, L16, k16, n16⟩, -, X16, ⟨Lc16, hQ16, l16, y16, z16⟩, st16⟩ := X0.specialBack hx (y := M_3) rfl hown (mvT hZ (hw _ (gw 33 rfl))) (mvT hZ (hw _ (gw 34 rfl))) (mvT hZ (hw _ (gw 36 rfl))) (by decide) (backOf (W := 0) (rm2_3 l Z a0 hw [] a1 a2 p8 p3 p4 k5 h0 n0  O0 S_9 hk10 V6 hk11 hk12 lt_a2 E_13 F14 F15 g_a1 lt_a1) hZ (hw _ (gw 36 rfl)) (hw _ (gw 29 rfl)) (by decide) (by decide)) (g := (mkF m 6 #[.val (.ref a1), .val (.ref a2)] [.null, (.int (2 : Int32)), (.int (0 : Int32)), (.ref a2), (.ref a1)])) rfl (by rw [hml]; rfl) (Steps.refl _) (a := a1) (argsL := [(.ref a2), (.int (0 : Int32)), (.int (2 : Int32)), .null]) (rest := []) (lenOf pd_3 rfl) rfl (by show 2 * 0 + _ ≤ _; exact Nat.le_of_eq rfl) (hb hby d1_6) (fun _ _ => ⟨rfl, e0, (by decide : 0 + 1 ≤ _), (by decide : 0 + 2 ≤ _)⟩)
  dsimp only [Pt.U, Pt.locs, Pt.cells, Pt.slots] at X16 l16 y16 z16 st16 hQ16
  subst l16 y16 z16
  obtain ⟨i17, i18, b19, k20, u21, u22, rfl, u24, u25, u26, Ku27, u28, u29, u30, u31, u32⟩ := hQ16
  have Ou27 : Old Z n0 T16.heap := O0.keep Ku27 (allS g_a1 all0)
  have g_b19 : n0 ≤ b19 := Nat.le_trans (own_z O0) u25
  have sz_b19 : h0.size ≤ b19 := Nat.le_trans (Nat.le_refl _) u25
  have N16 := Fr.app N0 u24
  obtain ⟨fs, hr, hrun, hended, hW, hsame⟩ := X16.leave (v := none) (fun _ => rfl)
  refine ⟨_, _, pre0 _ ?_, hrun, hended, _, _, rfl, ?_, ⟨_, rfl⟩, hW, hsame.mono (by decide) (by decide)⟩
  · show Steps p.tables e below (s₁.setTop (mkF m 0 #[.val (.ref a1), .val (.ref a2)] [])) _
    refine XS.aloadN X0.here hx rfl (hb hby d1_0) rfl rfl ?_
    show Steps p.tables e below (s₁.setTop (mkF m 1 #[.val (.ref a1), .val (.ref a2)] [(.ref a1)])) _
    refine XS.aloadN X0.here hx rfl (hb hby d1_1) rfl rfl ?_
    show Steps p.tables e below (s₁.setTop (mkF m 2 #[.val (.ref a1), .val (.ref a2)] [(.ref a2), (.ref a1)])) _
    refine XS.iconst X0.here hx rfl (hb hby d1_2) ?_
    show Steps p.tables e below (s₁.setTop (mkF m 3 #[.val (.ref a1), .val (.ref a2)] [(.int (0 : Int32)), (.ref a2), (.ref a1)])) _
    refine XS.aloadN X0.here hx rfl (hb hby d1_3) rfl rfl ?_
    show Steps p.tables e below (s₁.setTop (mkF m 4 #[.val (.ref a1), .val (.ref a2)] [(.ref a2), (.int (0 : Int32)), (.ref a2), (.ref a1)])) _
    refine X0.arraylength hx (by rw [e0]; exact Ar7.1) (State.isArrayOf_alike hZ.alike Ar7.2.1) (g := (mkF m 4 #[.val (.ref a1), .val (.ref a2)] [(.ref a2), (.int (0 : Int32)), (.ref a2), (.ref a1)])) rfl rfl (hb hby d1_4) _ ?_
    rw [len_of Sz7 Nn7]
    show Steps p.tables e below (s₁.setTop (mkF m 5 #[.val (.ref a1), .val (.ref a2)] [(.int (2 : Int32)), (.int (0 : Int32)), (.ref a2), (.ref a1)])) _
    refine XS.aconstNull X0.here hx rfl (hb hby d1_5) ?_
    show Steps p.tables e below (s₁.setTop (mkF m 6 #[.val (.ref a1), .val (.ref a2)] [.null, (.int (2 : Int32)), (.int (0 : Int32)), (.ref a2), (.ref a1)])) _
    refine st16.trans ?_
    show Steps p.tables e below (T16.setTop (mkF m 9 #[.val (.ref a1), .val (.ref a2)] [])) _
    exact X16.returnOut hx Bd.returns (hb hby d1_9) hr
  · show Q1_2 Z _ _ _ _ _ _ h0 n0 _ T16.heap _
    exact ⟨i17, i18, b19, k20, u21, u22, rfl, N16, sz_b19, u26, ((Keep.refl h0 [a1]).trans Ku27 (allS (Or.inl (List.mem_of_getElem? (i := 0) rfl)) all0)), u28, u29, u30, u31, u32⟩
theorem ef_rm5_10 (m : MethodId) (x0 : Addr) (x2 : Addr) : entryFrame m #[(.ref x0), (.int (0 : Int32)), (.ref x2), (.int (0 : Int32)), (.int (1 : Int32))] 7 = mkF m 0 #[.val (.ref x0), .val (.int (0 : Int32)), .val (.ref x2), .val (.int (0 : Int32)), .val (.int (1 : Int32)), .unset, .unset] [] := by first | (simp [entryFrame, mkF, argsToLocals, Value.category]; done) | rfl
def Q5_10 (Z : State) (a1 : Addr) (a2 : Addr) (p3 : Int32) (k4 : ClassId) (k9 : ClassId) (h0 : Heap) (n0 : Nat) (v : Option Value) (h : Heap) (L : List Loc) : Prop := (∃ (i8 : Int32), i8 = (p3.toInt8.toInt32) ∧ v = some (.int (1 : Int32)) ∧ Fr n0 L ∧ Keep h0 h [a2] ∧ Exa Z h a2 "[B" ∧ Arv Z h a2 k9 .byte (1 : Int32) [(.int i8)] (.int (0 : Int32)))
set_option maxRecDepth 65536 in
set_option maxHeartbeats 40000000 in
theorem rm5_10 (l : Launch) (Z : State) (a0 : Array Value) (hw : ∀ d ∈ own_ws, d.before a0 Z = true) (ws : List Jvm.Cond) (a1 : Addr) (a2 : Addr) (p3 : Int32) (k4 : ClassId) (k9 : ClassId) (h0 : Heap) (n0 : Nat) (O0 : Old Z n0 h0) (V5 : Arv Z h0 a1 k4 .char (1 : Int32) [(.int p3)] (.int (0 : Int32))) (hk7 : ¬ ((255 : Int32) < p3)) (V10 : Arv Z h0 a2 k9 .byte (1 : Int32) [] (.int (0 : Int32))) (g_a2 : n0 ≤ a2) (E_14 : Exa Z h0 a2 "[B") :
    MetFree l M_0 (head1 (Jvm.Cond.code M_0 jdk_52_method_21_code 7 (some .int) :: ws) ({ frames := 0, cells := 0, slots := 0, locals := 0 } : Room)) (fun a U => a = #[(.ref a1), (.int (0 : Int32)), (.ref a2), (.int (0 : Int32)), (.int (1 : Int32))] ∧ Z.Warmed39 U.vm ∧ U.heap = h0) (fun _ _ _ _ _ => True) (fun _ U o U' => ∃ v L, o = .returned v ∧ Q5_10 Z a1 a2 p3 k4 k9 h0 n0 v U'.heap L ∧ FrameEnd U o U' L ({ frames := 0, cells := 0, slots := 0, locals := 0 } : Room).cells ({ frames := 0, cells := 0, slots := 0, locals := 0 } : Room).slots) := by
  refine MetFree.of_bodySF (plainFor_of_name pn_0) hisR ?_
  intro p e s m args below meth c s₁ Bd hml0 hP hK
  obtain ⟨rfl, hZ, hh⟩ := hP
  have hx := Bd.exec
  have hby := Bd.bytes
  have hml : c.maxLocals = 7 := hml0
  have hown : s.vm.findClass "java/lang/StringUTF16" = some m.cls := findClass_of_methodNamed Bd.named
  have hnm := (name_of_methodNamed Bd.named Bd.method).1
  have X0 : Stand p l e ({ frames := 0, cells := 0, slots := 0, locals := 0 } : Room) s m #[(.ref a1), (.int (0 : Int32)), (.ref a2), (.int (0 : Int32)), (.int (1 : Int32))] below meth c s₁ [] 0 0 := Stand.of_body Bd
  have e0 : s₁.heap = h0 := by rw [← hh, Bd.state]; rfl
  have N0 := Fr.nil n0
  have pre0 : ∀ t, Steps p.tables e below (s₁.setTop (mkF m 0 #[.val (.ref a1), .val (.int (0 : Int32)), .val (.ref a2), .val (.int (0 : Int32)), .val (.int (1 : Int32)), .unset, .unset] [])) t → Steps p.tables e below (s₁.setTop (entryFrame m #[(.ref a1), (.int (0 : Int32)), (.ref a2), (.int (0 : Int32)), (.int (1 : Int32))] 7)) t := fun t k => castTop (ef_rm5_10 m a1 a2) k
  obtain ⟨cl6, Ar6, -, Sz6, -, Hh6, -⟩ := id V5
  have hin6 : ¬ ((0 : Int32) < 0 ∨ cl6.slots.size ≤ ((0 : Int32)).toNatClampNeg) := inb_of Sz6 ⟨by decide +kernel, by decide +kernel⟩
  have hat6 : cl6.slots[((0 : Int32)).toNatClampNeg]? = some (.int p3) := Has.at Hh6 hin6 rfl
  obtain ⟨i8, hi8⟩ : ∃ z, z = (p3.toInt8.toInt32) := ⟨_, rfl⟩
  have Vp11 : Arv Z h0 a2 k9 .byte (1 : Int32) [(.int (0 : Int32))] (.int (0 : Int32)) := V10.pad (pad_rep [] (.int (0 : Int32)) 1)
  obtain ⟨cl12, Ar12, qk12, Sz12, Nn12, Hh12, Gg12⟩ := id Vp11
  have hin12 : ¬ ((0 : Int32) < 0 ∨ cl12.slots.size ≤ ((0 : Int32)).toNatClampNeg) := inb_of Sz12 ⟨by decide +kernel, by decide +kernel⟩
  obtain ⟨T13, h13, X13, e13, W13, st13⟩ := stB X0 hx hZ e0 Ar12 (j := (0 : Int32)) hin12 (g := (mkF m 31 #[.val (.ref a1), .val (.int (0 : Int32)), .val (.ref a2), .val (.int (0 : Int32)), .val (.int (1 : Int32)), .val (.int (0 : Int32)), .val (.int p3)] [(.int i8), (.int (0 : Int32)), (.ref a2)])) rfl rfl (hb hby d5_31)
  rw [show nar .byte i8 = i8 from (own_i2b2 hi8 : (i8.toInt8.toInt32) = i8)] at W13
  have O13 : Old Z n0 h13 := O0.wr W13 g_a2
  have V13 : Arv Z h13 a2 k9 .byte (1 : Int32) [(.int i8)] (.int (0 : Int32)) := Arv.set Ar12 qk12 Sz12 Nn12 Hh12 Gg12 ((own_i2b2 hi8 : (i8.toInt8.toInt32) = i8) ▸ fits_nar_byte _) W13 0 rfl (Nat.le_of_ble_eq_true rfl)
  have N13 := Fr.snoc X13 N0 g_a2
  obtain ⟨fs, hr, hrun, hended, hW, hsame⟩ := X13.leave (v := some (.int (1 : Int32))) (fun h => by rw [Bd.returns] at h; cases h)
  have f15 : Exa Z h13 a2 "[B" := (Exa.wr W13 E_14)
  refine ⟨_, _, pre0 _ ?_, hrun, hended, _, _, rfl, ?_, ⟨_, rfl⟩, hW, hsame.mono (by decide) (by decide)⟩
  · show Steps p.tables e below (s₁.setTop (mkF m 0 #[.val (.ref a1), .val (.int (0 : Int32)), .val (.ref a2), .val (.int (0 : Int32)), .val (.int (1 : Int32)), .unset, .unset] [])) _
    refine XS.iconst X0.here hx rfl (hb hby d5_0) ?_
    show Steps p.tables e below (s₁.setTop (mkF m 1 #[.val (.ref a1), .val (.int (0 : Int32)), .val (.ref a2), .val (.int (0 : Int32)), .val (.int (1 : Int32)), .unset, .unset] [(.int (0 : Int32))])) _
    refine XS.istore X0.here hx rfl (hb hby d5_1) rfl (l' := #[.val (.ref a1), .val (.int (0 : Int32)), .val (.ref a2), .val (.int (0 : Int32)), .val (.int (1 : Int32)), .val (.int (0 : Int32)), .unset]) rfl ?_
    show Steps p.tables e below (s₁.setTop (mkF m 3 #[.val (.ref a1), .val (.int (0 : Int32)), .val (.ref a2), .val (.int (0 : Int32)), .val (.int (1 : Int32)), .val (.int (0 : Int32)), .unset] [])) _
    refine XS.iload X0.here hx rfl (hb hby d5_3) rfl ?_
    show Steps p.tables e below (s₁.setTop (mkF m 5 #[.val (.ref a1), .val (.int (0 : Int32)), .val (.ref a2), .val (.int (0 : Int32)), .val (.int (1 : Int32)), .val (.int (0 : Int32)), .unset] [(.int (0 : Int32))])) _
    refine XS.iload X0.here hx rfl (hb hby d5_5) rfl ?_
    show Steps p.tables e below (s₁.setTop (mkF m 7 #[.val (.ref a1), .val (.int (0 : Int32)), .val (.ref a2), .val (.int (0 : Int32)), .val (.int (1 : Int32)), .val (.int (0 : Int32)), .unset] [(.int (1 : Int32)), (.int (0 : Int32))])) _
    refine XS.icmpNo X0.here hx rfl (hb hby d5_7) rfl (tlt (by decide +kernel : (0 : Int32) < (1 : Int32))).2.1 ?_
    show Steps p.tables e below (s₁.setTop (mkF m 10 #[.val (.ref a1), .val (.int (0 : Int32)), .val (.ref a2), .val (.int (0 : Int32)), .val (.int (1 : Int32)), .val (.int (0 : Int32)), .unset] [])) _
    refine XS.aloadN X0.here hx rfl (hb hby d5_10) rfl rfl ?_
    show Steps p.tables e below (s₁.setTop (mkF m 11 #[.val (.ref a1), .val (.int (0 : Int32)), .val (.ref a2), .val (.int (0 : Int32)), .val (.int (1 : Int32)), .val (.int (0 : Int32)), .unset] [(.ref a1)])) _
    refine XS.iloadN X0.here hx rfl (hb hby d5_11) rfl ?_
    show Steps p.tables e below (s₁.setTop (mkF m 12 #[.val (.ref a1), .val (.int (0 : Int32)), .val (.ref a2), .val (.int (0 : Int32)), .val (.int (1 : Int32)), .val (.int (0 : Int32)), .unset] [(.int (0 : Int32)), (.ref a1)])) _
    refine X0.caload hx (j := (0 : Int32)) (v := (.int p3)) (by rw [e0]; exact Ar6.1) (State.isArrayOf_alike hZ.alike Ar6.2.1) Ar6.2.2 hin6 hat6 (g := (mkF m 12 #[.val (.ref a1), .val (.int (0 : Int32)), .val (.ref a2), .val (.int (0 : Int32)), .val (.int (1 : Int32)), .val (.int (0 : Int32)), .unset] [(.int (0 : Int32)), (.ref a1)])) rfl rfl (hb hby d5_12) _ ?_
    show Steps p.tables e below (s₁.setTop (mkF m 13 #[.val (.ref a1), .val (.int (0 : Int32)), .val (.ref a2), .val (.int (0 : Int32)), .val (.int (1 : Int32)), .val (.int (0 : Int32)), .unset] [(.int p3)])) _
    refine XS.istore X0.here hx rfl (hb hby d5_13) rfl (l' := #[.val (.ref a1), .val (.int (0 : Int32)), .val (.ref a2), .val (.int (0 : Int32)), .val (.int (1 : Int32)), .val (.int (0 : Int32)), .val (.int p3)]) rfl ?_
    show Steps p.tables e below (s₁.setTop (mkF m 15 #[.val (.ref a1), .val (.int (0 : Int32)), .val (.ref a2), .val (.int (0 : Int32)), .val (.int (1 : Int32)), .val (.int (0 : Int32)), .val (.int p3)] [])) _
    refine XS.iload X0.here hx rfl (hb hby d5_15) rfl ?_
    show Steps p.tables e below (s₁.setTop (mkF m 17 #[.val (.ref a1), .val (.int (0 : Int32)), .val (.ref a2), .val (.int (0 : Int32)), .val (.int (1 : Int32)), .val (.int (0 : Int32)), .val (.int p3)] [(.int p3)])) _
    refine XS.sipush X0.here hx rfl (hb hby d5_17) ?_
    show Steps p.tables e below (s₁.setTop (mkF m 20 #[.val (.ref a1), .val (.int (0 : Int32)), .val (.ref a2), .val (.int (0 : Int32)), .val (.int (1 : Int32)), .val (.int (0 : Int32)), .val (.int p3)] [(.int (255 : Int32)), (.int p3)])) _
    refine XS.icmpYes X0.here hx rfl (pc0 := 20) (pc' := 26) rfl (hb hby d5_20) rfl (flt hk7).2.2.2 (by decide) (by decide) ?_
    show Steps p.tables e below (s₁.setTop (mkF m 26 #[.val (.ref a1), .val (.int (0 : Int32)), .val (.ref a2), .val (.int (0 : Int32)), .val (.int (1 : Int32)), .val (.int (0 : Int32)), .val (.int p3)] [])) _
    refine XS.aloadN X0.here hx rfl (hb hby d5_26) rfl rfl ?_
    show Steps p.tables e below (s₁.setTop (mkF m 27 #[.val (.ref a1), .val (.int (0 : Int32)), .val (.ref a2), .val (.int (0 : Int32)), .val (.int (1 : Int32)), .val (.int (0 : Int32)), .val (.int p3)] [(.ref a2)])) _
    refine XS.iloadN X0.here hx rfl (hb hby d5_27) rfl ?_
    show Steps p.tables e below (s₁.setTop (mkF m 28 #[.val (.ref a1), .val (.int (0 : Int32)), .val (.ref a2), .val (.int (0 : Int32)), .val (.int (1 : Int32)), .val (.int (0 : Int32)), .val (.int p3)] [(.int (0 : Int32)), (.ref a2)])) _
    refine XS.iload X0.here hx rfl (hb hby d5_28) rfl ?_
    show Steps p.tables e below (s₁.setTop (mkF m 30 #[.val (.ref a1), .val (.int (0 : Int32)), .val (.ref a2), .val (.int (0 : Int32)), .val (.int (1 : Int32)), .val (.int (0 : Int32)), .val (.int p3)] [(.int p3), (.int (0 : Int32)), (.ref a2)])) _
    refine XS.i2b X0.here hx rfl (hb hby d5_30) rfl ?_
    show Steps p.tables e below (s₁.setTop (mkF m 31 #[.val (.ref a1), .val (.int (0 : Int32)), .val (.ref a2), .val (.int (0 : Int32)), .val (.int (1 : Int32)), .val (.int (0 : Int32)), .val (.int p3)] [(.int (p3.toInt8.toInt32)), (.int (0 : Int32)), (.ref a2)])) _
    rw [← hi8]
    show Steps p.tables e below (s₁.setTop (mkF m 31 #[.val (.ref a1), .val (.int (0 : Int32)), .val (.ref a2), .val (.int (0 : Int32)), .val (.int (1 : Int32)), .val (.int (0 : Int32)), .val (.int p3)] [(.int i8), (.int (0 : Int32)), (.ref a2)])) _
    refine st13 _ ?_
    show Steps p.tables e below (T13.setTop (mkF m 32 #[.val (.ref a1), .val (.int (0 : Int32)), .val (.ref a2), .val (.int (0 : Int32)), .val (.int (1 : Int32)), .val (.int (0 : Int32)), .val (.int p3)] [])) _
    refine XS.iinc X13.here hx rfl (hb hby d5_32) rfl (l' := #[.val (.ref a1), .val (.int ((0 : Int32) + (1 : Int32))), .val (.ref a2), .val (.int (0 : Int32)), .val (.int (1 : Int32)), .val (.int (0 : Int32)), .val (.int p3)]) rfl ?_
    show Steps p.tables e below (T13.setTop (mkF m 35 #[.val (.ref a1), .val (.int ((0 : Int32) + (1 : Int32))), .val (.ref a2), .val (.int (0 : Int32)), .val (.int (1 : Int32)), .val (.int (0 : Int32)), .val (.int p3)] [])) _
    rw [(by decide +kernel : ((0 : Int32) + (1 : Int32)) = (1 : Int32))]
    show Steps p.tables e below (T13.setTop (mkF m 35 #[.val (.ref a1), .val (.int (1 : Int32)), .val (.ref a2), .val (.int (0 : Int32)), .val (.int (1 : Int32)), .val (.int (0 : Int32)), .val (.int p3)] [])) _
    refine XS.iinc X13.here hx rfl (hb hby d5_35) rfl (l' := #[.val (.ref a1), .val (.int (1 : Int32)), .val (.ref a2), .val (.int ((0 : Int32) + (1 : Int32))), .val (.int (1 : Int32)), .val (.int (0 : Int32)), .val (.int p3)]) rfl ?_
    show Steps p.tables e below (T13.setTop (mkF m 38 #[.val (.ref a1), .val (.int (1 : Int32)), .val (.ref a2), .val (.int ((0 : Int32) + (1 : Int32))), .val (.int (1 : Int32)), .val (.int (0 : Int32)), .val (.int p3)] [])) _
    rw [(by decide +kernel : ((0 : Int32) + (1 : Int32)) = (1 : Int32))]
    show Steps p.tables e below (T13.setTop (mkF m 38 #[.val (.ref a1), .val (.int (1 : Int32)), .val (.ref a2), .val (.int (1 : Int32)), .val (.int (1 : Int32)), .val (.int (0 : Int32)), .val (.int p3)] [])) _
    refine XS.iinc X13.here hx rfl (hb hby d5_38) rfl (l' := #[.val (.ref a1), .val (.int (1 : Int32)), .val (.ref a2), .val (.int (1 : Int32)), .val (.int (1 : Int32)), .val (.int ((0 : Int32) + (1 : Int32))), .val (.int p3)]) rfl ?_
    show Steps p.tables e below (T13.setTop (mkF m 41 #[.val (.ref a1), .val (.int (1 : Int32)), .val (.ref a2), .val (.int (1 : Int32)), .val (.int (1 : Int32)), .val (.int ((0 : Int32) + (1 : Int32))), .val (.int p3)] [])) _
    rw [(by decide +kernel : ((0 : Int32) + (1 : Int32)) = (1 : Int32))]
    show Steps p.tables e below (T13.setTop (mkF m 41 #[.val (.ref a1), .val (.int (1 : Int32)), .val (.ref a2), .val (.int (1 : Int32)), .val (.int (1 : Int32)), .val (.int (1 : Int32)), .val (.int p3)] [])) _
    refine XS.goto X13.here hx rfl (pc0 := 41) (pc' := 3) rfl (hb hby d5_41) (by decide) (by decide) ?_
    show Steps p.tables e below (T13.setTop (mkF m 3 #[.val (.ref a1), .val (.int (1 : Int32)), .val (.ref a2), .val (.int (1 : Int32)), .val (.int (1 : Int32)), .val (.int (1 : Int32)), .val (.int p3)] [])) _
    refine XS.iload X13.here hx rfl (hb hby d5_3) rfl ?_
    show Steps p.tables e below (T13.setTop (mkF m 5 #[.val (.ref a1), .val (.int (1 : Int32)), .val (.ref a2), .val (.int (1 : Int32)), .val (.int (1 : Int32)), .val (.int (1 : Int32)), .val (.int p3)] [(.int (1 : Int32))])) _
    refine XS.iload X13.here hx rfl (hb hby d5_5) rfl ?_
    show Steps p.tables e below (T13.setTop (mkF m 7 #[.val (.ref a1), .val (.int (1 : Int32)), .val (.ref a2), .val (.int (1 : Int32)), .val (.int (1 : Int32)), .val (.int (1 : Int32)), .val (.int p3)] [(.int (1 : Int32)), (.int (1 : Int32))])) _
    refine XS.icmpYes X13.here hx rfl (pc0 := 7) (pc' := 44) rfl (hb hby d5_7) rfl (flt (by decide +kernel : ¬ ((1 : Int32) < (1 : Int32)))).2.1 (by decide) (by decide) ?_
    show Steps p.tables e below (T13.setTop (mkF m 44 #[.val (.ref a1), .val (.int (1 : Int32)), .val (.ref a2), .val (.int (1 : Int32)), .val (.int (1 : Int32)), .val (.int (1 : Int32)), .val (.int p3)] [])) _
    refine XS.iload X13.here hx rfl (hb hby d5_44) rfl ?_
    show Steps p.tables e below (T13.setTop (mkF m 46 #[.val (.ref a1), .val (.int (1 : Int32)), .val (.ref a2), .val (.int (1 : Int32)), .val (.int (1 : Int32)), .val (.int (1 : Int32)), .val (.int p3)] [(.int (1 : Int32))])) _
    exact retI X13 hx Bd.returns (hb hby d5_46) hr
  · show Q5_10 Z _ _ _ _ _ h0 n0 _ T13.heap _
    rw [e13]
    exact ⟨i8, hi8, rfl, N13, ((Keep.refl h0 [a2]).wr W13 (Or.inl (List.mem_of_getElem? (i := 0) rfl))), f15, V13⟩
theorem ef_rm4_9 (m : MethodId) (x0 : Addr) : entryFrame m #[(.ref x0), (.int (0 : Int32)), (.int (1 : Int32))] 6 = mkF m 0 #[.val (.ref x0), .val (.int (0 : Int32)), .val (.int (1 : Int32)), .unset, .unset, .unset] [] := by first | (simp [entryFrame, mkF, argsToLocals, Value.category]; done) | rfl
def Q4_9 (Z : State) (a1 : Addr) (p3 : Int32) (k4 : ClassId) (h0 : Heap) (n0 : Nat) (v : Option Value) (h : Heap) (L : List Loc) : Prop := (∃ (i9 : Int32) (b2 : Addr) (k2 : ClassId), i9 = (p3.toInt8.toInt32) ∧ v = some (.ref b2) ∧ Fr n0 L ∧ h0.size ≤ b2 ∧ b2 < h.size ∧ Keep h0 h [] ∧ Exa Z h b2 "[B" ∧ Arv Z h b2 k2 .byte (1 : Int32) [(.int i9)] (.int (0 : Int32)))
set_option maxRecDepth 65536 in
set_option maxHeartbeats 40000000 in
theorem rm4_9 (l : Launch) (Z : State) (a0 : Array Value) (hw : ∀ d ∈ own_ws, d.before a0 Z = true) (ws : List Jvm.Cond) (a1 : Addr) (p3 : Int32) (k4 : ClassId) (h0 : Heap) (n0 : Nat) (O0 : Old Z n0 h0) (V5 : Arv Z h0 a1 k4 .char (1 : Int32) [(.int p3)] (.int (0 : Int32))) (hk6 : ¬ ((255 : Int32) < p3)) :
    MetFree l M_1 (head1 (Jvm.Cond.code M_1 jdk_52_method_16_code 6 (some (.array .byte)) :: ws) ({ frames := 1, cells := 1, slots := 1, locals := 18 } : Room)) (fun a U => a = #[(.ref a1), (.int (0 : Int32)), (.int (1 : Int32))] ∧ Z.Warmed39 U.vm ∧ U.heap = h0) (fun _ _ _ _ _ => True) (fun _ U o U' => ∃ v L, o = .returned v ∧ Q4_9 Z a1 p3 k4 h0 n0 v U'.heap L ∧ FrameEnd U o U' L ({ frames := 1, cells := 1, slots := 1, locals := 18 } : Room).cells ({ frames := 1, cells := 1, slots := 1, locals := 18 } : Room).slots) := by
  refine MetFree.of_bodySF (plainFor_of_name pn_0) hisR ?_
  intro p e s m args below meth c s₁ Bd hml0 hP hK
  obtain ⟨rfl, hZ, hh⟩ := hP
  have hx := Bd.exec
  have hby := Bd.bytes
  have hml : c.maxLocals = 6 := hml0
  have hown : s.vm.findClass "java/lang/StringUTF16" = some m.cls := findClass_of_methodNamed Bd.named
  have hnm := (name_of_methodNamed Bd.named Bd.method).1
  have X0 : Stand p l e ({ frames := 1, cells := 1, slots := 1, locals := 18 } : Room) s m #[(.ref a1), (.int (0 : Int32)), (.int (1 : Int32))] below meth c s₁ [] 0 0 := Stand.of_body Bd
  have e0 : s₁.heap = h0 := by rw [← hh, Bd.state]; rfl
  have N0 := Fr.nil n0
  have pre0 : ∀ t, Steps p.tables e below (s₁.setTop (mkF m 0 #[.val (.ref a1), .val (.int (0 : Int32)), .val (.int (1 : Int32)), .unset, .unset, .unset] [])) t → Steps p.tables e below (s₁.setTop (entryFrame m #[(.ref a1), (.int (0 : Int32)), (.int (1 : Int32))] 6)) t := fun t k => castTop (ef_rm4_9 m a1) k
  obtain ⟨T2, h2, k2, X2, e2, E2, A2, Ex2, st2⟩ := newPE X0 hx hZ (hw _ (gw 45 rfl)) e0 (g := (mkF m 1 #[.val (.ref a1), .val (.int (0 : Int32)), .val (.int (1 : Int32)), .unset, .unset, .unset] [(.int (1 : Int32))])) rfl (hb hby d4_1) rfl (by decide +kernel) (cap := 1) (by decide +kernel) (by decide) (by decide) (by decide) (ad := "[B") (by decide +kernel)
  obtain ⟨b2, g2⟩ : ∃ z, z = h0.size := ⟨_, rfl⟩
  rw [← g2] at A2 Ex2 st2
  have O2 : Old Z n0 h2 := O0.ext E2
  have bd_b2 : h0.size ≤ b2 := Nat.le_of_eq g2.symm
  have g_b2 : n0 ≤ b2 := Nat.le_trans (own_z O0) bd_b2
  have sz_b2 : h0.size ≤ b2 := Nat.le_trans (Nat.le_refl _) bd_b2
  have lt_b2 : b2 < h2.size := A2.lt
  have V2 : Arv Z h2 b2 k2 .byte (1 : Int32) [] (.int (0 : Int32)) := Arv.new A2 (by decide +kernel)
  have f7 : Arv Z h2 a1 k4 .char (1 : Int32) [(.int p3)] (.int (0 : Int32)) := (V5.ext E2)
  obtain ⟨_, _, ⟨T8, L8, k8, n8⟩, -, X8, ⟨Lc8, hQ8, l8, y8, z8⟩, st8⟩ := Jvm.LawKit.callS X2 hx (y := M_0) hown (mvT hZ (hw _ (gw 46 rfl))) (mvT hZ (hw _ (gw 47 rfl))) (mvT hZ (hw _ (gw 43 rfl))) (mvT hZ (hw _ (gw 48 rfl))) (by decide) (backOf (W := 0) (rm5_10 l Z a0 hw [] a1 b2 p3 k4 k2 h2 n0  O2 f7 hk6 V2 g_b2 Ex2) hZ (hw _ (gw 48 rfl)) (hw _ (gw 43 rfl)) (by decide) (by decide)) (g := (mkF m 9 #[.val (.ref a1), .val (.int (0 : Int32)), .val (.int (1 : Int32)), .val (.ref b2), .unset, .unset] [(.int (1 : Int32)), (.int (0 : Int32)), (.ref b2), (.int (0 : Int32)), (.ref a1)])) rfl (by rw [hml]; rfl) (argsL := [(.ref a1), (.int (0 : Int32)), (.ref b2), (.int (0 : Int32)), (.int (1 : Int32))]) (rest := []) (lenOf pd_0 rfl) rfl (by show 2 * 0 + _ ≤ _; exact Nat.le_of_eq rfl) (hb hby d4_9) (fun _ _ => ⟨rfl, e2, (by decide : 1 + 0 ≤ _), (by decide : 1 + 0 ≤ _)⟩)
  dsimp only [Pt.U, Pt.locs, Pt.cells, Pt.slots] at X8 l8 y8 z8 st8 hQ8
  subst l8 y8 z8
  obtain ⟨i9, u10, rfl, u12, Ku13, u14, u15⟩ := hQ8
  have Ou13 : Old Z n0 T8.heap := O2.keep Ku13 (allS g_b2 all0)
  have N8 := Fr.app N0 u12
  obtain ⟨fs, hr, hrun, hended, hW, hsame⟩ := X8.leave (v := some (.ref b2)) (fun h => by rw [Bd.returns] at h; cases h)
  refine ⟨_, _, pre0 _ ?_, hrun, hended, _, _, rfl, ?_, ⟨_, rfl⟩, hW, hsame.mono (by decide) (by decide)⟩
  · show Steps p.tables e below (s₁.setTop (mkF m 0 #[.val (.ref a1), .val (.int (0 : Int32)), .val (.int (1 : Int32)), .unset, .unset, .unset] [])) _
    refine XS.iloadN X0.here hx rfl (hb hby d4_0) rfl ?_
    show Steps p.tables e below (s₁.setTop (mkF m 1 #[.val (.ref a1), .val (.int (0 : Int32)), .val (.int (1 : Int32)), .unset, .unset, .unset] [(.int (1 : Int32))])) _
    refine st2 _ ?_
    show Steps p.tables e below (T2.setTop (mkF m 3 #[.val (.ref a1), .val (.int (0 : Int32)), .val (.int (1 : Int32)), .unset, .unset, .unset] [(.ref b2)])) _
    refine XS.astoreN X2.here hx rfl (hb hby d4_3) rfl rfl (l' := #[.val (.ref a1), .val (.int (0 : Int32)), .val (.int (1 : Int32)), .val (.ref b2), .unset, .unset]) rfl ?_
    show Steps p.tables e below (T2.setTop (mkF m 4 #[.val (.ref a1), .val (.int (0 : Int32)), .val (.int (1 : Int32)), .val (.ref b2), .unset, .unset] [])) _
    refine XS.aloadN X2.here hx rfl (hb hby d4_4) rfl rfl ?_
    show Steps p.tables e below (T2.setTop (mkF m 5 #[.val (.ref a1), .val (.int (0 : Int32)), .val (.int (1 : Int32)), .val (.ref b2), .unset, .unset] [(.ref a1)])) _
    refine XS.iloadN X2.here hx rfl (hb hby d4_5) rfl ?_
    show Steps p.tables e below (T2.setTop (mkF m 6 #[.val (.ref a1), .val (.int (0 : Int32)), .val (.int (1 : Int32)), .val (.ref b2), .unset, .unset] [(.int (0 : Int32)), (.ref a1)])) _
    refine XS.aloadN X2.here hx rfl (hb hby d4_6) rfl rfl ?_
    show Steps p.tables e below (T2.setTop (mkF m 7 #[.val (.ref a1), .val (.int (0 : Int32)), .val (.int (1 : Int32)), .val (.ref b2), .unset, .unset] [(.ref b2), (.int (0 : Int32)), (.ref a1)])) _
    refine XS.iconst X2.here hx rfl (hb hby d4_7) ?_
    show Steps p.tables e below (T2.setTop (mkF m 8 #[.val (.ref a1), .val (.int (0 : Int32)), .val (.int (1 : Int32)), .val (.ref b2), .unset, .unset] [(.int (0 : Int32)), (.ref b2), (.int (0 : Int32)), (.ref a1)])) _
    refine XS.iloadN X2.here hx rfl (hb hby d4_8) rfl ?_
    show Steps p.tables e below (T2.setTop (mkF m 9 #[.val (.ref a1), .val (.int (0 : Int32)), .val (.int (1 : Int32)), .val (.ref b2), .unset, .unset] [(.int (1 : Int32)), (.int (0 : Int32)), (.ref b2), (.int (0 : Int32)), (.ref a1)])) _
    refine st8 _ ?_
    show Steps p.tables e below (T8.setTop (mkF m 12 #[.val (.ref a1), .val (.int (0 : Int32)), .val (.int (1 : Int32)), .val (.ref b2), .unset, .unset] [(.int (1 : Int32))])) _
    refine XS.istore X8.here hx rfl (hb hby d4_12) rfl (l' := #[.val (.ref a1), .val (.int (0 : Int32)), .val (.int (1 : Int32)), .val (.ref b2), .val (.int (1 : Int32)), .unset]) rfl ?_
    show Steps p.tables e below (T8.setTop (mkF m 14 #[.val (.ref a1), .val (.int (0 : Int32)), .val (.int (1 : Int32)), .val (.ref b2), .val (.int (1 : Int32)), .unset] [])) _
    refine XS.iload X8.here hx rfl (hb hby d4_14) rfl ?_
    show Steps p.tables e below (T8.setTop (mkF m 16 #[.val (.ref a1), .val (.int (0 : Int32)), .val (.int (1 : Int32)), .val (.ref b2), .val (.int (1 : Int32)), .unset] [(.int (1 : Int32))])) _
    refine XS.iloadN X8.here hx rfl (hb hby d4_16) rfl ?_
    show Steps p.tables e below (T8.setTop (mkF m 17 #[.val (.ref a1), .val (.int (0 : Int32)), .val (.int (1 : Int32)), .val (.ref b2), .val (.int (1 : Int32)), .unset] [(.int (1 : Int32)), (.int (1 : Int32))])) _
    refine XS.icmpYes X8.here hx rfl (pc0 := 17) (pc' := 57) rfl (hb hby d4_17) rfl (teq (by decide +kernel : (1 : Int32) = (1 : Int32))).1 (by decide) (by decide) ?_
    show Steps p.tables e below (T8.setTop (mkF m 57 #[.val (.ref a1), .val (.int (0 : Int32)), .val (.int (1 : Int32)), .val (.ref b2), .val (.int (1 : Int32)), .unset] [])) _
    refine XS.aloadN X8.here hx rfl (hb hby d4_57) rfl rfl ?_
    show Steps p.tables e below (T8.setTop (mkF m 58 #[.val (.ref a1), .val (.int (0 : Int32)), .val (.int (1 : Int32)), .val (.ref b2), .val (.int (1 : Int32)), .unset] [(.ref b2)])) _
    jvm_step X8.here [X8.here.top, hx, (hb hby d4_58), X8.method', Bd.returns, Value.isRef, FieldType.isReference]
    first | (intro acts; rw [hr _ acts rfl rfl rfl]) | rw [hr _ _ rfl rfl rfl]
    exact Steps.refl _
  · show Q4_9 Z _ _ _ h0 n0 _ T8.heap _
    exact ⟨i9, b2, k2, u10, rfl, N8, sz_b2, (Nat.lt_of_lt_of_le lt_b2 Ku13.1), (((Keep.refl h0 []).ext E2).trans Ku13 (allS (Or.inr sz_b2) all0)), u14, u15⟩
theorem ef_rm6_11 (m : MethodId) (x0 : Addr) : entryFrame m #[(.ref x0), (.int (1 : Int32))] 2 = mkF m 0 #[.val (.ref x0), .val (.int (1 : Int32))] [] := by first | (simp [entryFrame, mkF, argsToLocals, Value.category]; done) | rfl
def Q6_11 (Z : State) (a1 : Addr) (p2 : Int32) (k3 : ClassId) (h0 : Heap) (n0 : Nat) (v : Option Value) (h : Heap) (L : List Loc) : Prop := (v = some (.int (0 : Int32)) ∧ Fr n0 L ∧ h = h0)
set_option maxRecDepth 65536 in
set_option maxHeartbeats 40000000 in
theorem rm6_11 (l : Launch) (Z : State) (a0 : Array Value) (hw : ∀ d ∈ own_ws, d.before a0 Z = true) (ws : List Jvm.Cond) (a1 : Addr) (p2 : Int32) (k3 : ClassId) (h0 : Heap) (n0 : Nat) (O0 : Old Z n0 h0) (V4 : Arv Z h0 a1 k3 .byte (1 : Int32) [(.int p2)] (.int (0 : Int32))) :
    MetFree l M_2 (head1 (Jvm.Cond.code M_2 jdk_52_method_15_code 2 (some .byte) :: ws) ({ frames := 0, cells := 0, slots := 0, locals := 0 } : Room)) (fun a U => a = #[(.ref a1), (.int (1 : Int32))] ∧ Z.Warmed39 U.vm ∧ U.heap = h0) (fun _ _ _ _ _ => True) (fun _ U o U' => ∃ v L, o = .returned v ∧ Q6_11 Z a1 p2 k3 h0 n0 v U'.heap L ∧ FrameEnd U o U' L ({ frames := 0, cells := 0, slots := 0, locals := 0 } : Room).cells ({ frames := 0, cells := 0, slots := 0, locals := 0 } : Room).slots) := by
  refine MetFree.of_bodySF (plainFor_of_name pn_0) hisR ?_
  intro p e s m args below meth c s₁ Bd hml0 hP hK
  obtain ⟨rfl, hZ, hh⟩ := hP
  have hx := Bd.exec
  have hby := Bd.bytes
  have hml : c.maxLocals = 2 := hml0
  have hown : s.vm.findClass "java/lang/StringUTF16" = some m.cls := findClass_of_methodNamed Bd.named
  have hnm := (name_of_methodNamed Bd.named Bd.method).1
  have X0 : Stand p l e ({ frames := 0, cells := 0, slots := 0, locals := 0 } : Room) s m #[(.ref a1), (.int (1 : Int32))] below meth c s₁ [] 0 0 := Stand.of_body Bd
  have e0 : s₁.heap = h0 := by rw [← hh, Bd.state]; rfl
  have N0 := Fr.nil n0
  have pre0 : ∀ t, Steps p.tables e below (s₁.setTop (mkF m 0 #[.val (.ref a1), .val (.int (1 : Int32))] [])) t → Steps p.tables e below (s₁.setTop (entryFrame m #[(.ref a1), (.int (1 : Int32))] 2)) t := fun t k => castTop (ef_rm6_11 m a1) k
  obtain ⟨cl5, Ar5, -, Sz5, Nn5, -, -⟩ := id V4
  obtain ⟨fs, hr, hrun, hended, hW, hsame⟩ := X0.leave (v := some (.int (0 : Int32))) (fun h => by rw [Bd.returns] at h; cases h)
  refine ⟨_, _, pre0 _ ?_, hrun, hended, _, _, rfl, ?_, ⟨_, rfl⟩, hW, hsame.mono (by decide) (by decide)⟩
  · show Steps p.tables e below (s₁.setTop (mkF m 0 #[.val (.ref a1), .val (.int (1 : Int32))] [])) _
    refine XS.iloadN X0.here hx rfl (hb hby d6_0) rfl ?_
    show Steps p.tables e below (s₁.setTop (mkF m 1 #[.val (.ref a1), .val (.int (1 : Int32))] [(.int (1 : Int32))])) _
    refine XS.aloadN X0.here hx rfl (hb hby d6_1) rfl rfl ?_
    show Steps p.tables e below (s₁.setTop (mkF m 2 #[.val (.ref a1), .val (.int (1 : Int32))] [(.ref a1), (.int (1 : Int32))])) _
    refine X0.arraylength hx (by rw [e0]; exact Ar5.1) (State.isArrayOf_alike hZ.alike Ar5.2.1) (g := (mkF m 2 #[.val (.ref a1), .val (.int (1 : Int32))] [(.ref a1), (.int (1 : Int32))])) rfl rfl (hb hby d6_2) _ ?_
    rw [len_of Sz5 Nn5]
    show Steps p.tables e below (s₁.setTop (mkF m 3 #[.val (.ref a1), .val (.int (1 : Int32))] [(.int (1 : Int32)), (.int (1 : Int32))])) _
    refine XS.isub X0.here hx rfl (hb hby d6_3) rfl ?_
    show Steps p.tables e below (s₁.setTop (mkF m 4 #[.val (.ref a1), .val (.int (1 : Int32))] [(.int ((1 : Int32) - (1 : Int32)))])) _
    rw [(by decide +kernel : ((1 : Int32) - (1 : Int32)) = (0 : Int32))]
    show Steps p.tables e below (s₁.setTop (mkF m 4 #[.val (.ref a1), .val (.int (1 : Int32))] [(.int (0 : Int32))])) _
    refine XS.bipush X0.here hx rfl (hb hby d6_4) ?_
    show Steps p.tables e below (s₁.setTop (mkF m 6 #[.val (.ref a1), .val (.int (1 : Int32))] [(.int (31 : Int32)), (.int (0 : Int32))])) _
    refine XS.iushr X0.here hx rfl (hb hby d6_6) rfl ?_
    show Steps p.tables e below (s₁.setTop (mkF m 7 #[.val (.ref a1), .val (.int (1 : Int32))] [(.int (((0 : Int32).toUInt32 >>> ((31 : Int32) &&& 31).toUInt32).toInt32))])) _
    rw [(by decide +kernel : (((0 : Int32).toUInt32 >>> ((31 : Int32) &&& 31).toUInt32).toInt32) = (0 : Int32))]
    show Steps p.tables e below (s₁.setTop (mkF m 7 #[.val (.ref a1), .val (.int (1 : Int32))] [(.int (0 : Int32))])) _
    refine XS.i2b X0.here hx rfl (hb hby d6_7) rfl ?_
    show Steps p.tables e below (s₁.setTop (mkF m 8 #[.val (.ref a1), .val (.int (1 : Int32))] [(.int ((0 : Int32).toInt8.toInt32))])) _
    rw [(by decide +kernel : ((0 : Int32).toInt8.toInt32) = (0 : Int32))]
    show Steps p.tables e below (s₁.setTop (mkF m 8 #[.val (.ref a1), .val (.int (1 : Int32))] [(.int (0 : Int32))])) _
    exact retN X0 hx (t := .byte) Bd.returns (by simp) (hb hby d6_8) hr
  · show Q6_11 Z _ _ _ h0 n0 _ s₁.heap _
    rw [e0]
    exact ⟨rfl, N0, rfl⟩
theorem ef_rm2_8 (m : MethodId) (x0 : Addr) (x1 : Addr) : entryFrame m #[(.ref x0), (.ref x1), (.int (0 : Int32)), (.int (1 : Int32)), .null] 6 = mkF m 0 #[.val (.ref x0), .val (.ref x1), .val (.int (0 : Int32)), .val (.int (1 : Int32)), .val .null, .unset] [] := by first | (simp [entryFrame, mkF, argsToLocals, Value.category]; done) | rfl
def Q2_8 (Z : State) (a1 : Addr) (a2 : Addr) (p4 : Int32) (p8 : Int32) (k9 : ClassId) (h0 : Heap) (n0 : Nat) (v : Option Value) (h : Heap) (L : List Loc) : Prop := (∃ (i13 : Int32) (b14 : Addr) (k15 : ClassId), i13 = (p8.toInt8.toInt32) ∧ v = none ∧ Fr n0 L ∧ h0.size ≤ b14 ∧ b14 < h.size ∧ Keep h0 h [a1] ∧ Exa Z h a1 "java/lang/String" ∧ Fld Z h a1 "java/lang/String" "coder" "B" (.int (0 : Int32)) ∧ Fld Z h a1 "java/lang/String" "value" "[B" (.ref b14) ∧ Exa Z h b14 "[B" ∧ Arv Z h b14 k15 .byte (1 : Int32) [(.int i13)] (.int (0 : Int32)))
set_option maxRecDepth 65536 in
set_option maxHeartbeats 40000000 in
theorem rm2_8 (l : Launch) (Z : State) (a0 : Array Value) (hw : ∀ d ∈ own_ws, d.before a0 Z = true) (ws : List Jvm.Cond) (a1 : Addr) (a2 : Addr) (p4 : Int32) (p8 : Int32) (k9 : ClassId) (h0 : Heap) (n0 : Nat) (O0 : Old Z n0 h0) (S_5 : Sta Z Z.heap "java/lang/String" "COMPACT_STRINGS" "Z" (.int p4)) (hk7 : ¬ (p4 = (0 : Int32))) (V10 : Arv Z h0 a2 k9 .char (1 : Int32) [(.int p8)] (.int (0 : Int32))) (hk11 : ¬ ((255 : Int32) < p8)) (E_28 : Exa Z h0 a1 "java/lang/String") (F29 : Fld Z h0 a1 "java/lang/String" "coder" "B" (.int (0 : Int32))) (F30 : Fld Z h0 a1 "java/lang/String" "value" "[B" .null) (g_a1 : n0 ≤ a1) (lt_a1 : a1 < h0.size) :
    MetFree l M_3 (head1 (Jvm.Cond.code M_3 jdk_42_method_149_code 6 none :: ws) ({ frames := 2, cells := 1, slots := 1, locals := 35 } : Room)) (fun a U => a = #[(.ref a1), (.ref a2), (.int (0 : Int32)), (.int (1 : Int32)), .null] ∧ Z.Warmed39 U.vm ∧ U.heap = h0) (fun _ _ _ _ _ => True) (fun _ U o U' => ∃ v L, o = .returned v ∧ Q2_8 Z a1 a2 p4 p8 k9 h0 n0 v U'.heap L ∧ FrameEnd U o U' L ({ frames := 2, cells := 1, slots := 1, locals := 35 } : Room).cells ({ frames := 2, cells := 1, slots := 1, locals := 35 } : Room).slots) := by
  refine MetFree.of_bodySF (plainFor_of_name pn_1) hisR ?_
  intro p e s m args below meth c s₁ Bd hml0 hP hK
  obtain ⟨rfl, hZ, hh⟩ := hP
  have hx := Bd.exec
  have hby := Bd.bytes
  have hml : c.maxLocals = 6 := hml0
  have hown : s.vm.findClass "java/lang/String" = some m.cls := findClass_of_methodNamed Bd.named
  have hnm := (name_of_methodNamed Bd.named Bd.method).1
  have X0 : Stand p l e ({ frames := 2, cells := 1, slots := 1, locals := 35 } : Room) s m #[(.ref a1), (.ref a2), (.int (0 : Int32)), (.int (1 : Int32)), .null] below meth c s₁ [] 0 0 := Stand.of_body Bd
  have e0 : s₁.heap = h0 := by rw [← hh, Bd.state]; rfl
  have N0 := Fr.nil n0
  have pre0 : ∀ t, Steps p.tables e below (s₁.setTop (mkF m 0 #[.val (.ref a1), .val (.ref a2), .val (.int (0 : Int32)), .val (.int (1 : Int32)), .val .null, .unset] [])) t → Steps p.tables e below (s₁.setTop (entryFrame m #[(.ref a1), (.ref a2), (.int (0 : Int32)), (.int (1 : Int32)), .null] 6)) t := fun t k => castTop (ef_rm2_8 m a1 a2) k
  obtain ⟨T3, X3, e3, st3⟩ := initO X0 hx hZ hown (hw _ (gw 37 rfl)) (hw _ (gw 38 rfl)) (hw _ (gw 39 rfl)) e0 (g := (mkF m 1 #[.val (.ref a1), .val (.ref a2), .val (.int (0 : Int32)), .val (.int (1 : Int32)), .val .null, .unset] [(.ref a1)])) rfl (by rw [hml]; rfl) rfl (hb hby d2_1) (by decide) (W := 0) (by show 2 * 0 + _ ≤ _; exact Nat.le_of_eq rfl) (by decide)
  obtain ⟨T6, X6, e6, st6⟩ := getS2 X3 hx hZ hown (host := "") (Or.inl (hw _ (gw 40 rfl))) Via.refl e3 (Sta.ext O0.2 S_5) (g := (mkF m 27 #[.val (.ref a1), .val (.ref a2), .val (.int (0 : Int32)), .val (.int (1 : Int32)), .val .null, .unset] [])) rfl (hb hby d2_27)
  obtain ⟨_, _, ⟨T12, L12, k12, n12⟩, -, X12, ⟨Lc12, hQ12, l12, y12, z12⟩, st12⟩ := Jvm.LawKit.callS X6 hx (y := M_1) hown (mvT hZ (hw _ (gw 41 rfl))) (mvT hZ (hw _ (gw 42 rfl))) (mvT hZ (hw _ (gw 43 rfl))) (mvT hZ (hw _ (gw 44 rfl))) (by decide) (backOf (W := 0) (rm4_9 l Z a0 hw [] a2 p8 k9 h0 n0  O0 V10 hk11) hZ (hw _ (gw 44 rfl)) (hw _ (gw 43 rfl)) (by decide) (by decide)) (g := (mkF m 36 #[.val (.ref a1), .val (.ref a2), .val (.int (0 : Int32)), .val (.int (1 : Int32)), .val .null, .unset] [(.int (1 : Int32)), (.int (0 : Int32)), (.ref a2)])) rfl (by rw [hml]; rfl) (argsL := [(.ref a2), (.int (0 : Int32)), (.int (1 : Int32))]) (rest := []) (lenOf pd_1 rfl) rfl (by show 2 * 0 + _ ≤ _; exact Nat.le_of_eq rfl) (hb hby d2_36) (fun _ _ => ⟨rfl, e6, (by decide : 0 + 1 ≤ _), (by decide : 0 + 1 ≤ _)⟩)
  dsimp only [Pt.U, Pt.locs, Pt.cells, Pt.slots] at X12 l12 y12 z12 st12 hQ12
  subst l12 y12 z12
  obtain ⟨i13, b14, k15, u16, rfl, u18, u19, u20, Ku21, u22, u23⟩ := hQ12
  have Ou21 : Old Z n0 T12.heap := O0.keep Ku21 all0
  have g_b14 : n0 ≤ b14 := Nat.le_trans (own_z O0) u19
  have sz_b14 : h0.size ≤ b14 := Nat.le_trans (Nat.le_refl _) u19
  have N12 := Fr.app N0 u18
  obtain ⟨_, _, ⟨T24, L24, k24, n24⟩, -, X24, ⟨Lc24, hQ24, l24, y24, z24⟩, st24⟩ := Jvm.LawKit.callS X12 hx (y := M_2) hown (mvT hZ (hw _ (gw 49 rfl))) (mvT hZ (hw _ (gw 50 rfl))) (mvT hZ (hw _ (gw 43 rfl))) (mvT hZ (hw _ (gw 51 rfl))) (by decide) (backOf (W := 1) (rm6_11 l Z a0 hw [] b14 i13 k15 T12.heap n0  Ou21 u23) hZ (hw _ (gw 51 rfl)) (hw _ (gw 43 rfl)) (by decide) (by decide)) (g := (mkF m 45 #[.val (.ref a1), .val (.ref a2), .val (.int (0 : Int32)), .val (.int (1 : Int32)), .val .null, .val (.ref b14)] [(.int (1 : Int32)), (.ref b14), (.ref a1)])) rfl (by rw [hml]; rfl) (argsL := [(.ref b14), (.int (1 : Int32))]) (rest := [(.ref a1)]) (lenOf pd_2 rfl) rfl (by show 2 * 0 + _ ≤ _; exact Nat.le_of_eq rfl) (hb hby d2_45) (fun _ _ => ⟨rfl, rfl, (by decide : 1 + 0 ≤ _), (by decide : 1 + 0 ≤ _)⟩)
  dsimp only [Pt.U, Pt.locs, Pt.cells, Pt.slots] at X24 l24 y24 z24 st24 hQ24
  subst l24 y24 z24
  obtain ⟨rfl, u26, u27⟩ := hQ24
  have N24 := Fr.app N12 u26
  have f31 : Fld Z T12.heap a1 "java/lang/String" "coder" "B" (.int (0 : Int32)) := (F29.keep Ku21 nin0)
  have f32 : Exa Z T12.heap a1 "java/lang/String" := (E_28.keep Ku21)
  obtain ⟨T33, h33, X33, e33, W33, st33⟩ := putFN X24 hx hZ hown (hw _ (gw 52 rfl)) Via.refl u27 f31 f32 (Or.inr ⟨(hw _ (gw 53 rfl)), rfl, hnm⟩) (hw _ (gw 28 rfl)) (ty := .byte) (v' := (.int (0 : Int32))) (by decide) (by exact congrArg Value.int (by decide +kernel : (nar .byte (0 : Int32)) = (0 : Int32))) ((by decide +kernel : (nar .byte (0 : Int32)) = (0 : Int32)) ▸ fits_nar_byte _) (g := (mkF m 48 #[.val (.ref a1), .val (.ref a2), .val (.int (0 : Int32)), .val (.int (1 : Int32)), .val .null, .val (.ref b14)] [(.int (0 : Int32)), (.ref a1)])) rfl rfl (hb hby d2_48)
  have O33 : Old Z n0 h33 := Ou21.wr W33 g_a1
  have Fw33 : Fld Z h33 a1 "java/lang/String" "coder" "B" (.int (0 : Int32)) := Fld.same W33 f31
  have N33 := Fr.snoc X33 N24 g_a1
  have f34 : Fld Z h33 a1 "java/lang/String" "value" "[B" .null := (Fld.other W33 (F30.keep Ku21 nin0) (Or.inr (slot_ne (Or.inr (hw _ (gw 55 rfl))) (Or.inr (hw _ (gw 53 rfl))) (by decide) (t := (.array .byte)) (t' := .byte) (by decide) (by decide))))
  have f35 : Exa Z h33 a1 "java/lang/String" := (Exa.wr W33 f32)
  obtain ⟨T36, h36, X36, e36, W36, st36⟩ := putF X33 hx hZ hown (host := "") (Or.inl (hw _ (gw 54 rfl))) Via.refl e33 f34 f35 (Or.inr ⟨(hw _ (gw 55 rfl)), rfl, hnm⟩) (hw _ (gw 28 rfl)) (ty := (.array .byte)) (by decide) rfl rfl (g := (mkF m 54 #[.val (.ref a1), .val (.ref a2), .val (.int (0 : Int32)), .val (.int (1 : Int32)), .val .null, .val (.ref b14)] [(.ref b14), (.ref a1)])) rfl rfl (hb hby d2_54)
  have O36 : Old Z n0 h36 := O33.wr W36 g_a1
  have Fw36 : Fld Z h36 a1 "java/lang/String" "value" "[B" (.ref b14) := Fld.same W36 f34
  have N36 := Fr.snoc X36 N33 g_a1
  obtain ⟨fs, hr, hrun, hended, hW, hsame⟩ := X36.leave (v := none) (fun _ => rfl)
  have f37 : Exa Z h36 a1 "java/lang/String" := (Exa.wr W36 f35)
  have f38 : Fld Z h36 a1 "java/lang/String" "coder" "B" (.int (0 : Int32)) := (Fld.other W36 Fw33 (Or.inr (slot_ne (Or.inr (hw _ (gw 53 rfl))) (Or.inr (hw _ (gw 55 rfl))) (by decide) (t := .byte) (t' := (.array .byte)) (by decide) (by decide))))
  have f39 : Exa Z h36 b14 "[B" := (Exa.wr W36 (Exa.wr W33 u22))
  have f40 : Arv Z h36 b14 k15 .byte (1 : Int32) [(.int i13)] (.int (0 : Int32)) := ((u23.other W33 (Ne.symm (Nat.ne_of_lt (Nat.lt_of_lt_of_le lt_a1 u19)))).other W36 (Ne.symm (Nat.ne_of_lt (Nat.lt_of_lt_of_le lt_a1 u19))))
  refine ⟨_, _, pre0 _ ?_, hrun, hended, _, _, rfl, ?_, ⟨_, rfl⟩, hW, hsame.mono (by decide) (by decide)⟩
  · show Steps p.tables e below (s₁.setTop (mkF m 0 #[.val (.ref a1), .val (.ref a2), .val (.int (0 : Int32)), .val (.int (1 : Int32)), .val .null, .unset] [])) _
    refine XS.aloadN X0.here hx rfl (hb hby d2_0) rfl rfl ?_
    show Steps p.tables e below (s₁.setTop (mkF m 1 #[.val (.ref a1), .val (.ref a2), .val (.int (0 : Int32)), .val (.int (1 : Int32)), .val .null, .unset] [(.ref a1)])) _
    refine st3 _ ?_
    show Steps p.tables e below (T3.setTop (mkF m 4 #[.val (.ref a1), .val (.ref a2), .val (.int (0 : Int32)), .val (.int (1 : Int32)), .val .null, .unset] [])) _
    refine XS.iloadN X3.here hx rfl (hb hby d2_4) rfl ?_
    show Steps p.tables e below (T3.setTop (mkF m 5 #[.val (.ref a1), .val (.ref a2), .val (.int (0 : Int32)), .val (.int (1 : Int32)), .val .null, .unset] [(.int (1 : Int32))])) _
    refine XS.ifYes X3.here hx rfl (pc0 := 5) (pc' := 27) rfl (hb hby d2_5) rfl ((if0 _ _).trans (feq (by decide +kernel : ¬ ((1 : Int32) = (0 : Int32)))).2) (by decide) (by decide) ?_
    show Steps p.tables e below (T3.setTop (mkF m 27 #[.val (.ref a1), .val (.ref a2), .val (.int (0 : Int32)), .val (.int (1 : Int32)), .val .null, .unset] [])) _
    refine st6 _ ?_
    show Steps p.tables e below (T6.setTop (mkF m 30 #[.val (.ref a1), .val (.ref a2), .val (.int (0 : Int32)), .val (.int (1 : Int32)), .val .null, .unset] [(.int p4)])) _
    refine XS.ifNo X6.here hx rfl (hb hby d2_30) rfl ((if0 _ _).trans (feq hk7).1) ?_
    show Steps p.tables e below (T6.setTop (mkF m 33 #[.val (.ref a1), .val (.ref a2), .val (.int (0 : Int32)), .val (.int (1 : Int32)), .val .null, .unset] [])) _
    refine XS.aloadN X6.here hx rfl (hb hby d2_33) rfl rfl ?_
    show Steps p.tables e below (T6.setTop (mkF m 34 #[.val (.ref a1), .val (.ref a2), .val (.int (0 : Int32)), .val (.int (1 : Int32)), .val .null, .unset] [(.ref a2)])) _
    refine XS.iloadN X6.here hx rfl (hb hby d2_34) rfl ?_
    show Steps p.tables e below (T6.setTop (mkF m 35 #[.val (.ref a1), .val (.ref a2), .val (.int (0 : Int32)), .val (.int (1 : Int32)), .val .null, .unset] [(.int (0 : Int32)), (.ref a2)])) _
    refine XS.iloadN X6.here hx rfl (hb hby d2_35) rfl ?_
    show Steps p.tables e below (T6.setTop (mkF m 36 #[.val (.ref a1), .val (.ref a2), .val (.int (0 : Int32)), .val (.int (1 : Int32)), .val .null, .unset] [(.int (1 : Int32)), (.int (0 : Int32)), (.ref a2)])) _
    refine st12 _ ?_
    show Steps p.tables e below (T12.setTop (mkF m 39 #[.val (.ref a1), .val (.ref a2), .val (.int (0 : Int32)), .val (.int (1 : Int32)), .val .null, .unset] [(.ref b14)])) _
    refine XS.astore X12.here hx rfl (hb hby d2_39) rfl rfl (l' := #[.val (.ref a1), .val (.ref a2), .val (.int (0 : Int32)), .val (.int (1 : Int32)), .val .null, .val (.ref b14)]) rfl ?_
    show Steps p.tables e below (T12.setTop (mkF m 41 #[.val (.ref a1), .val (.ref a2), .val (.int (0 : Int32)), .val (.int (1 : Int32)), .val .null, .val (.ref b14)] [])) _
    refine XS.aloadN X12.here hx rfl (hb hby d2_41) rfl rfl ?_
    show Steps p.tables e below (T12.setTop (mkF m 42 #[.val (.ref a1), .val (.ref a2), .val (.int (0 : Int32)), .val (.int (1 : Int32)), .val .null, .val (.ref b14)] [(.ref a1)])) _
    refine XS.aload X12.here hx rfl (hb hby d2_42) rfl rfl ?_
    show Steps p.tables e below (T12.setTop (mkF m 44 #[.val (.ref a1), .val (.ref a2), .val (.int (0 : Int32)), .val (.int (1 : Int32)), .val .null, .val (.ref b14)] [(.ref b14), (.ref a1)])) _
    refine XS.iloadN X12.here hx rfl (hb hby d2_44) rfl ?_
    show Steps p.tables e below (T12.setTop (mkF m 45 #[.val (.ref a1), .val (.ref a2), .val (.int (0 : Int32)), .val (.int (1 : Int32)), .val .null, .val (.ref b14)] [(.int (1 : Int32)), (.ref b14), (.ref a1)])) _
    refine st24 _ ?_
    show Steps p.tables e below (T24.setTop (mkF m 48 #[.val (.ref a1), .val (.ref a2), .val (.int (0 : Int32)), .val (.int (1 : Int32)), .val .null, .val (.ref b14)] [(.int (0 : Int32)), (.ref a1)])) _
    refine st33 _ ?_
    show Steps p.tables e below (T33.setTop (mkF m 51 #[.val (.ref a1), .val (.ref a2), .val (.int (0 : Int32)), .val (.int (1 : Int32)), .val .null, .val (.ref b14)] [])) _
    refine XS.aloadN X33.here hx rfl (hb hby d2_51) rfl rfl ?_
    show Steps p.tables e below (T33.setTop (mkF m 52 #[.val (.ref a1), .val (.ref a2), .val (.int (0 : Int32)), .val (.int (1 : Int32)), .val .null, .val (.ref b14)] [(.ref a1)])) _
    refine XS.aload X33.here hx rfl (hb hby d2_52) rfl rfl ?_
    show Steps p.tables e below (T33.setTop (mkF m 54 #[.val (.ref a1), .val (.ref a2), .val (.int (0 : Int32)), .val (.int (1 : Int32)), .val .null, .val (.ref b14)] [(.ref b14), (.ref a1)])) _
    refine st36 _ ?_
    show Steps p.tables e below (T36.setTop (mkF m 57 #[.val (.ref a1), .val (.ref a2), .val (.int (0 : Int32)), .val (.int (1 : Int32)), .val .null, .val (.ref b14)] [])) _
    exact X36.returnOut hx Bd.returns (hb hby d2_57) hr
  · show Q2_8 Z _ _ _ _ _ h0 n0 _ T36.heap _
    rw [e36]
    exact ⟨i13, b14, k15, u16, rfl, N36, sz_b14, (Nat.lt_of_lt_of_le (Nat.lt_of_lt_of_le u20 (Keep.of_wr W33).1) (Keep.of_wr W36).1), ((((Keep.refl h0 [a1]).trans Ku21 all0).wr W33 (Or.inl (List.mem_of_getElem? (i := 0) rfl))).wr W36 (Or.inl (List.mem_of_getElem? (i := 0) rfl))), f37, f38, Fw36, f39, f40⟩
theorem ef_rm1_7 (m : MethodId) (x0 : Addr) (x1 : Addr) : entryFrame m #[(.ref x0), (.ref x1)] 2 = mkF m 0 #[.val (.ref x0), .val (.ref x1)] [] := by first | (simp [entryFrame, mkF, argsToLocals, Value.category]; done) | rfl
def Q1_7 (Z : State) (a1 : Addr) (a2 : Addr) (p3 : Int32) (k4 : ClassId) (p7 : Int32) (h0 : Heap) (n0 : Nat) (v : Option Value) (h : Heap) (L : List Loc) : Prop := (∃ (i15 : Int32) (b16 : Addr) (k17 : ClassId), i15 = (p3.toInt8.toInt32) ∧ v = none ∧ Fr n0 L ∧ h0.size ≤ b16 ∧ b16 < h.size ∧ Keep h0 h [a1] ∧ Exa Z h a1 "java/lang/String" ∧ Fld Z h a1 "java/lang/String" "coder" "B" (.int (0 : Int32)) ∧ Fld Z h a1 "java/lang/String" "value" "[B" (.ref b16) ∧ Exa Z h b16 "[B" ∧ Arv Z h b16 k17 .byte (1 : Int32) [(.int i15)] (.int (0 : Int32)))
set_option maxRecDepth 65536 in
set_option maxHeartbeats 40000000 in
theorem rm1_7 (l : Launch) (Z : State) (a0 : Array Value) (hw : ∀ d ∈ own_ws, d.before a0 Z = true) (ws : List Jvm.Cond) (a1 : Addr) (a2 : Addr) (p3 : Int32) (k4 : ClassId) (p7 : Int32) (h0 : Heap) (n0 : Nat) (O0 : Old Z n0 h0) (V5 : Arv Z h0 a2 k4 .char (1 : Int32) [(.int p3)] (.int (0 : Int32))) (S_8 : Sta Z Z.heap "java/lang/String" "COMPACT_STRINGS" "Z" (.int p7)) (hk9 : ¬ (p7 = (0 : Int32))) (hk10 : ¬ ((255 : Int32) < p3)) (E_11 : Exa Z h0 a1 "java/lang/String") (F12 : Fld Z h0 a1 "java/lang/String" "coder" "B" (.int (0 : Int32))) (F13 : Fld Z h0 a1 "java/lang/String" "value" "[B" .null) (g_a1 : n0 ≤ a1) (lt_a1 : a1 < h0.size) :
    MetFree l M_4 (head1 (Jvm.Cond.code M_4 jdk_42_method_3_code 2 none :: ws) ({ frames := 3, cells := 1, slots := 1, locals := 52 } : Room)) (fun a U => a = #[(.ref a1), (.ref a2)] ∧ Z.Warmed39 U.vm ∧ U.heap = h0) (fun _ _ _ _ _ => True) (fun _ U o U' => ∃ v L, o = .returned v ∧ Q1_7 Z a1 a2 p3 k4 p7 h0 n0 v U'.heap L ∧ FrameEnd U o U' L ({ frames := 3, cells := 1, slots := 1, locals := 52 } : Room).cells ({ frames := 3, cells := 1, slots := 1, locals := 52 } : Room).slots) := by
  refine MetFree.of_bodySF (plainFor_of_name pn_1) hisR ?_
  intro p e s m args below meth c s₁ Bd hml0 hP hK
  obtain ⟨rfl, hZ, hh⟩ := hP
  have hx := Bd.exec
  have hby := Bd.bytes
  have hml : c.maxLocals = 2 := hml0
  have hown : s.vm.findClass "java/lang/String" = some m.cls := findClass_of_methodNamed Bd.named
  have hnm := (name_of_methodNamed Bd.named Bd.method).1
  have X0 : Stand p l e ({ frames := 3, cells := 1, slots := 1, locals := 52 } : Room) s m #[(.ref a1), (.ref a2)] below meth c s₁ [] 0 0 := Stand.of_body Bd
  have e0 : s₁.heap = h0 := by rw [← hh, Bd.state]; rfl
  have N0 := Fr.nil n0
  have pre0 : ∀ t, Steps p.tables e below (s₁.setTop (mkF m 0 #[.val (.ref a1), .val (.ref a2)] [])) t → Steps p.tables e below (s₁.setTop (entryFrame m #[(.ref a1), (.ref a2)] 2)) t := fun t k => castTop (ef_rm1_7 m a1 a2) k
  obtain ⟨cl6, Ar6, -, Sz6, Nn6, -, -⟩ := id V5
  obtain ⟨_, _, ⟨T14, L14, k14, n14⟩, -, X14, ⟨Lc14, hQ14, l14, y14, z14⟩, st14⟩ := X0.specialBack hx (y := M_3) rfl hown (mvT hZ (hw _ (gw 33 rfl))) (mvT hZ (hw _ (gw 34 rfl))) (mvT hZ (hw _ (gw 36 rfl))) (by decide) (backOf (W := 0) (rm2_8 l Z a0 hw [] a1 a2 p7 p3 k4 h0 n0  O0 S_8 hk9 V5 hk10 E_11 F12 F13 g_a1 lt_a1) hZ (hw _ (gw 36 rfl)) (hw _ (gw 29 rfl)) (by decide) (by decide)) (g := (mkF m 6 #[.val (.ref a1), .val (.ref a2)] [.null, (.int (1 : Int32)), (.int (0 : Int32)), (.ref a2), (.ref a1)])) rfl (by rw [hml]; rfl) (Steps.refl _) (a := a1) (argsL := [(.ref a2), (.int (0 : Int32)), (.int (1 : Int32)), .null]) (rest := []) (lenOf pd_3 rfl) rfl (by show 2 * 0 + _ ≤ _; exact Nat.le_of_eq rfl) (hb hby d1_6) (fun _ _ => ⟨rfl, e0, (by decide : 0 + 1 ≤ _), (by decide : 0 + 1 ≤ _)⟩)
  dsimp only [Pt.U, Pt.locs, Pt.cells, Pt.slots] at X14 l14 y14 z14 st14 hQ14
  subst l14 y14 z14
  obtain ⟨i15, b16, k17, u18, rfl, u20, u21, u22, Ku23, u24, u25, u26, u27, u28⟩ := hQ14
  have Ou23 : Old Z n0 T14.heap := O0.keep Ku23 (allS g_a1 all0)
  have g_b16 : n0 ≤ b16 := Nat.le_trans (own_z O0) u21
  have sz_b16 : h0.size ≤ b16 := Nat.le_trans (Nat.le_refl _) u21
  have N14 := Fr.app N0 u20
  obtain ⟨fs, hr, hrun, hended, hW, hsame⟩ := X14.leave (v := none) (fun _ => rfl)
  refine ⟨_, _, pre0 _ ?_, hrun, hended, _, _, rfl, ?_, ⟨_, rfl⟩, hW, hsame.mono (by decide) (by decide)⟩
  · show Steps p.tables e below (s₁.setTop (mkF m 0 #[.val (.ref a1), .val (.ref a2)] [])) _
    refine XS.aloadN X0.here hx rfl (hb hby d1_0) rfl rfl ?_
    show Steps p.tables e below (s₁.setTop (mkF m 1 #[.val (.ref a1), .val (.ref a2)] [(.ref a1)])) _
    refine XS.aloadN X0.here hx rfl (hb hby d1_1) rfl rfl ?_
    show Steps p.tables e below (s₁.setTop (mkF m 2 #[.val (.ref a1), .val (.ref a2)] [(.ref a2), (.ref a1)])) _
    refine XS.iconst X0.here hx rfl (hb hby d1_2) ?_
    show Steps p.tables e below (s₁.setTop (mkF m 3 #[.val (.ref a1), .val (.ref a2)] [(.int (0 : Int32)), (.ref a2), (.ref a1)])) _
    refine XS.aloadN X0.here hx rfl (hb hby d1_3) rfl rfl ?_
    show Steps p.tables e below (s₁.setTop (mkF m 4 #[.val (.ref a1), .val (.ref a2)] [(.ref a2), (.int (0 : Int32)), (.ref a2), (.ref a1)])) _
    refine X0.arraylength hx (by rw [e0]; exact Ar6.1) (State.isArrayOf_alike hZ.alike Ar6.2.1) (g := (mkF m 4 #[.val (.ref a1), .val (.ref a2)] [(.ref a2), (.int (0 : Int32)), (.ref a2), (.ref a1)])) rfl rfl (hb hby d1_4) _ ?_
    rw [len_of Sz6 Nn6]
    show Steps p.tables e below (s₁.setTop (mkF m 5 #[.val (.ref a1), .val (.ref a2)] [(.int (1 : Int32)), (.int (0 : Int32)), (.ref a2), (.ref a1)])) _
    refine XS.aconstNull X0.here hx rfl (hb hby d1_5) ?_
    show Steps p.tables e below (s₁.setTop (mkF m 6 #[.val (.ref a1), .val (.ref a2)] [.null, (.int (1 : Int32)), (.int (0 : Int32)), (.ref a2), (.ref a1)])) _
    refine st14.trans ?_
    show Steps p.tables e below (T14.setTop (mkF m 9 #[.val (.ref a1), .val (.ref a2)] [])) _
    exact X14.returnOut hx Bd.returns (hb hby d1_9) hr
  · show Q1_7 Z _ _ _ _ _ h0 n0 _ T14.heap _
    exact ⟨i15, b16, k17, u18, rfl, N14, sz_b16, u22, ((Keep.refl h0 [a1]).trans Ku23 (allS (Or.inl (List.mem_of_getElem? (i := 0) rfl)) all0)), u24, u25, u26, u27, u28⟩
theorem ef_rm8_13 (m : MethodId) (x0 : Addr) : entryFrame m #[(.ref x0)] 1 = mkF m 0 #[.val (.ref x0)] [] := by first | (simp [entryFrame, mkF, argsToLocals, Value.category]; done) | rfl
def Q8_13 (Z : State) (a1 : Addr) (h0 : Heap) (n0 : Nat) (v : Option Value) (h : Heap) (L : List Loc) : Prop := (v = none ∧ Fr n0 L ∧ h = h0)
set_option maxRecDepth 65536 in
set_option maxHeartbeats 40000000 in
theorem rm8_13 (l : Launch) (Z : State) (a0 : Array Value) (hw : ∀ d ∈ own_ws, d.before a0 Z = true) (ws : List Jvm.Cond) (a1 : Addr) (h0 : Heap) (n0 : Nat) (O0 : Old Z n0 h0) :
    MetFree l M_5 (head1 (Jvm.Cond.code M_5 jdk_30_method_1_code 1 none :: ws) ({ frames := 1, cells := 0, slots := 0, locals := 12 } : Room)) (fun a U => a = #[(.ref a1)] ∧ Z.Warmed39 U.vm ∧ U.heap = h0) (fun _ _ _ _ _ => True) (fun _ U o U' => ∃ v L, o = .returned v ∧ Q8_13 Z a1 h0 n0 v U'.heap L ∧ FrameEnd U o U' L ({ frames := 1, cells := 0, slots := 0, locals := 12 } : Room).cells ({ frames := 1, cells := 0, slots := 0, locals := 12 } : Room).slots) := by
  refine MetFree.of_bodySF (plainFor_of_name pn_2) hisR ?_
  intro p e s m args below meth c s₁ Bd hml0 hP hK
  obtain ⟨rfl, hZ, hh⟩ := hP
  have hx := Bd.exec
  have hby := Bd.bytes
  have hml : c.maxLocals = 1 := hml0
  have hown : s.vm.findClass "java/lang/Record" = some m.cls := findClass_of_methodNamed Bd.named
  have hnm := (name_of_methodNamed Bd.named Bd.method).1
  have X0 : Stand p l e ({ frames := 1, cells := 0, slots := 0, locals := 12 } : Room) s m #[(.ref a1)] below meth c s₁ [] 0 0 := Stand.of_body Bd
  have e0 : s₁.heap = h0 := by rw [← hh, Bd.state]; rfl
  have N0 := Fr.nil n0
  have pre0 : ∀ t, Steps p.tables e below (s₁.setTop (mkF m 0 #[.val (.ref a1)] [])) t → Steps p.tables e below (s₁.setTop (entryFrame m #[(.ref a1)] 1)) t := fun t k => castTop (ef_rm8_13 m a1) k
  obtain ⟨T2, X2, e2, st2⟩ := initO X0 hx hZ hown (hw _ (gw 64 rfl)) (hw _ (gw 38 rfl)) (hw _ (gw 39 rfl)) e0 (g := (mkF m 1 #[.val (.ref a1)] [(.ref a1)])) rfl (by rw [hml]; rfl) rfl (hb hby d8_1) (by decide) (W := 0) (by show 2 * 0 + _ ≤ _; exact Nat.le_of_eq rfl) (by decide)
  obtain ⟨fs, hr, hrun, hended, hW, hsame⟩ := X2.leave (v := none) (fun _ => rfl)
  refine ⟨_, _, pre0 _ ?_, hrun, hended, _, _, rfl, ?_, ⟨_, rfl⟩, hW, hsame.mono (by decide) (by decide)⟩
  · show Steps p.tables e below (s₁.setTop (mkF m 0 #[.val (.ref a1)] [])) _
    refine XS.aloadN X0.here hx rfl (hb hby d8_0) rfl rfl ?_
    show Steps p.tables e below (s₁.setTop (mkF m 1 #[.val (.ref a1)] [(.ref a1)])) _
    refine st2 _ ?_
    show Steps p.tables e below (T2.setTop (mkF m 4 #[.val (.ref a1)] [])) _
    exact X2.returnOut hx Bd.returns (hb hby d8_4) hr
  · show Q8_13 Z _ h0 n0 _ T2.heap _
    rw [e2]
    exact ⟨rfl, N0, rfl⟩
theorem ef_rm7_12 (m : MethodId) (x0 : Addr) (x1 : Addr) (x2 : Addr) (x3 : Int32) (x4 : Addr) (x5 : Int32) (x6 : Int32) (x7 : Int32) : entryFrame m #[(.ref x0), (.ref x1), (.ref x2), (.int x3), (.ref x4), (.int x5), (.int x6), (.int x7)] 8 = mkF m 0 #[.val (.ref x0), .val (.ref x1), .val (.ref x2), .val (.int x3), .val (.ref x4), .val (.int x5), .val (.int x6), .val (.int x7)] [] := by first | (simp [entryFrame, mkF, argsToLocals, Value.category]; done) | rfl
def Q7_12 (Z : State) (a1 : Addr) (a2 : Addr) (a3 : Addr) (p4 : Int32) (a5 : Addr) (p6 : Int32) (p7 : Int32) (p8 : Int32) (h0 : Heap) (n0 : Nat) (v : Option Value) (h : Heap) (L : List Loc) : Prop := (∃ (i33 : Int32), i33 = (nar .boolean p6) ∧ v = none ∧ Fr n0 L ∧ Keep h0 h [a1] ∧ Exa Z h a1 "com/example/railspan/railspan/board/Route" ∧ Fld Z h a1 "com/example/railspan/railspan/board/Route" "cityA" "Ljava/lang/String;" (.ref a2) ∧ Fld Z h a1 "com/example/railspan/railspan/board/Route" "cityB" "Ljava/lang/String;" (.ref a3) ∧ Fld Z h a1 "com/example/railspan/railspan/board/Route" "colour" "Lcom/example/railspan/railspan/board/Colour;" (.ref a5) ∧ Fld Z h a1 "com/example/railspan/railspan/board/Route" "length" "I" (.int p4) ∧ Fld Z h a1 "com/example/railspan/railspan/board/Route" "locomotives" "I" (.int p7) ∧ Fld Z h a1 "com/example/railspan/railspan/board/Route" "track" "I" (.int p8) ∧ Fld Z h a1 "com/example/railspan/railspan/board/Route" "tunnel" "Z" (.int i33))
set_option maxRecDepth 65536 in
set_option maxHeartbeats 40000000 in
theorem rm7_12 (l : Launch) (Z : State) (a0 : Array Value) (hw : ∀ d ∈ own_ws, d.before a0 Z = true) (ws : List Jvm.Cond) (a1 : Addr) (a2 : Addr) (a3 : Addr) (p4 : Int32) (a5 : Addr) (p6 : Int32) (p7 : Int32) (p8 : Int32) (h0 : Heap) (n0 : Nat) (O0 : Old Z n0 h0) (E_13 : Exa Z h0 a1 "com/example/railspan/railspan/board/Route") (F14 : Fld Z h0 a1 "com/example/railspan/railspan/board/Route" "cityA" "Ljava/lang/String;" .null) (F15 : Fld Z h0 a1 "com/example/railspan/railspan/board/Route" "cityB" "Ljava/lang/String;" .null) (F16 : Fld Z h0 a1 "com/example/railspan/railspan/board/Route" "colour" "Lcom/example/railspan/railspan/board/Colour;" .null) (F17 : Fld Z h0 a1 "com/example/railspan/railspan/board/Route" "length" "I" (.int (0 : Int32))) (F18 : Fld Z h0 a1 "com/example/railspan/railspan/board/Route" "locomotives" "I" (.int (0 : Int32))) (F19 : Fld Z h0 a1 "com/example/railspan/railspan/board/Route" "track" "I" (.int (0 : Int32))) (F20 : Fld Z h0 a1 "com/example/railspan/railspan/board/Route" "tunnel" "Z" (.int (0 : Int32))) (g_a1 : n0 ≤ a1) :
    MetFree l M_6 (head1 (Jvm.Cond.code M_6 prog_7_method_1_code 8 none :: ws) ({ frames := 2, cells := 0, slots := 0, locals := 24 } : Room)) (fun a U => a = #[(.ref a1), (.ref a2), (.ref a3), (.int p4), (.ref a5), (.int p6), (.int p7), (.int p8)] ∧ Z.Warmed39 U.vm ∧ U.heap = h0) (fun _ _ _ _ _ => True) (fun _ U o U' => ∃ v L, o = .returned v ∧ Q7_12 Z a1 a2 a3 p4 a5 p6 p7 p8 h0 n0 v U'.heap L ∧ FrameEnd U o U' L ({ frames := 2, cells := 0, slots := 0, locals := 24 } : Room).cells ({ frames := 2, cells := 0, slots := 0, locals := 24 } : Room).slots) := by
  refine MetFree.of_bodySF (plainFor_of_name pn_3) hisR ?_
  intro p e s m args below meth c s₁ Bd hml0 hP hK
  obtain ⟨rfl, hZ, hh⟩ := hP
  have hx := Bd.exec
  have hby := Bd.bytes
  have hml : c.maxLocals = 8 := hml0
  have hown : s.vm.findClass "com/example/railspan/railspan/board/Route" = some m.cls := findClass_of_methodNamed Bd.named
  have hnm := (name_of_methodNamed Bd.named Bd.method).1
  have X0 : Stand p l e ({ frames := 2, cells := 0, slots := 0, locals := 24 } : Room) s m #[(.ref a1), (.ref a2), (.ref a3), (.int p4), (.ref a5), (.int p6), (.int p7), (.int p8)] below meth c s₁ [] 0 0 := Stand.of_body Bd
  have e0 : s₁.heap = h0 := by rw [← hh, Bd.state]; rfl
  have N0 := Fr.nil n0
  have pre0 : ∀ t, Steps p.tables e below (s₁.setTop (mkF m 0 #[.val (.ref a1), .val (.ref a2), .val (.ref a3), .val (.int p4), .val (.ref a5), .val (.int p6), .val (.int p7), .val (.int p8)] [])) t → Steps p.tables e below (s₁.setTop (entryFrame m #[(.ref a1), (.ref a2), (.ref a3), (.int p4), (.ref a5), (.int p6), (.int p7), (.int p8)] 8)) t := fun t k => castTop (ef_rm7_12 m a1 a2 a3 p4 a5 p6 p7 p8) k
  obtain ⟨_, _, ⟨T9, L9, k9, n9⟩, -, X9, ⟨Lc9, hQ9, l9, y9, z9⟩, st9⟩ := X0.specialBack hx (y := M_5) rfl hown (mvT hZ (hw _ (gw 59 rfl))) (mvT hZ (hw _ (gw 60 rfl))) (mvT hZ (hw _ (gw 63 rfl))) (by decide) (backOf (W := 0) (rm8_13 l Z a0 hw [] a1 h0 n0  O0) hZ (hw _ (gw 63 rfl)) (hw _ (gw 62 rfl)) (by decide) (by decide)) (g := (mkF m 1 #[.val (.ref a1), .val (.ref a2), .val (.ref a3), .val (.int p4), .val (.ref a5), .val (.int p6), .val (.int p7), .val (.int p8)] [(.ref a1)])) rfl (by rw [hml]; rfl) (Steps.refl _) (a := a1) (argsL := []) (rest := []) (lenOf pd_5 rfl) rfl (by show 2 * 0 + _ ≤ _; exact Nat.le_of_eq rfl) (hb hby d7_1) (fun _ _ => ⟨rfl, e0, (by decide : 0 + 0 ≤ _), (by decide : 0 + 0 ≤ _)⟩)
  dsimp only [Pt.U, Pt.locs, Pt.cells, Pt.slots] at X9 l9 y9 z9 st9 hQ9
  subst l9 y9 z9
  obtain ⟨rfl, u11, u12⟩ := hQ9
  have N9 := Fr.app N0 u11
  obtain ⟨T21, h21, X21, e21, W21, st21⟩ := putF X9 hx hZ hown (host := "") (Or.inl (hw _ (gw 65 rfl))) Via.refl u12 F14 E_13 (Or.inr ⟨(hw _ (gw 66 rfl)), rfl, hnm⟩) (hw _ (gw 25 rfl)) (ty := (.object "java/lang/String")) (by decide) rfl rfl (g := (mkF m 6 #[.val (.ref a1), .val (.ref a2), .val (.ref a3), .val (.int p4), .val (.ref a5), .val (.int p6), .val (.int p7), .val (.int p8)] [(.ref a2), (.ref a1)])) rfl rfl (hb hby d7_6)
  have O21 : Old Z n0 h21 := O0.wr W21 g_a1
  have Fw21 : Fld Z h21 a1 "com/example/railspan/railspan/board/Route" "cityA" "Ljava/lang/String;" (.ref a2) := Fld.same W21 F14
  have N21 := Fr.snoc X21 N9 g_a1
  have f22 : Fld Z h21 a1 "com/example/railspan/railspan/board/Route" "cityB" "Ljava/lang/String;" .null := (Fld.other W21 F15 (Or.inr (slot_ne (Or.inr (hw _ (gw 68 rfl))) (Or.inr (hw _ (gw 66 rfl))) (by decide) (t := (.object "java/lang/String")) (t' := (.object "java/lang/String")) (by decide) (by decide))))
  have f23 : Exa Z h21 a1 "com/example/railspan/railspan/board/Route" := (Exa.wr W21 E_13)
  obtain ⟨T24, h24, X24, e24, W24, st24⟩ := putF X21 hx hZ hown (host := "") (Or.inl (hw _ (gw 67 rfl))) Via.refl e21 f22 f23 (Or.inr ⟨(hw _ (gw 68 rfl)), rfl, hnm⟩) (hw _ (gw 25 rfl)) (ty := (.object "java/lang/String")) (by decide) rfl rfl (g := (mkF m 11 #[.val (.ref a1), .val (.ref a2), .val (.ref a3), .val (.int p4), .val (.ref a5), .val (.int p6), .val (.int p7), .val (.int p8)] [(.ref a3), (.ref a1)])) rfl rfl (hb hby d7_11)
  have O24 : Old Z n0 h24 := O21.wr W24 g_a1
  have Fw24 : Fld Z h24 a1 "com/example/railspan/railspan/board/Route" "cityB" "Ljava/lang/String;" (.ref a3) := Fld.same W24 f22
  have N24 := Fr.snoc X24 N21 g_a1
  have f25 : Fld Z h24 a1 "com/example/railspan/railspan/board/Route" "length" "I" (.int (0 : Int32)) := (Fld.other W24 (Fld.other W21 F17 (Or.inr (slot_ne (Or.inr (hw _ (gw 70 rfl))) (Or.inr (hw _ (gw 66 rfl))) (by decide) (t := .int) (t' := (.object "java/lang/String")) (by decide) (by decide)))) (Or.inr (slot_ne (Or.inr (hw _ (gw 70 rfl))) (Or.inr (hw _ (gw 68 rfl))) (by decide) (t := .int) (t' := (.object "java/lang/String")) (by decide) (by decide))))
  have f26 : Exa Z h24 a1 "com/example/railspan/railspan/board/Route" := (Exa.wr W24 f23)
  obtain ⟨T27, h27, X27, e27, W27, st27⟩ := putF X24 hx hZ hown (host := "") (Or.inl (hw _ (gw 69 rfl))) Via.refl e24 f25 f26 (Or.inr ⟨(hw _ (gw 70 rfl)), rfl, hnm⟩) (hw _ (gw 25 rfl)) (ty := .int) (by decide) rfl rfl (g := (mkF m 16 #[.val (.ref a1), .val (.ref a2), .val (.ref a3), .val (.int p4), .val (.ref a5), .val (.int p6), .val (.int p7), .val (.int p8)] [(.int p4), (.ref a1)])) rfl rfl (hb hby d7_16)
  have O27 : Old Z n0 h27 := O24.wr W27 g_a1
  have Fw27 : Fld Z h27 a1 "com/example/railspan/railspan/board/Route" "length" "I" (.int p4) := Fld.same W27 f25
  have N27 := Fr.snoc X27 N24 g_a1
  have f28 : Fld Z h27 a1 "com/example/railspan/railspan/board/Route" "colour" "Lcom/example/railspan/railspan/board/Colour;" .null := (Fld.other W27 (Fld.other W24 (Fld.other W21 F16 (Or.inr (slot_ne (Or.inr (hw _ (gw 72 rfl))) (Or.inr (hw _ (gw 66 rfl))) (by decide) (t := (.object "com/example/railspan/railspan/board/Colour")) (t' := (.object "java/lang/String")) (by decide) (by decide)))) (Or.inr (slot_ne (Or.inr (hw _ (gw 72 rfl))) (Or.inr (hw _ (gw 68 rfl))) (by decide) (t := (.object "com/example/railspan/railspan/board/Colour")) (t' := (.object "java/lang/String")) (by decide) (by decide)))) (Or.inr (slot_ne (Or.inr (hw _ (gw 72 rfl))) (Or.inr (hw _ (gw 70 rfl))) (by decide) (t := (.object "com/example/railspan/railspan/board/Colour")) (t' := .int) (by decide) (by decide))))
  have f29 : Exa Z h27 a1 "com/example/railspan/railspan/board/Route" := (Exa.wr W27 f26)
  obtain ⟨T30, h30, X30, e30, W30, st30⟩ := putF X27 hx hZ hown (host := "") (Or.inl (hw _ (gw 71 rfl))) Via.refl e27 f28 f29 (Or.inr ⟨(hw _ (gw 72 rfl)), rfl, hnm⟩) (hw _ (gw 25 rfl)) (ty := (.object "com/example/railspan/railspan/board/Colour")) (by decide) rfl rfl (g := (mkF m 22 #[.val (.ref a1), .val (.ref a2), .val (.ref a3), .val (.int p4), .val (.ref a5), .val (.int p6), .val (.int p7), .val (.int p8)] [(.ref a5), (.ref a1)])) rfl rfl (hb hby d7_22)
  have O30 : Old Z n0 h30 := O27.wr W30 g_a1
  have Fw30 : Fld Z h30 a1 "com/example/railspan/railspan/board/Route" "colour" "Lcom/example/railspan/railspan/board/Colour;" (.ref a5) := Fld.same W30 f28
  have N30 := Fr.snoc X30 N27 g_a1
  have f31 : Fld Z h30 a1 "com/example/railspan/railspan/board/Route" "tunnel" "Z" (.int (0 : Int32)) := (Fld.other W30 (Fld.other W27 (Fld.other W24 (Fld.other W21 F20 (Or.inr (slot_ne (Or.inr (hw _ (gw 74 rfl))) (Or.inr (hw _ (gw 66 rfl))) (by decide) (t := .boolean) (t' := (.object "java/lang/String")) (by decide) (by decide)))) (Or.inr (slot_ne (Or.inr (hw _ (gw 74 rfl))) (Or.inr (hw _ (gw 68 rfl))) (by decide) (t := .boolean) (t' := (.object "java/lang/String")) (by decide) (by decide)))) (Or.inr (slot_ne (Or.inr (hw _ (gw 74 rfl))) (Or.inr (hw _ (gw 70 rfl))) (by decide) (t := .boolean) (t' := .int) (by decide) (by decide)))) (Or.inr (slot_ne (Or.inr (hw _ (gw 74 rfl))) (Or.inr (hw _ (gw 72 rfl))) (by decide) (t := .boolean) (t' := (.object "com/example/railspan/railspan/board/Colour")) (by decide) (by decide))))
  have f32 : Exa Z h30 a1 "com/example/railspan/railspan/board/Route" := (Exa.wr W30 f29)
  obtain ⟨i33, hi33⟩ : ∃ z, z = (nar .boolean p6) := ⟨_, rfl⟩
  obtain ⟨T34, h34, X34, e34, W34, st34⟩ := putFN X30 hx hZ hown (hw _ (gw 73 rfl)) Via.refl e30 f31 f32 (Or.inr ⟨(hw _ (gw 74 rfl)), rfl, hnm⟩) (hw _ (gw 25 rfl)) (ty := .boolean) (v' := (.int i33)) (by decide) (by exact congrArg Value.int (hi33.symm : (nar .boolean p6) = i33)) ((hi33.symm : (nar .boolean p6) = i33) ▸ fits_nar_bool _) (g := (mkF m 28 #[.val (.ref a1), .val (.ref a2), .val (.ref a3), .val (.int p4), .val (.ref a5), .val (.int p6), .val (.int p7), .val (.int p8)] [(.int p6), (.ref a1)])) rfl rfl (hb hby d7_28)
  have O34 : Old Z n0 h34 := O30.wr W34 g_a1
  have Fw34 : Fld Z h34 a1 "com/example/railspan/railspan/board/Route" "tunnel" "Z" (.int i33) := Fld.same W34 f31
  have N34 := Fr.snoc X34 N30 g_a1
  have f35 : Fld Z h34 a1 "com/example/railspan/railspan/board/Route" "locomotives" "I" (.int (0 : Int32)) := (Fld.other W34 (Fld.other W30 (Fld.other W27 (Fld.other W24 (Fld.other W21 F18 (Or.inr (slot_ne (Or.inr (hw _ (gw 76 rfl))) (Or.inr (hw _ (gw 66 rfl))) (by decide) (t := .int) (t' := (.object "java/lang/String")) (by decide) (by decide)))) (Or.inr (slot_ne (Or.inr (hw _ (gw 76 rfl))) (Or.inr (hw _ (gw 68 rfl))) (by decide) (t := .int) (t' := (.object "java/lang/String")) (by decide) (by decide)))) (Or.inr (slot_ne (Or.inr (hw _ (gw 76 rfl))) (Or.inr (hw _ (gw 70 rfl))) (by decide) (t := .int) (t' := .int) (by decide) (by decide)))) (Or.inr (slot_ne (Or.inr (hw _ (gw 76 rfl))) (Or.inr (hw _ (gw 72 rfl))) (by decide) (t := .int) (t' := (.object "com/example/railspan/railspan/board/Colour")) (by decide) (by decide)))) (Or.inr (slot_ne (Or.inr (hw _ (gw 76 rfl))) (Or.inr (hw _ (gw 74 rfl))) (by decide) (t := .int) (t' := .boolean) (by decide) (by decide))))
  have f36 : Exa Z h34 a1 "com/example/railspan/railspan/board/Route" := (Exa.wr W34 f32)
  obtain ⟨T37, h37, X37, e37, W37, st37⟩ := putF X34 hx hZ hown (host := "") (Or.inl (hw _ (gw 75 rfl))) Via.refl e34 f35 f36 (Or.inr ⟨(hw _ (gw 76 rfl)), rfl, hnm⟩) (hw _ (gw 25 rfl)) (ty := .int) (by decide) rfl rfl (g := (mkF m 34 #[.val (.ref a1), .val (.ref a2), .val (.ref a3), .val (.int p4), .val (.ref a5), .val (.int p6), .val (.int p7), .val (.int p8)] [(.int p7), (.ref a1)])) rfl rfl (hb hby d7_34)
  have O37 : Old Z n0 h37 := O34.wr W37 g_a1
  have Fw37 : Fld Z h37 a1 "com/example/railspan/railspan/board/Route" "locomotives" "I" (.int p7) := Fld.same W37 f35
  have N37 := Fr.snoc X37 N34 g_a1
  have f38 : Fld Z h37 a1 "com/example/railspan/railspan/board/Route" "track" "I" (.int (0 : Int32)) := (Fld.other W37 (Fld.other W34 (Fld.other W30 (Fld.other W27 (Fld.other W24 (Fld.other W21 F19 (Or.inr (slot_ne (Or.inr (hw _ (gw 78 rfl))) (Or.inr (hw _ (gw 66 rfl))) (by decide) (t := .int) (t' := (.object "java/lang/String")) (by decide) (by decide)))) (Or.inr (slot_ne (Or.inr (hw _ (gw 78 rfl))) (Or.inr (hw _ (gw 68 rfl))) (by decide) (t := .int) (t' := (.object "java/lang/String")) (by decide) (by decide)))) (Or.inr (slot_ne (Or.inr (hw _ (gw 78 rfl))) (Or.inr (hw _ (gw 70 rfl))) (by decide) (t := .int) (t' := .int) (by decide) (by decide)))) (Or.inr (slot_ne (Or.inr (hw _ (gw 78 rfl))) (Or.inr (hw _ (gw 72 rfl))) (by decide) (t := .int) (t' := (.object "com/example/railspan/railspan/board/Colour")) (by decide) (by decide)))) (Or.inr (slot_ne (Or.inr (hw _ (gw 78 rfl))) (Or.inr (hw _ (gw 74 rfl))) (by decide) (t := .int) (t' := .boolean) (by decide) (by decide)))) (Or.inr (slot_ne (Or.inr (hw _ (gw 78 rfl))) (Or.inr (hw _ (gw 76 rfl))) (by decide) (t := .int) (t' := .int) (by decide) (by decide))))
  have f39 : Exa Z h37 a1 "com/example/railspan/railspan/board/Route" := (Exa.wr W37 f36)
  obtain ⟨T40, h40, X40, e40, W40, st40⟩ := putF X37 hx hZ hown (host := "") (Or.inl (hw _ (gw 77 rfl))) Via.refl e37 f38 f39 (Or.inr ⟨(hw _ (gw 78 rfl)), rfl, hnm⟩) (hw _ (gw 25 rfl)) (ty := .int) (by decide) rfl rfl (g := (mkF m 40 #[.val (.ref a1), .val (.ref a2), .val (.ref a3), .val (.int p4), .val (.ref a5), .val (.int p6), .val (.int p7), .val (.int p8)] [(.int p8), (.ref a1)])) rfl rfl (hb hby d7_40)
  have O40 : Old Z n0 h40 := O37.wr W40 g_a1
  have Fw40 : Fld Z h40 a1 "com/example/railspan/railspan/board/Route" "track" "I" (.int p8) := Fld.same W40 f38
  have N40 := Fr.snoc X40 N37 g_a1
  obtain ⟨fs, hr, hrun, hended, hW, hsame⟩ := X40.leave (v := none) (fun _ => rfl)
  have f41 : Exa Z h40 a1 "com/example/railspan/railspan/board/Route" := (Exa.wr W40 f39)
  have f42 : Fld Z h40 a1 "com/example/railspan/railspan/board/Route" "cityA" "Ljava/lang/String;" (.ref a2) := (Fld.other W40 (Fld.other W37 (Fld.other W34 (Fld.other W30 (Fld.other W27 (Fld.other W24 Fw21 (Or.inr (slot_ne (Or.inr (hw _ (gw 66 rfl))) (Or.inr (hw _ (gw 68 rfl))) (by decide) (t := (.object "java/lang/String")) (t' := (.object "java/lang/String")) (by decide) (by decide)))) (Or.inr (slot_ne (Or.inr (hw _ (gw 66 rfl))) (Or.inr (hw _ (gw 70 rfl))) (by decide) (t := (.object "java/lang/String")) (t' := .int) (by decide) (by decide)))) (Or.inr (slot_ne (Or.inr (hw _ (gw 66 rfl))) (Or.inr (hw _ (gw 72 rfl))) (by decide) (t := (.object "java/lang/String")) (t' := (.object "com/example/railspan/railspan/board/Colour")) (by decide) (by decide)))) (Or.inr (slot_ne (Or.inr (hw _ (gw 66 rfl))) (Or.inr (hw _ (gw 74 rfl))) (by decide) (t := (.object "java/lang/String")) (t' := .boolean) (by decide) (by decide)))) (Or.inr (slot_ne (Or.inr (hw _ (gw 66 rfl))) (Or.inr (hw _ (gw 76 rfl))) (by decide) (t := (.object "java/lang/String")) (t' := .int) (by decide) (by decide)))) (Or.inr (slot_ne (Or.inr (hw _ (gw 66 rfl))) (Or.inr (hw _ (gw 78 rfl))) (by decide) (t := (.object "java/lang/String")) (t' := .int) (by decide) (by decide))))
  have f43 : Fld Z h40 a1 "com/example/railspan/railspan/board/Route" "cityB" "Ljava/lang/String;" (.ref a3) := (Fld.other W40 (Fld.other W37 (Fld.other W34 (Fld.other W30 (Fld.other W27 Fw24 (Or.inr (slot_ne (Or.inr (hw _ (gw 68 rfl))) (Or.inr (hw _ (gw 70 rfl))) (by decide) (t := (.object "java/lang/String")) (t' := .int) (by decide) (by decide)))) (Or.inr (slot_ne (Or.inr (hw _ (gw 68 rfl))) (Or.inr (hw _ (gw 72 rfl))) (by decide) (t := (.object "java/lang/String")) (t' := (.object "com/example/railspan/railspan/board/Colour")) (by decide) (by decide)))) (Or.inr (slot_ne (Or.inr (hw _ (gw 68 rfl))) (Or.inr (hw _ (gw 74 rfl))) (by decide) (t := (.object "java/lang/String")) (t' := .boolean) (by decide) (by decide)))) (Or.inr (slot_ne (Or.inr (hw _ (gw 68 rfl))) (Or.inr (hw _ (gw 76 rfl))) (by decide) (t := (.object "java/lang/String")) (t' := .int) (by decide) (by decide)))) (Or.inr (slot_ne (Or.inr (hw _ (gw 68 rfl))) (Or.inr (hw _ (gw 78 rfl))) (by decide) (t := (.object "java/lang/String")) (t' := .int) (by decide) (by decide))))
  have f44 : Fld Z h40 a1 "com/example/railspan/railspan/board/Route" "colour" "Lcom/example/railspan/railspan/board/Colour;" (.ref a5) := (Fld.other W40 (Fld.other W37 (Fld.other W34 Fw30 (Or.inr (slot_ne (Or.inr (hw _ (gw 72 rfl))) (Or.inr (hw _ (gw 74 rfl))) (by decide) (t := (.object "com/example/railspan/railspan/board/Colour")) (t' := .boolean) (by decide) (by decide)))) (Or.inr (slot_ne (Or.inr (hw _ (gw 72 rfl))) (Or.inr (hw _ (gw 76 rfl))) (by decide) (t := (.object "com/example/railspan/railspan/board/Colour")) (t' := .int) (by decide) (by decide)))) (Or.inr (slot_ne (Or.inr (hw _ (gw 72 rfl))) (Or.inr (hw _ (gw 78 rfl))) (by decide) (t := (.object "com/example/railspan/railspan/board/Colour")) (t' := .int) (by decide) (by decide))))
  have f45 : Fld Z h40 a1 "com/example/railspan/railspan/board/Route" "length" "I" (.int p4) := (Fld.other W40 (Fld.other W37 (Fld.other W34 (Fld.other W30 Fw27 (Or.inr (slot_ne (Or.inr (hw _ (gw 70 rfl))) (Or.inr (hw _ (gw 72 rfl))) (by decide) (t := .int) (t' := (.object "com/example/railspan/railspan/board/Colour")) (by decide) (by decide)))) (Or.inr (slot_ne (Or.inr (hw _ (gw 70 rfl))) (Or.inr (hw _ (gw 74 rfl))) (by decide) (t := .int) (t' := .boolean) (by decide) (by decide)))) (Or.inr (slot_ne (Or.inr (hw _ (gw 70 rfl))) (Or.inr (hw _ (gw 76 rfl))) (by decide) (t := .int) (t' := .int) (by decide) (by decide)))) (Or.inr (slot_ne (Or.inr (hw _ (gw 70 rfl))) (Or.inr (hw _ (gw 78 rfl))) (by decide) (t := .int) (t' := .int) (by decide) (by decide))))
  have f46 : Fld Z h40 a1 "com/example/railspan/railspan/board/Route" "locomotives" "I" (.int p7) := (Fld.other W40 Fw37 (Or.inr (slot_ne (Or.inr (hw _ (gw 76 rfl))) (Or.inr (hw _ (gw 78 rfl))) (by decide) (t := .int) (t' := .int) (by decide) (by decide))))
  have f47 : Fld Z h40 a1 "com/example/railspan/railspan/board/Route" "tunnel" "Z" (.int i33) := (Fld.other W40 (Fld.other W37 Fw34 (Or.inr (slot_ne (Or.inr (hw _ (gw 74 rfl))) (Or.inr (hw _ (gw 76 rfl))) (by decide) (t := .boolean) (t' := .int) (by decide) (by decide)))) (Or.inr (slot_ne (Or.inr (hw _ (gw 74 rfl))) (Or.inr (hw _ (gw 78 rfl))) (by decide) (t := .boolean) (t' := .int) (by decide) (by decide))))
  refine ⟨_, _, pre0 _ ?_, hrun, hended, _, _, rfl, ?_, ⟨_, rfl⟩, hW, hsame.mono (by decide) (by decide)⟩
  · show Steps p.tables e below (s₁.setTop (mkF m 0 #[.val (.ref a1), .val (.ref a2), .val (.ref a3), .val (.int p4), .val (.ref a5), .val (.int p6), .val (.int p7), .val (.int p8)] [])) _
    refine XS.aloadN X0.here hx rfl (hb hby d7_0) rfl rfl ?_
    show Steps p.tables e below (s₁.setTop (mkF m 1 #[.val (.ref a1), .val (.ref a2), .val (.ref a3), .val (.int p4), .val (.ref a5), .val (.int p6), .val (.int p7), .val (.int p8)] [(.ref a1)])) _
    refine st9.trans ?_
    show Steps p.tables e below (T9.setTop (mkF m 4 #[.val (.ref a1), .val (.ref a2), .val (.ref a3), .val (.int p4), .val (.ref a5), .val (.int p6), .val (.int p7), .val (.int p8)] [])) _
    refine XS.aloadN X9.here hx rfl (hb hby d7_4) rfl rfl ?_
    show Steps p.tables e below (T9.setTop (mkF m 5 #[.val (.ref a1), .val (.ref a2), .val (.ref a3), .val (.int p4), .val (.ref a5), .val (.int p6), .val (.int p7), .val (.int p8)] [(.ref a1)])) _
    refine XS.aloadN X9.here hx rfl (hb hby d7_5) rfl rfl ?_
    show Steps p.tables e below (T9.setTop (mkF m 6 #[.val (.ref a1), .val (.ref a2), .val (.ref a3), .val (.int p4), .val (.ref a5), .val (.int p6), .val (.int p7), .val (.int p8)] [(.ref a2), (.ref a1)])) _
    refine st21 _ ?_
    show Steps p.tables e below (T21.setTop (mkF m 9 #[.val (.ref a1), .val (.ref a2), .val (.ref a3), .val (.int p4), .val (.ref a5), .val (.int p6), .val (.int p7), .val (.int p8)] [])) _
    refine XS.aloadN X21.here hx rfl (hb hby d7_9) rfl rfl ?_
    show Steps p.tables e below (T21.setTop (mkF m 10 #[.val (.ref a1), .val (.ref a2), .val (.ref a3), .val (.int p4), .val (.ref a5), .val (.int p6), .val (.int p7), .val (.int p8)] [(.ref a1)])) _
    refine XS.aloadN X21.here hx rfl (hb hby d7_10) rfl rfl ?_
    show Steps p.tables e below (T21.setTop (mkF m 11 #[.val (.ref a1), .val (.ref a2), .val (.ref a3), .val (.int p4), .val (.ref a5), .val (.int p6), .val (.int p7), .val (.int p8)] [(.ref a3), (.ref a1)])) _
    refine st24 _ ?_
    show Steps p.tables e below (T24.setTop (mkF m 14 #[.val (.ref a1), .val (.ref a2), .val (.ref a3), .val (.int p4), .val (.ref a5), .val (.int p6), .val (.int p7), .val (.int p8)] [])) _
    refine XS.aloadN X24.here hx rfl (hb hby d7_14) rfl rfl ?_
    show Steps p.tables e below (T24.setTop (mkF m 15 #[.val (.ref a1), .val (.ref a2), .val (.ref a3), .val (.int p4), .val (.ref a5), .val (.int p6), .val (.int p7), .val (.int p8)] [(.ref a1)])) _
    refine XS.iloadN X24.here hx rfl (hb hby d7_15) rfl ?_
    show Steps p.tables e below (T24.setTop (mkF m 16 #[.val (.ref a1), .val (.ref a2), .val (.ref a3), .val (.int p4), .val (.ref a5), .val (.int p6), .val (.int p7), .val (.int p8)] [(.int p4), (.ref a1)])) _
    refine st27 _ ?_
    show Steps p.tables e below (T27.setTop (mkF m 19 #[.val (.ref a1), .val (.ref a2), .val (.ref a3), .val (.int p4), .val (.ref a5), .val (.int p6), .val (.int p7), .val (.int p8)] [])) _
    refine XS.aloadN X27.here hx rfl (hb hby d7_19) rfl rfl ?_
    show Steps p.tables e below (T27.setTop (mkF m 20 #[.val (.ref a1), .val (.ref a2), .val (.ref a3), .val (.int p4), .val (.ref a5), .val (.int p6), .val (.int p7), .val (.int p8)] [(.ref a1)])) _
    refine XS.aload X27.here hx rfl (hb hby d7_20) rfl rfl ?_
    show Steps p.tables e below (T27.setTop (mkF m 22 #[.val (.ref a1), .val (.ref a2), .val (.ref a3), .val (.int p4), .val (.ref a5), .val (.int p6), .val (.int p7), .val (.int p8)] [(.ref a5), (.ref a1)])) _
    refine st30 _ ?_
    show Steps p.tables e below (T30.setTop (mkF m 25 #[.val (.ref a1), .val (.ref a2), .val (.ref a3), .val (.int p4), .val (.ref a5), .val (.int p6), .val (.int p7), .val (.int p8)] [])) _
    refine XS.aloadN X30.here hx rfl (hb hby d7_25) rfl rfl ?_
    show Steps p.tables e below (T30.setTop (mkF m 26 #[.val (.ref a1), .val (.ref a2), .val (.ref a3), .val (.int p4), .val (.ref a5), .val (.int p6), .val (.int p7), .val (.int p8)] [(.ref a1)])) _
    refine XS.iload X30.here hx rfl (hb hby d7_26) rfl ?_
    show Steps p.tables e below (T30.setTop (mkF m 28 #[.val (.ref a1), .val (.ref a2), .val (.ref a3), .val (.int p4), .val (.ref a5), .val (.int p6), .val (.int p7), .val (.int p8)] [(.int p6), (.ref a1)])) _
    refine st34 _ ?_
    show Steps p.tables e below (T34.setTop (mkF m 31 #[.val (.ref a1), .val (.ref a2), .val (.ref a3), .val (.int p4), .val (.ref a5), .val (.int p6), .val (.int p7), .val (.int p8)] [])) _
    refine XS.aloadN X34.here hx rfl (hb hby d7_31) rfl rfl ?_
    show Steps p.tables e below (T34.setTop (mkF m 32 #[.val (.ref a1), .val (.ref a2), .val (.ref a3), .val (.int p4), .val (.ref a5), .val (.int p6), .val (.int p7), .val (.int p8)] [(.ref a1)])) _
    refine XS.iload X34.here hx rfl (hb hby d7_32) rfl ?_
    show Steps p.tables e below (T34.setTop (mkF m 34 #[.val (.ref a1), .val (.ref a2), .val (.ref a3), .val (.int p4), .val (.ref a5), .val (.int p6), .val (.int p7), .val (.int p8)] [(.int p7), (.ref a1)])) _
    refine st37 _ ?_
    show Steps p.tables e below (T37.setTop (mkF m 37 #[.val (.ref a1), .val (.ref a2), .val (.ref a3), .val (.int p4), .val (.ref a5), .val (.int p6), .val (.int p7), .val (.int p8)] [])) _
    refine XS.aloadN X37.here hx rfl (hb hby d7_37) rfl rfl ?_
    show Steps p.tables e below (T37.setTop (mkF m 38 #[.val (.ref a1), .val (.ref a2), .val (.ref a3), .val (.int p4), .val (.ref a5), .val (.int p6), .val (.int p7), .val (.int p8)] [(.ref a1)])) _
    refine XS.iload X37.here hx rfl (hb hby d7_38) rfl ?_
    show Steps p.tables e below (T37.setTop (mkF m 40 #[.val (.ref a1), .val (.ref a2), .val (.ref a3), .val (.int p4), .val (.ref a5), .val (.int p6), .val (.int p7), .val (.int p8)] [(.int p8), (.ref a1)])) _
    refine st40 _ ?_
    show Steps p.tables e below (T40.setTop (mkF m 43 #[.val (.ref a1), .val (.ref a2), .val (.ref a3), .val (.int p4), .val (.ref a5), .val (.int p6), .val (.int p7), .val (.int p8)] [])) _
    exact X40.returnOut hx Bd.returns (hb hby d7_43) hr
  · show Q7_12 Z _ _ _ _ _ _ _ _ h0 n0 _ T40.heap _
    rw [e40]
    exact ⟨i33, hi33, rfl, N40, ((((((((Keep.refl h0 [a1]).wr W21 (Or.inl (List.mem_of_getElem? (i := 0) rfl))).wr W24 (Or.inl (List.mem_of_getElem? (i := 0) rfl))).wr W27 (Or.inl (List.mem_of_getElem? (i := 0) rfl))).wr W30 (Or.inl (List.mem_of_getElem? (i := 0) rfl))).wr W34 (Or.inl (List.mem_of_getElem? (i := 0) rfl))).wr W37 (Or.inl (List.mem_of_getElem? (i := 0) rfl))).wr W40 (Or.inl (List.mem_of_getElem? (i := 0) rfl))), f41, f42, f43, f44, f45, f46, Fw40, f47⟩
theorem ef_rm9_14 (m : MethodId) (x0 : Addr) : entryFrame m #[(.ref x0)] 1 = mkF m 0 #[.val (.ref x0)] [] := by first | (simp [entryFrame, mkF, argsToLocals, Value.category]; done) | rfl
def Q9_14 (Z : State) (a1 : Addr) (p2 : Int32) (h0 : Heap) (n0 : Nat) (v : Option Value) (h : Heap) (L : List Loc) : Prop := (v = some (.int (0 : Int32)) ∧ Fr n0 L ∧ h = h0)
set_option maxRecDepth 65536 in
set_option maxHeartbeats 40000000 in
theorem rm9_14 (l : Launch) (Z : State) (a0 : Array Value) (hw : ∀ d ∈ own_ws, d.before a0 Z = true) (ws : List Jvm.Cond) (a1 : Addr) (p2 : Int32) (h0 : Heap) (n0 : Nat) (O0 : Old Z n0 h0) (F3 : Fld Z h0 a1 "com/example/railspan/railspan/board/Route" "locomotives" "I" (.int p2)) (hk5 : ¬ ((0 : Int32) < p2)) :
    MetFree l M_7 (head1 (Jvm.Cond.code M_7 prog_7_method_3_code 1 (some .boolean) :: ws) ({ frames := 0, cells := 0, slots := 0, locals := 0 } : Room)) (fun a U => a = #[(.ref a1)] ∧ Z.Warmed39 U.vm ∧ U.heap = h0) (fun _ _ _ _ _ => True) (fun _ U o U' => ∃ v L, o = .returned v ∧ Q9_14 Z a1 p2 h0 n0 v U'.heap L ∧ FrameEnd U o U' L ({ frames := 0, cells := 0, slots := 0, locals := 0 } : Room).cells ({ frames := 0, cells := 0, slots := 0, locals := 0 } : Room).slots) := by
  refine MetFree.of_bodySF (plainFor_of_name pn_3) hisR ?_
  intro p e s m args below meth c s₁ Bd hml0 hP hK
  obtain ⟨rfl, hZ, hh⟩ := hP
  have hx := Bd.exec
  have hby := Bd.bytes
  have hml : c.maxLocals = 1 := hml0
  have hown : s.vm.findClass "com/example/railspan/railspan/board/Route" = some m.cls := findClass_of_methodNamed Bd.named
  have hnm := (name_of_methodNamed Bd.named Bd.method).1
  have X0 : Stand p l e ({ frames := 0, cells := 0, slots := 0, locals := 0 } : Room) s m #[(.ref a1)] below meth c s₁ [] 0 0 := Stand.of_body Bd
  have e0 : s₁.heap = h0 := by rw [← hh, Bd.state]; rfl
  have N0 := Fr.nil n0
  have pre0 : ∀ t, Steps p.tables e below (s₁.setTop (mkF m 0 #[.val (.ref a1)] [])) t → Steps p.tables e below (s₁.setTop (entryFrame m #[(.ref a1)] 1)) t := fun t k => castTop (ef_rm9_14 m a1) k
  obtain ⟨T4, X4, e4, st4⟩ := getF X0 hx hZ hown (host := "") (Or.inl (hw _ (gw 75 rfl))) Via.refl e0 F3 (g := (mkF m 1 #[.val (.ref a1)] [(.ref a1)])) rfl rfl (hb hby d9_1)
  obtain ⟨fs, hr, hrun, hended, hW, hsame⟩ := X4.leave (v := some (.int (0 : Int32))) (fun h => by rw [Bd.returns] at h; cases h)
  refine ⟨_, _, pre0 _ ?_, hrun, hended, _, _, rfl, ?_, ⟨_, rfl⟩, hW, hsame.mono (by decide) (by decide)⟩
  · show Steps p.tables e below (s₁.setTop (mkF m 0 #[.val (.ref a1)] [])) _
    refine XS.aloadN X0.here hx rfl (hb hby d9_0) rfl rfl ?_
    show Steps p.tables e below (s₁.setTop (mkF m 1 #[.val (.ref a1)] [(.ref a1)])) _
    refine st4 _ ?_
    show Steps p.tables e below (T4.setTop (mkF m 4 #[.val (.ref a1)] [(.int p2)])) _
    refine XS.ifYes X4.here hx rfl (pc0 := 4) (pc' := 11) rfl (hb hby d9_4) rfl ((if0 _ _).trans (flt hk5).2.2.2) (by decide) (by decide) ?_
    show Steps p.tables e below (T4.setTop (mkF m 11 #[.val (.ref a1)] [])) _
    refine XS.iconst X4.here hx rfl (hb hby d9_11) ?_
    show Steps p.tables e below (T4.setTop (mkF m 12 #[.val (.ref a1)] [(.int (0 : Int32))])) _
    exact retN X4 hx (t := .boolean) Bd.returns (by simp) (hb hby d9_12) hr
  · show Q9_14 Z _ _ h0 n0 _ T4.heap _
    rw [e4]
    exact ⟨rfl, N0, rfl⟩
theorem ef_rm9_15 (m : MethodId) (x0 : Addr) : entryFrame m #[(.ref x0)] 1 = mkF m 0 #[.val (.ref x0)] [] := by first | (simp [entryFrame, mkF, argsToLocals, Value.category]; done) | rfl
def Q9_15 (Z : State) (a1 : Addr) (p2 : Int32) (h0 : Heap) (n0 : Nat) (v : Option Value) (h : Heap) (L : List Loc) : Prop := (v = some (.int (1 : Int32)) ∧ Fr n0 L ∧ h = h0)
set_option maxRecDepth 65536 in
set_option maxHeartbeats 40000000 in
theorem rm9_15 (l : Launch) (Z : State) (a0 : Array Value) (hw : ∀ d ∈ own_ws, d.before a0 Z = true) (ws : List Jvm.Cond) (a1 : Addr) (p2 : Int32) (h0 : Heap) (n0 : Nat) (O0 : Old Z n0 h0) (F3 : Fld Z h0 a1 "com/example/railspan/railspan/board/Route" "locomotives" "I" (.int p2)) (hk5 : (0 : Int32) < p2) :
    MetFree l M_7 (head1 (Jvm.Cond.code M_7 prog_7_method_3_code 1 (some .boolean) :: ws) ({ frames := 0, cells := 0, slots := 0, locals := 0 } : Room)) (fun a U => a = #[(.ref a1)] ∧ Z.Warmed39 U.vm ∧ U.heap = h0) (fun _ _ _ _ _ => True) (fun _ U o U' => ∃ v L, o = .returned v ∧ Q9_15 Z a1 p2 h0 n0 v U'.heap L ∧ FrameEnd U o U' L ({ frames := 0, cells := 0, slots := 0, locals := 0 } : Room).cells ({ frames := 0, cells := 0, slots := 0, locals := 0 } : Room).slots) := by
  refine MetFree.of_bodySF (plainFor_of_name pn_3) hisR ?_
  intro p e s m args below meth c s₁ Bd hml0 hP hK
  obtain ⟨rfl, hZ, hh⟩ := hP
  have hx := Bd.exec
  have hby := Bd.bytes
  have hml : c.maxLocals = 1 := hml0
  have hown : s.vm.findClass "com/example/railspan/railspan/board/Route" = some m.cls := findClass_of_methodNamed Bd.named
  have hnm := (name_of_methodNamed Bd.named Bd.method).1
  have X0 : Stand p l e ({ frames := 0, cells := 0, slots := 0, locals := 0 } : Room) s m #[(.ref a1)] below meth c s₁ [] 0 0 := Stand.of_body Bd
  have e0 : s₁.heap = h0 := by rw [← hh, Bd.state]; rfl
  have N0 := Fr.nil n0
  have pre0 : ∀ t, Steps p.tables e below (s₁.setTop (mkF m 0 #[.val (.ref a1)] [])) t → Steps p.tables e below (s₁.setTop (entryFrame m #[(.ref a1)] 1)) t := fun t k => castTop (ef_rm9_15 m a1) k
  obtain ⟨T4, X4, e4, st4⟩ := getF X0 hx hZ hown (host := "") (Or.inl (hw _ (gw 75 rfl))) Via.refl e0 F3 (g := (mkF m 1 #[.val (.ref a1)] [(.ref a1)])) rfl rfl (hb hby d9_1)
  obtain ⟨fs, hr, hrun, hended, hW, hsame⟩ := X4.leave (v := some (.int (1 : Int32))) (fun h => by rw [Bd.returns] at h; cases h)
  refine ⟨_, _, pre0 _ ?_, hrun, hended, _, _, rfl, ?_, ⟨_, rfl⟩, hW, hsame.mono (by decide) (by decide)⟩
  · show Steps p.tables e below (s₁.setTop (mkF m 0 #[.val (.ref a1)] [])) _
    refine XS.aloadN X0.here hx rfl (hb hby d9_0) rfl rfl ?_
    show Steps p.tables e below (s₁.setTop (mkF m 1 #[.val (.ref a1)] [(.ref a1)])) _
    refine st4 _ ?_
    show Steps p.tables e below (T4.setTop (mkF m 4 #[.val (.ref a1)] [(.int p2)])) _
    refine XS.ifNo X4.here hx rfl (hb hby d9_4) rfl ((if0 _ _).trans (tlt hk5).2.2.2) ?_
    show Steps p.tables e below (T4.setTop (mkF m 7 #[.val (.ref a1)] [])) _
    refine XS.iconst X4.here hx rfl (hb hby d9_7) ?_
    show Steps p.tables e below (T4.setTop (mkF m 8 #[.val (.ref a1)] [(.int (1 : Int32))])) _
    refine XS.goto X4.here hx rfl (pc0 := 8) (pc' := 12) rfl (hb hby d9_8) (by decide) (by decide) ?_
    show Steps p.tables e below (T4.setTop (mkF m 12 #[.val (.ref a1)] [(.int (1 : Int32))])) _
    exact retN X4 hx (t := .boolean) Bd.returns (by simp) (hb hby d9_12) hr
  · show Q9_15 Z _ _ h0 n0 _ T4.heap _
    rw [e4]
    exact ⟨rfl, N0, rfl⟩
theorem ef_rm0 (m : MethodId) (x0 : Int32) (x1 : Int32) (x2 : Int32) (x3 : Int32) (x4 : Int32) (x5 : Int32) : entryFrame m #[(.int x0), (.int x1), (.int x2), (.int x3), (.int x4), (.int x5)] maxLocals = mkF m 0 #[.val (.int x0), .val (.int x1), .val (.int x2), .val (.int x3), .val (.int x4), .val (.int x5), .unset, .unset, .unset, .unset, .unset, .unset, .unset] [] := by first | (simp [entryFrame, mkF, argsToLocals, Value.category, maxLocals]; done) | rfl
def Q0 (Z : State) (p1 : Int32) (p2 : Int32) (p3 : Int32) (p4 : Int32) (p5 : Int32) (p6 : Int32) (a24 : Addr) (a31 : Addr) (a38 : Addr) (a45 : Addr) (a52 : Addr) (a59 : Addr) (a66 : Addr) (a73 : Addr) (a80 : Addr) (p113 : Int32) (h0 : Heap) (n0 : Nat) (v : Option Value) (h : Heap) (L : List Loc) : Prop := v = some (.int 1) ∧ Fr n0 L
set_option maxRecDepth 65536 in
set_option maxHeartbeats 40000000 in
theorem rm0 (l : Launch) (Z : State) (a0 : Array Value) (hw : ∀ d ∈ own_ws, d.before a0 Z = true) (ws : List Jvm.Cond) (p1 : Int32) (p2 : Int32) (p3 : Int32) (p4 : Int32) (p5 : Int32) (p6 : Int32) (a24 : Addr) (a31 : Addr) (a38 : Addr) (a45 : Addr) (a52 : Addr) (a59 : Addr) (a66 : Addr) (a73 : Addr) (a80 : Addr) (p113 : Int32) (h0 : Heap) (n0 : Nat) (O0 : Old Z n0 h0) (S_25 : Sta Z Z.heap "com/example/railspan/railspan/board/Colour" "BLUE" "Lcom/example/railspan/railspan/board/Colour;" (.ref a24)) (E_29 : Exa Z Z.heap a24 "com/example/railspan/railspan/board/Colour") (S_32 : Sta Z Z.heap "com/example/railspan/railspan/board/Colour" "GREEN" "Lcom/example/railspan/railspan/board/Colour;" (.ref a31)) (E_36 : Exa Z Z.heap a31 "com/example/railspan/railspan/board/Colour") (S_39 : Sta Z Z.heap "com/example/railspan/railspan/board/Colour" "BLACK" "Lcom/example/railspan/railspan/board/Colour;" (.ref a38)) (E_43 : Exa Z Z.heap a38 "com/example/railspan/railspan/board/Colour") (S_46 : Sta Z Z.heap "com/example/railspan/railspan/board/Colour" "ORANGE" "Lcom/example/railspan/railspan/board/Colour;" (.ref a45)) (E_50 : Exa Z Z.heap a45 "com/example/railspan/railspan/board/Colour") (S_53 : Sta Z Z.heap "com/example/railspan/railspan/board/Colour" "PURPLE" "Lcom/example/railspan/railspan/board/Colour;" (.ref a52)) (E_57 : Exa Z Z.heap a52 "com/example/railspan/railspan/board/Colour") (S_60 : Sta Z Z.heap "com/example/railspan/railspan/board/Colour" "RED" "Lcom/example/railspan/railspan/board/Colour;" (.ref a59)) (E_64 : Exa Z Z.heap a59 "com/example/railspan/railspan/board/Colour") (S_67 : Sta Z Z.heap "com/example/railspan/railspan/board/Colour" "WHITE" "Lcom/example/railspan/railspan/board/Colour;" (.ref a66)) (E_71 : Exa Z Z.heap a66 "com/example/railspan/railspan/board/Colour") (S_74 : Sta Z Z.heap "com/example/railspan/railspan/board/Colour" "YELLOW" "Lcom/example/railspan/railspan/board/Colour;" (.ref a73)) (E_78 : Exa Z Z.heap a73 "com/example/railspan/railspan/board/Colour") (S_81 : Sta Z Z.heap "com/example/railspan/railspan/board/Colour" "GREY" "Lcom/example/railspan/railspan/board/Colour;" (.ref a80)) (E_85 : Exa Z Z.heap a80 "com/example/railspan/railspan/board/Colour") (S_114 : Sta Z Z.heap "java/lang/String" "COMPACT_STRINGS" "Z" (.int p113)) (hk115 : ¬ (p113 = (0 : Int32))) :
    MetFree l x (head1 (Jvm.Cond.code x code maxLocals ret :: ws) room_1) (fun a U => a = #[(.int p1), (.int p2), (.int p3), (.int p4), (.int p5), (.int p6)] ∧ Z.Warmed39 U.vm ∧ U.heap = h0) (fun _ _ _ _ _ => True) (fun _ U o U' => ∃ v L, o = .returned v ∧ Q0 Z p1 p2 p3 p4 p5 p6 a24 a31 a38 a45 a52 a59 a66 a73 a80 p113 h0 n0 v U'.heap L ∧ FrameEnd U o U' L room_1.cells room_1.slots) := by
  refine MetFree.of_bodySF (plainFor_of_name pn_4) hisR ?_
  intro p e s m args below meth c s₁ Bd hml0 hP hK
  obtain ⟨rfl, hZ, hh⟩ := hP
  have hx := Bd.exec
  have hby := Bd.bytes
  have hml : c.maxLocals = 13 := hml0
  have hown : s.vm.findClass "com/example/railspan/railspan/board/RouteIsFerryPinLaw" = some m.cls := findClass_of_methodNamed Bd.named
  have hnm := (name_of_methodNamed Bd.named Bd.method).1
  have X0 : Stand p l e room_1 s m #[(.int p1), (.int p2), (.int p3), (.int p4), (.int p5), (.int p6)] below meth c s₁ [] 0 0 := Stand.of_body Bd
  have e0 : s₁.heap = h0 := by rw [← hh, Bd.state]; rfl
  have N0 := Fr.nil n0
  have pre0 : ∀ t, Steps p.tables e below (s₁.setTop (mkF m 0 #[.val (.int p1), .val (.int p2), .val (.int p3), .val (.int p4), .val (.int p5), .val (.int p6), .unset, .unset, .unset, .unset, .unset, .unset, .unset] [])) t → Steps p.tables e below (s₁.setTop (entryFrame m #[(.int p1), (.int p2), (.int p3), (.int p4), (.int p5), (.int p6)] maxLocals)) t := fun t k => castTop (ef_rm0 m p1 p2 p3 p4 p5 p6) k
  refine Classical.byContradiction fun hno => ?_
  obtain ⟨T7, h7, k7, X7, e7, E7, A7, Ex7, st7⟩ := newPE X0 hx hZ (hw _ (gw 0 rfl)) e0 (g := (mkF m 1 #[.val (.int p1), .val (.int p2), .val (.int p3), .val (.int p4), .val (.int p5), .val (.int p6), .unset, .unset, .unset, .unset, .unset, .unset, .unset] [(.int (2 : Int32))])) rfl (hb hby at_1) rfl (by decide +kernel) (cap := 2) (by decide +kernel) (by decide) (by decide) (by decide) (ad := "[C") (by decide +kernel)
  obtain ⟨b7, g7⟩ : ∃ z, z = h0.size := ⟨_, rfl⟩
  rw [← g7] at A7 Ex7 st7
  have O7 : Old Z n0 h7 := O0.ext E7
  have bd_b7 : h0.size ≤ b7 := Nat.le_of_eq g7.symm
  have g_b7 : n0 ≤ b7 := Nat.le_trans (own_z O0) bd_b7
  have sz_b7 : h0.size ≤ b7 := Nat.le_trans (Nat.le_refl _) bd_b7
  have lt_b7 : b7 < h7.size := A7.lt
  have V7 : Arv Z h7 b7 k7 .char (2 : Int32) [] (.int (0 : Int32)) := Arv.new A7 (by decide +kernel)
  obtain ⟨i8, hi8⟩ : ∃ z, z = (p2 &&& (255 : Int32)) := ⟨_, rfl⟩
  have Vp9 : Arv Z h7 b7 k7 .char (2 : Int32) [(.int (0 : Int32))] (.int (0 : Int32)) := V7.pad (pad_rep [] (.int (0 : Int32)) 1)
  obtain ⟨cl10, Ar10, qk10, Sz10, Nn10, Hh10, Gg10⟩ := id Vp9
  have hin10 : ¬ ((0 : Int32) < 0 ∨ cl10.slots.size ≤ ((0 : Int32)).toNatClampNeg) := inb_of Sz10 ⟨by decide +kernel, by decide +kernel⟩
  obtain ⟨T11, h11, X11, e11, W11, st11⟩ := stC X7 hx hZ e7 Ar10 (j := (0 : Int32)) hin10 (g := (mkF m 14 #[.val (.int p1), .val (.int p2), .val (.int p3), .val (.int p4), .val (.int p5), .val (.int p6), .val (.ref b7), .unset, .unset, .unset, .unset, .unset, .unset] [(.int i8), (.int (0 : Int32)), (.ref b7)])) rfl rfl (hb hby at_14)
  rw [show (nar .char i8) = i8 from (own_nar255 hi8)] at W11
  have O11 : Old Z n0 h11 := O7.wr W11 g_b7
  have V11 : Arv Z h11 b7 k7 .char (2 : Int32) [(.int i8)] (.int (0 : Int32)) := Arv.set Ar10 qk10 Sz10 Nn10 Hh10 Gg10 ((own_nar255 hi8) ▸ fits_nar_char _) W11 0 rfl (Nat.le_of_ble_eq_true rfl)
  have N11 := Fr.snoc X11 N0 g_b7
  obtain ⟨i12, hi12⟩ : ∃ z, z = ((p2.toUInt32 >>> ((8 : Int32) &&& 31).toUInt32).toInt32) := ⟨_, rfl⟩
  obtain ⟨i13, hi13⟩ : ∃ z, z = (i12 &&& (255 : Int32)) := ⟨_, rfl⟩
  have Vp14 : Arv Z h11 b7 k7 .char (2 : Int32) [(.int i8), (.int (0 : Int32))] (.int (0 : Int32)) := V11.pad (pad_rep [(.int i8)] (.int (0 : Int32)) 1)
  obtain ⟨cl15, Ar15, qk15, Sz15, Nn15, Hh15, Gg15⟩ := id Vp14
  have hin15 : ¬ ((1 : Int32) < 0 ∨ cl15.slots.size ≤ ((1 : Int32)).toNatClampNeg) := inb_of Sz15 ⟨by decide +kernel, by decide +kernel⟩
  obtain ⟨T16, h16, X16, e16, W16, st16⟩ := stC X11 hx hZ e11 Ar15 (j := (1 : Int32)) hin15 (g := (mkF m 27 #[.val (.int p1), .val (.int p2), .val (.int p3), .val (.int p4), .val (.int p5), .val (.int p6), .val (.ref b7), .unset, .unset, .unset, .unset, .unset, .unset] [(.int i13), (.int (1 : Int32)), (.ref b7)])) rfl rfl (hb hby at_27)
  rw [show (nar .char i13) = i13 from (own_nar255 hi13)] at W16
  have O16 : Old Z n0 h16 := O11.wr W16 g_b7
  have V16 : Arv Z h16 b7 k7 .char (2 : Int32) [(.int i8), (.int i13)] (.int (0 : Int32)) := Arv.set Ar15 qk15 Sz15 Nn15 Hh15 Gg15 ((own_nar255 hi13) ▸ fits_nar_char _) W16 1 rfl (Nat.le_of_ble_eq_true rfl)
  have N16 := Fr.snoc X16 N11 g_b7
  obtain ⟨T17, h17, k17, X17, e17, E17, A17, Ex17, st17⟩ := newPE X16 hx hZ (hw _ (gw 0 rfl)) e16 (g := (mkF m 29 #[.val (.int p1), .val (.int p2), .val (.int p3), .val (.int p4), .val (.int p5), .val (.int p6), .val (.ref b7), .unset, .unset, .unset, .unset, .unset, .unset] [(.int (1 : Int32))])) rfl (hb hby at_29) rfl (by decide +kernel) (cap := 1) (by decide +kernel) (by decide) (by decide) (by decide) (ad := "[C") (by decide +kernel)
  obtain ⟨b17, g17⟩ : ∃ z, z = h16.size := ⟨_, rfl⟩
  rw [← g17] at A17 Ex17 st17
  have O17 : Old Z n0 h17 := O16.ext E17
  have bd_b17 : h16.size ≤ b17 := Nat.le_of_eq g17.symm
  have g_b17 : n0 ≤ b17 := Nat.le_trans (own_z O16) bd_b17
  have sz_b17 : h0.size ≤ b17 := Nat.le_trans (Nat.le_trans (Nat.le_trans E7.1 (Keep.of_wr W11).1) (Keep.of_wr W16).1) bd_b17
  have lt_b17 : b17 < h17.size := A17.lt
  have V17 : Arv Z h17 b17 k17 .char (1 : Int32) [] (.int (0 : Int32)) := Arv.new A17 (by decide +kernel)
  obtain ⟨i18, hi18⟩ : ∃ z, z = ((p2.toUInt32 >>> ((16 : Int32) &&& 31).toUInt32).toInt32) := ⟨_, rfl⟩
  obtain ⟨i19, hi19⟩ : ∃ z, z = (i18 &&& (255 : Int32)) := ⟨_, rfl⟩
  have Vp20 : Arv Z h17 b17 k17 .char (1 : Int32) [(.int (0 : Int32))] (.int (0 : Int32)) := V17.pad (pad_rep [] (.int (0 : Int32)) 1)
  obtain ⟨cl21, Ar21, qk21, Sz21, Nn21, Hh21, Gg21⟩ := id Vp20
  have hin21 : ¬ ((0 : Int32) < 0 ∨ cl21.slots.size ≤ ((0 : Int32)).toNatClampNeg) := inb_of Sz21 ⟨by decide +kernel, by decide +kernel⟩
  obtain ⟨T22, h22, X22, e22, W22, st22⟩ := stC X17 hx hZ e17 Ar21 (j := (0 : Int32)) hin21 (g := (mkF m 45 #[.val (.int p1), .val (.int p2), .val (.int p3), .val (.int p4), .val (.int p5), .val (.int p6), .val (.ref b7), .val (.ref b17), .unset, .unset, .unset, .unset, .unset] [(.int i19), (.int (0 : Int32)), (.ref b17)])) rfl rfl (hb hby at_45)
  rw [show (nar .char i19) = i19 from (own_nar255 hi19)] at W22
  have O22 : Old Z n0 h22 := O17.wr W22 g_b17
  have V22 : Arv Z h22 b17 k17 .char (1 : Int32) [(.int i19)] (.int (0 : Int32)) := Arv.set Ar21 qk21 Sz21 Nn21 Hh21 Gg21 ((own_nar255 hi19) ▸ fits_nar_char _) W22 0 rfl (Nat.le_of_ble_eq_true rfl)
  have N22 := Fr.snoc X22 N16 g_b17
  obtain ⟨T23, h23, k23, X23, e23, E23, A23, Ex23, Ov23, st23⟩ := newRE X22 hx hZ hown (hw _ (gw 1 rfl)) (hw _ (gw 2 rfl)) e22 (g := (mkF m 48 #[.val (.int p1), .val (.int p2), .val (.int p3), .val (.int p4), .val (.int p5), .val (.int p6), .val (.ref b7), .val (.ref b17), .unset, .unset, .unset, .unset, .unset] [(.int (9 : Int32))])) rfl (hb hby at_48) rfl (by decide +kernel) (cap := 9) (by decide +kernel) (by decide) (by decide) (by decide) (ad := "[Lcom/example/railspan/railspan/board/Colour;") (by decide +kernel)
  obtain ⟨b23, g23⟩ : ∃ z, z = h22.size := ⟨_, rfl⟩
  rw [← g23] at A23 Ex23 st23
  have O23 : Old Z n0 h23 := O22.ext E23
  have bd_b23 : h22.size ≤ b23 := Nat.le_of_eq g23.symm
  have g_b23 : n0 ≤ b23 := Nat.le_trans (own_z O22) bd_b23
  have sz_b23 : h0.size ≤ b23 := Nat.le_trans (Nat.le_trans (Nat.le_trans (Nat.le_trans (Nat.le_trans E7.1 (Keep.of_wr W11).1) (Keep.of_wr W16).1) E17.1) (Keep.of_wr W22).1) bd_b23
  have lt_b23 : b23 < h23.size := A23.lt
  have V23 : Arv Z h23 b23 k23 (.object "com/example/railspan/railspan/board/Colour") (9 : Int32) [] .null := Arv.new A23 (by decide +kernel)
  obtain ⟨T26, X26, e26, st26⟩ := getS2 X23 hx hZ hown (host := "") (Or.inl (hw _ (gw 3 rfl))) Via.refl e23 (Sta.ext O23.2 S_25) (g := (mkF m 53 #[.val (.int p1), .val (.int p2), .val (.int p3), .val (.int p4), .val (.int p5), .val (.int p6), .val (.ref b7), .val (.ref b17), .unset, .unset, .unset, .unset, .unset] [(.int (0 : Int32)), (.ref b23), (.ref b23)])) rfl (hb hby at_53)
  have Vp27 : Arv Z h23 b23 k23 (.object "com/example/railspan/railspan/board/Colour") (9 : Int32) [.null] .null := V23.pad (pad_rep [] .null 1)
  obtain ⟨cl28, Ar28, qk28, Sz28, Nn28, Hh28, Gg28⟩ := id Vp27
  have hin28 : ¬ ((0 : Int32) < 0 ∨ cl28.slots.size ≤ ((0 : Int32)).toNatClampNeg) := inb_of Sz28 ⟨by decide +kernel, by decide +kernel⟩
  obtain ⟨T30, h30, X30, e30, W30, st30⟩ := stR X26 hx hZ e26 Ar28 (j := (0 : Int32)) hin28 rfl (Sto.ofV Ar28 qk28 Ov23 (Ins.self (Exa.ext O23.2 E_29))) (g := (mkF m 56 #[.val (.int p1), .val (.int p2), .val (.int p3), .val (.int p4), .val (.int p5), .val (.int p6), .val (.ref b7), .val (.ref b17), .unset, .unset, .unset, .unset, .unset] [(.ref a24), (.int (0 : Int32)), (.ref b23), (.ref b23)])) rfl rfl (hb hby at_56)
  have O30 : Old Z n0 h30 := O23.wr W30 g_b23
  have V30 : Arv Z h30 b23 k23 (.object "com/example/railspan/railspan/board/Colour") (9 : Int32) [(.ref a24)] .null := Arv.set Ar28 qk28 Sz28 Nn28 Hh28 Gg28 rfl W30 0 rfl (Nat.le_of_ble_eq_true rfl)
  have N30 := Fr.snoc X30 N22 g_b23
  obtain ⟨T33, X33, e33, st33⟩ := getS2 X30 hx hZ hown (host := "") (Or.inl (hw _ (gw 7 rfl))) Via.refl e30 (Sta.ext O30.2 S_32) (g := (mkF m 59 #[.val (.int p1), .val (.int p2), .val (.int p3), .val (.int p4), .val (.int p5), .val (.int p6), .val (.ref b7), .val (.ref b17), .unset, .unset, .unset, .unset, .unset] [(.int (1 : Int32)), (.ref b23), (.ref b23)])) rfl (hb hby at_59)
  have Vp34 : Arv Z h30 b23 k23 (.object "com/example/railspan/railspan/board/Colour") (9 : Int32) [(.ref a24), .null] .null := V30.pad (pad_rep [(.ref a24)] .null 1)
  obtain ⟨cl35, Ar35, qk35, Sz35, Nn35, Hh35, Gg35⟩ := id Vp34
  have hin35 : ¬ ((1 : Int32) < 0 ∨ cl35.slots.size ≤ ((1 : Int32)).toNatClampNeg) := inb_of Sz35 ⟨by decide +kernel, by decide +kernel⟩
  obtain ⟨T37, h37, X37, e37, W37, st37⟩ := stR X33 hx hZ e33 Ar35 (j := (1 : Int32)) hin35 rfl (Sto.ofV Ar35 qk35 Ov23 (Ins.self (Exa.ext O30.2 E_36))) (g := (mkF m 62 #[.val (.int p1), .val (.int p2), .val (.int p3), .val (.int p4), .val (.int p5), .val (.int p6), .val (.ref b7), .val (.ref b17), .unset, .unset, .unset, .unset, .unset] [(.ref a31), (.int (1 : Int32)), (.ref b23), (.ref b23)])) rfl rfl (hb hby at_62)
  have O37 : Old Z n0 h37 := O30.wr W37 g_b23
  have V37 : Arv Z h37 b23 k23 (.object "com/example/railspan/railspan/board/Colour") (9 : Int32) [(.ref a24), (.ref a31)] .null := Arv.set Ar35 qk35 Sz35 Nn35 Hh35 Gg35 rfl W37 1 rfl (Nat.le_of_ble_eq_true rfl)
  have N37 := Fr.snoc X37 N30 g_b23
  obtain ⟨T40, X40, e40, st40⟩ := getS2 X37 hx hZ hown (host := "") (Or.inl (hw _ (gw 9 rfl))) Via.refl e37 (Sta.ext O37.2 S_39) (g := (mkF m 65 #[.val (.int p1), .val (.int p2), .val (.int p3), .val (.int p4), .val (.int p5), .val (.int p6), .val (.ref b7), .val (.ref b17), .unset, .unset, .unset, .unset, .unset] [(.int (2 : Int32)), (.ref b23), (.ref b23)])) rfl (hb hby at_65)
  have Vp41 : Arv Z h37 b23 k23 (.object "com/example/railspan/railspan/board/Colour") (9 : Int32) [(.ref a24), (.ref a31), .null] .null := V37.pad (pad_rep [(.ref a24), (.ref a31)] .null 1)
  obtain ⟨cl42, Ar42, qk42, Sz42, Nn42, Hh42, Gg42⟩ := id Vp41
  have hin42 : ¬ ((2 : Int32) < 0 ∨ cl42.slots.size ≤ ((2 : Int32)).toNatClampNeg) := inb_of Sz42 ⟨by decide +kernel, by decide +kernel⟩
  obtain ⟨T44, h44, X44, e44, W44, st44⟩ := stR X40 hx hZ e40 Ar42 (j := (2 : Int32)) hin42 rfl (Sto.ofV Ar42 qk42 Ov23 (Ins.self (Exa.ext O37.2 E_43))) (g := (mkF m 68 #[.val (.int p1), .val (.int p2), .val (.int p3), .val (.int p4), .val (.int p5), .val (.int p6), .val (.ref b7), .val (.ref b17), .unset, .unset, .unset, .unset, .unset] [(.ref a38), (.int (2 : Int32)), (.ref b23), (.ref b23)])) rfl rfl (hb hby at_68)
  have O44 : Old Z n0 h44 := O37.wr W44 g_b23
  have V44 : Arv Z h44 b23 k23 (.object "com/example/railspan/railspan/board/Colour") (9 : Int32) [(.ref a24), (.ref a31), (.ref a38)] .null := Arv.set Ar42 qk42 Sz42 Nn42 Hh42 Gg42 rfl W44 2 rfl (Nat.le_of_ble_eq_true rfl)
  have N44 := Fr.snoc X44 N37 g_b23
  obtain ⟨T47, X47, e47, st47⟩ := getS2 X44 hx hZ hown (host := "") (Or.inl (hw _ (gw 11 rfl))) Via.refl e44 (Sta.ext O44.2 S_46) (g := (mkF m 71 #[.val (.int p1), .val (.int p2), .val (.int p3), .val (.int p4), .val (.int p5), .val (.int p6), .val (.ref b7), .val (.ref b17), .unset, .unset, .unset, .unset, .unset] [(.int (3 : Int32)), (.ref b23), (.ref b23)])) rfl (hb hby at_71)
  have Vp48 : Arv Z h44 b23 k23 (.object "com/example/railspan/railspan/board/Colour") (9 : Int32) [(.ref a24), (.ref a31), (.ref a38), .null] .null := V44.pad (pad_rep [(.ref a24), (.ref a31), (.ref a38)] .null 1)
  obtain ⟨cl49, Ar49, qk49, Sz49, Nn49, Hh49, Gg49⟩ := id Vp48
  have hin49 : ¬ ((3 : Int32) < 0 ∨ cl49.slots.size ≤ ((3 : Int32)).toNatClampNeg) := inb_of Sz49 ⟨by decide +kernel, by decide +kernel⟩
  obtain ⟨T51, h51, X51, e51, W51, st51⟩ := stR X47 hx hZ e47 Ar49 (j := (3 : Int32)) hin49 rfl (Sto.ofV Ar49 qk49 Ov23 (Ins.self (Exa.ext O44.2 E_50))) (g := (mkF m 74 #[.val (.int p1), .val (.int p2), .val (.int p3), .val (.int p4), .val (.int p5), .val (.int p6), .val (.ref b7), .val (.ref b17), .unset, .unset, .unset, .unset, .unset] [(.ref a45), (.int (3 : Int32)), (.ref b23), (.ref b23)])) rfl rfl (hb hby at_74)
  have O51 : Old Z n0 h51 := O44.wr W51 g_b23
  have V51 : Arv Z h51 b23 k23 (.object "com/example/railspan/railspan/board/Colour") (9 : Int32) [(.ref a24), (.ref a31), (.ref a38), (.ref a45)] .null := Arv.set Ar49 qk49 Sz49 Nn49 Hh49 Gg49 rfl W51 3 rfl (Nat.le_of_ble_eq_true rfl)
  have N51 := Fr.snoc X51 N44 g_b23
  obtain ⟨T54, X54, e54, st54⟩ := getS2 X51 hx hZ hown (host := "") (Or.inl (hw _ (gw 13 rfl))) Via.refl e51 (Sta.ext O51.2 S_53) (g := (mkF m 77 #[.val (.int p1), .val (.int p2), .val (.int p3), .val (.int p4), .val (.int p5), .val (.int p6), .val (.ref b7), .val (.ref b17), .unset, .unset, .unset, .unset, .unset] [(.int (4 : Int32)), (.ref b23), (.ref b23)])) rfl (hb hby at_77)
  have Vp55 : Arv Z h51 b23 k23 (.object "com/example/railspan/railspan/board/Colour") (9 : Int32) [(.ref a24), (.ref a31), (.ref a38), (.ref a45), .null] .null := V51.pad (pad_rep [(.ref a24), (.ref a31), (.ref a38), (.ref a45)] .null 1)
  obtain ⟨cl56, Ar56, qk56, Sz56, Nn56, Hh56, Gg56⟩ := id Vp55
  have hin56 : ¬ ((4 : Int32) < 0 ∨ cl56.slots.size ≤ ((4 : Int32)).toNatClampNeg) := inb_of Sz56 ⟨by decide +kernel, by decide +kernel⟩
  obtain ⟨T58, h58, X58, e58, W58, st58⟩ := stR X54 hx hZ e54 Ar56 (j := (4 : Int32)) hin56 rfl (Sto.ofV Ar56 qk56 Ov23 (Ins.self (Exa.ext O51.2 E_57))) (g := (mkF m 80 #[.val (.int p1), .val (.int p2), .val (.int p3), .val (.int p4), .val (.int p5), .val (.int p6), .val (.ref b7), .val (.ref b17), .unset, .unset, .unset, .unset, .unset] [(.ref a52), (.int (4 : Int32)), (.ref b23), (.ref b23)])) rfl rfl (hb hby at_80)
  have O58 : Old Z n0 h58 := O51.wr W58 g_b23
  have V58 : Arv Z h58 b23 k23 (.object "com/example/railspan/railspan/board/Colour") (9 : Int32) [(.ref a24), (.ref a31), (.ref a38), (.ref a45), (.ref a52)] .null := Arv.set Ar56 qk56 Sz56 Nn56 Hh56 Gg56 rfl W58 4 rfl (Nat.le_of_ble_eq_true rfl)
  have N58 := Fr.snoc X58 N51 g_b23
  obtain ⟨T61, X61, e61, st61⟩ := getS2 X58 hx hZ hown (host := "") (Or.inl (hw _ (gw 15 rfl))) Via.refl e58 (Sta.ext O58.2 S_60) (g := (mkF m 83 #[.val (.int p1), .val (.int p2), .val (.int p3), .val (.int p4), .val (.int p5), .val (.int p6), .val (.ref b7), .val (.ref b17), .unset, .unset, .unset, .unset, .unset] [(.int (5 : Int32)), (.ref b23), (.ref b23)])) rfl (hb hby at_83)
  have Vp62 : Arv Z h58 b23 k23 (.object "com/example/railspan/railspan/board/Colour") (9 : Int32) [(.ref a24), (.ref a31), (.ref a38), (.ref a45), (.ref a52), .null] .null := V58.pad (pad_rep [(.ref a24), (.ref a31), (.ref a38), (.ref a45), (.ref a52)] .null 1)
  obtain ⟨cl63, Ar63, qk63, Sz63, Nn63, Hh63, Gg63⟩ := id Vp62
  have hin63 : ¬ ((5 : Int32) < 0 ∨ cl63.slots.size ≤ ((5 : Int32)).toNatClampNeg) := inb_of Sz63 ⟨by decide +kernel, by decide +kernel⟩
  obtain ⟨T65, h65, X65, e65, W65, st65⟩ := stR X61 hx hZ e61 Ar63 (j := (5 : Int32)) hin63 rfl (Sto.ofV Ar63 qk63 Ov23 (Ins.self (Exa.ext O58.2 E_64))) (g := (mkF m 86 #[.val (.int p1), .val (.int p2), .val (.int p3), .val (.int p4), .val (.int p5), .val (.int p6), .val (.ref b7), .val (.ref b17), .unset, .unset, .unset, .unset, .unset] [(.ref a59), (.int (5 : Int32)), (.ref b23), (.ref b23)])) rfl rfl (hb hby at_86)
  have O65 : Old Z n0 h65 := O58.wr W65 g_b23
  have V65 : Arv Z h65 b23 k23 (.object "com/example/railspan/railspan/board/Colour") (9 : Int32) [(.ref a24), (.ref a31), (.ref a38), (.ref a45), (.ref a52), (.ref a59)] .null := Arv.set Ar63 qk63 Sz63 Nn63 Hh63 Gg63 rfl W65 5 rfl (Nat.le_of_ble_eq_true rfl)
  have N65 := Fr.snoc X65 N58 g_b23
  obtain ⟨T68, X68, e68, st68⟩ := getS2 X65 hx hZ hown (host := "") (Or.inl (hw _ (gw 17 rfl))) Via.refl e65 (Sta.ext O65.2 S_67) (g := (mkF m 90 #[.val (.int p1), .val (.int p2), .val (.int p3), .val (.int p4), .val (.int p5), .val (.int p6), .val (.ref b7), .val (.ref b17), .unset, .unset, .unset, .unset, .unset] [(.int (6 : Int32)), (.ref b23), (.ref b23)])) rfl (hb hby at_90)
  have Vp69 : Arv Z h65 b23 k23 (.object "com/example/railspan/railspan/board/Colour") (9 : Int32) [(.ref a24), (.ref a31), (.ref a38), (.ref a45), (.ref a52), (.ref a59), .null] .null := V65.pad (pad_rep [(.ref a24), (.ref a31), (.ref a38), (.ref a45), (.ref a52), (.ref a59)] .null 1)
  obtain ⟨cl70, Ar70, qk70, Sz70, Nn70, Hh70, Gg70⟩ := id Vp69
  have hin70 : ¬ ((6 : Int32) < 0 ∨ cl70.slots.size ≤ ((6 : Int32)).toNatClampNeg) := inb_of Sz70 ⟨by decide +kernel, by decide +kernel⟩
  obtain ⟨T72, h72, X72, e72, W72, st72⟩ := stR X68 hx hZ e68 Ar70 (j := (6 : Int32)) hin70 rfl (Sto.ofV Ar70 qk70 Ov23 (Ins.self (Exa.ext O65.2 E_71))) (g := (mkF m 93 #[.val (.int p1), .val (.int p2), .val (.int p3), .val (.int p4), .val (.int p5), .val (.int p6), .val (.ref b7), .val (.ref b17), .unset, .unset, .unset, .unset, .unset] [(.ref a66), (.int (6 : Int32)), (.ref b23), (.ref b23)])) rfl rfl (hb hby at_93)
  have O72 : Old Z n0 h72 := O65.wr W72 g_b23
  have V72 : Arv Z h72 b23 k23 (.object "com/example/railspan/railspan/board/Colour") (9 : Int32) [(.ref a24), (.ref a31), (.ref a38), (.ref a45), (.ref a52), (.ref a59), (.ref a66)] .null := Arv.set Ar70 qk70 Sz70 Nn70 Hh70 Gg70 rfl W72 6 rfl (Nat.le_of_ble_eq_true rfl)
  have N72 := Fr.snoc X72 N65 g_b23
  obtain ⟨T75, X75, e75, st75⟩ := getS2 X72 hx hZ hown (host := "") (Or.inl (hw _ (gw 19 rfl))) Via.refl e72 (Sta.ext O72.2 S_74) (g := (mkF m 97 #[.val (.int p1), .val (.int p2), .val (.int p3), .val (.int p4), .val (.int p5), .val (.int p6), .val (.ref b7), .val (.ref b17), .unset, .unset, .unset, .unset, .unset] [(.int (7 : Int32)), (.ref b23), (.ref b23)])) rfl (hb hby at_97)
  have Vp76 : Arv Z h72 b23 k23 (.object "com/example/railspan/railspan/board/Colour") (9 : Int32) [(.ref a24), (.ref a31), (.ref a38), (.ref a45), (.ref a52), (.ref a59), (.ref a66), .null] .null := V72.pad (pad_rep [(.ref a24), (.ref a31), (.ref a38), (.ref a45), (.ref a52), (.ref a59), (.ref a66)] .null 1)
  obtain ⟨cl77, Ar77, qk77, Sz77, Nn77, Hh77, Gg77⟩ := id Vp76
  have hin77 : ¬ ((7 : Int32) < 0 ∨ cl77.slots.size ≤ ((7 : Int32)).toNatClampNeg) := inb_of Sz77 ⟨by decide +kernel, by decide +kernel⟩
  obtain ⟨T79, h79, X79, e79, W79, st79⟩ := stR X75 hx hZ e75 Ar77 (j := (7 : Int32)) hin77 rfl (Sto.ofV Ar77 qk77 Ov23 (Ins.self (Exa.ext O72.2 E_78))) (g := (mkF m 100 #[.val (.int p1), .val (.int p2), .val (.int p3), .val (.int p4), .val (.int p5), .val (.int p6), .val (.ref b7), .val (.ref b17), .unset, .unset, .unset, .unset, .unset] [(.ref a73), (.int (7 : Int32)), (.ref b23), (.ref b23)])) rfl rfl (hb hby at_100)
  have O79 : Old Z n0 h79 := O72.wr W79 g_b23
  have V79 : Arv Z h79 b23 k23 (.object "com/example/railspan/railspan/board/Colour") (9 : Int32) [(.ref a24), (.ref a31), (.ref a38), (.ref a45), (.ref a52), (.ref a59), (.ref a66), (.ref a73)] .null := Arv.set Ar77 qk77 Sz77 Nn77 Hh77 Gg77 rfl W79 7 rfl (Nat.le_of_ble_eq_true rfl)
  have N79 := Fr.snoc X79 N72 g_b23
  obtain ⟨T82, X82, e82, st82⟩ := getS2 X79 hx hZ hown (host := "") (Or.inl (hw _ (gw 21 rfl))) Via.refl e79 (Sta.ext O79.2 S_81) (g := (mkF m 104 #[.val (.int p1), .val (.int p2), .val (.int p3), .val (.int p4), .val (.int p5), .val (.int p6), .val (.ref b7), .val (.ref b17), .unset, .unset, .unset, .unset, .unset] [(.int (8 : Int32)), (.ref b23), (.ref b23)])) rfl (hb hby at_104)
  have Vp83 : Arv Z h79 b23 k23 (.object "com/example/railspan/railspan/board/Colour") (9 : Int32) [(.ref a24), (.ref a31), (.ref a38), (.ref a45), (.ref a52), (.ref a59), (.ref a66), (.ref a73), .null] .null := V79.pad (pad_rep [(.ref a24), (.ref a31), (.ref a38), (.ref a45), (.ref a52), (.ref a59), (.ref a66), (.ref a73)] .null 1)
  obtain ⟨cl84, Ar84, qk84, Sz84, Nn84, Hh84, Gg84⟩ := id Vp83
  have hin84 : ¬ ((8 : Int32) < 0 ∨ cl84.slots.size ≤ ((8 : Int32)).toNatClampNeg) := inb_of Sz84 ⟨by decide +kernel, by decide +kernel⟩
  obtain ⟨T86, h86, X86, e86, W86, st86⟩ := stR X82 hx hZ e82 Ar84 (j := (8 : Int32)) hin84 rfl (Sto.ofV Ar84 qk84 Ov23 (Ins.self (Exa.ext O79.2 E_85))) (g := (mkF m 107 #[.val (.int p1), .val (.int p2), .val (.int p3), .val (.int p4), .val (.int p5), .val (.int p6), .val (.ref b7), .val (.ref b17), .unset, .unset, .unset, .unset, .unset] [(.ref a80), (.int (8 : Int32)), (.ref b23), (.ref b23)])) rfl rfl (hb hby at_107)
  have O86 : Old Z n0 h86 := O79.wr W86 g_b23
  have V86 : Arv Z h86 b23 k23 (.object "com/example/railspan/railspan/board/Colour") (9 : Int32) [(.ref a24), (.ref a31), (.ref a38), (.ref a45), (.ref a52), (.ref a59), (.ref a66), (.ref a73), (.ref a80)] .null := Arv.set Ar84 qk84 Sz84 Nn84 Hh84 Gg84 rfl W86 8 rfl (Nat.le_of_ble_eq_true rfl)
  have N86 := Fr.snoc X86 N79 g_b23
  obtain ⟨i87, hi87⟩ : ∃ z, z = (p4 &&& (2147483647 : Int32)) := ⟨_, rfl⟩
  obtain ⟨i88, hi88⟩ : ∃ z, z = (i87 % (9 : Int32)) := ⟨_, rfl⟩
  have pre89 : ∀ t, Steps p.tables e below (T86.setTop (mkF m 119 #[.val (.int p1), .val (.int p2), .val (.int p3), .val (.int p4), .val (.int p5), .val (.int p6), .val (.ref b7), .val (.ref b17), .val (.ref b23), .unset, .unset, .unset, .unset] [(.int i88), (.ref b23)])) t → Steps p.tables e below (s₁.setTop (entryFrame m #[(.int p1), (.int p2), (.int p3), (.int p4), (.int p5), (.int p6)] maxLocals)) t := by
    intro t kt
    refine pre0 t ?_
    show Steps p.tables e below (s₁.setTop (mkF m 0 #[.val (.int p1), .val (.int p2), .val (.int p3), .val (.int p4), .val (.int p5), .val (.int p6), .unset, .unset, .unset, .unset, .unset, .unset, .unset] [])) _
    refine XS.iconst X0.here hx rfl (hb hby at_0) ?_
    show Steps p.tables e below (s₁.setTop (mkF m 1 #[.val (.int p1), .val (.int p2), .val (.int p3), .val (.int p4), .val (.int p5), .val (.int p6), .unset, .unset, .unset, .unset, .unset, .unset, .unset] [(.int (2 : Int32))])) _
    refine st7 _ ?_
    show Steps p.tables e below (T7.setTop (mkF m 3 #[.val (.int p1), .val (.int p2), .val (.int p3), .val (.int p4), .val (.int p5), .val (.int p6), .unset, .unset, .unset, .unset, .unset, .unset, .unset] [(.ref b7)])) _
    refine XS.astore X7.here hx rfl (hb hby at_3) rfl rfl (l' := #[.val (.int p1), .val (.int p2), .val (.int p3), .val (.int p4), .val (.int p5), .val (.int p6), .val (.ref b7), .unset, .unset, .unset, .unset, .unset, .unset]) rfl ?_
    show Steps p.tables e below (T7.setTop (mkF m 5 #[.val (.int p1), .val (.int p2), .val (.int p3), .val (.int p4), .val (.int p5), .val (.int p6), .val (.ref b7), .unset, .unset, .unset, .unset, .unset, .unset] [])) _
    refine XS.aload X7.here hx rfl (hb hby at_5) rfl rfl ?_
    show Steps p.tables e below (T7.setTop (mkF m 7 #[.val (.int p1), .val (.int p2), .val (.int p3), .val (.int p4), .val (.int p5), .val (.int p6), .val (.ref b7), .unset, .unset, .unset, .unset, .unset, .unset] [(.ref b7)])) _
    refine XS.iconst X7.here hx rfl (hb hby at_7) ?_
    show Steps p.tables e below (T7.setTop (mkF m 8 #[.val (.int p1), .val (.int p2), .val (.int p3), .val (.int p4), .val (.int p5), .val (.int p6), .val (.ref b7), .unset, .unset, .unset, .unset, .unset, .unset] [(.int (0 : Int32)), (.ref b7)])) _
    refine XS.iloadN X7.here hx rfl (hb hby at_8) rfl ?_
    show Steps p.tables e below (T7.setTop (mkF m 9 #[.val (.int p1), .val (.int p2), .val (.int p3), .val (.int p4), .val (.int p5), .val (.int p6), .val (.ref b7), .unset, .unset, .unset, .unset, .unset, .unset] [(.int p2), (.int (0 : Int32)), (.ref b7)])) _
    refine XS.sipush X7.here hx rfl (hb hby at_9) ?_
    show Steps p.tables e below (T7.setTop (mkF m 12 #[.val (.int p1), .val (.int p2), .val (.int p3), .val (.int p4), .val (.int p5), .val (.int p6), .val (.ref b7), .unset, .unset, .unset, .unset, .unset, .unset] [(.int (255 : Int32)), (.int p2), (.int (0 : Int32)), (.ref b7)])) _
    refine XS.iand X7.here hx rfl (hb hby at_12) rfl ?_
    show Steps p.tables e below (T7.setTop (mkF m 13 #[.val (.int p1), .val (.int p2), .val (.int p3), .val (.int p4), .val (.int p5), .val (.int p6), .val (.ref b7), .unset, .unset, .unset, .unset, .unset, .unset] [(.int (p2 &&& (255 : Int32))), (.int (0 : Int32)), (.ref b7)])) _
    rw [← hi8]
    show Steps p.tables e below (T7.setTop (mkF m 13 #[.val (.int p1), .val (.int p2), .val (.int p3), .val (.int p4), .val (.int p5), .val (.int p6), .val (.ref b7), .unset, .unset, .unset, .unset, .unset, .unset] [(.int i8), (.int (0 : Int32)), (.ref b7)])) _
    refine XS.i2c X7.here hx rfl (hb hby at_13) rfl ?_
    show Steps p.tables e below (T7.setTop (mkF m 14 #[.val (.int p1), .val (.int p2), .val (.int p3), .val (.int p4), .val (.int p5), .val (.int p6), .val (.ref b7), .unset, .unset, .unset, .unset, .unset, .unset] [(.int (i8.toUInt32.toUInt16.toUInt32.toInt32)), (.int (0 : Int32)), (.ref b7)])) _
    rw [(own_i2c255 hi8)]
    show Steps p.tables e below (T7.setTop (mkF m 14 #[.val (.int p1), .val (.int p2), .val (.int p3), .val (.int p4), .val (.int p5), .val (.int p6), .val (.ref b7), .unset, .unset, .unset, .unset, .unset, .unset] [(.int i8), (.int (0 : Int32)), (.ref b7)])) _
    refine st11 _ ?_
    show Steps p.tables e below (T11.setTop (mkF m 15 #[.val (.int p1), .val (.int p2), .val (.int p3), .val (.int p4), .val (.int p5), .val (.int p6), .val (.ref b7), .unset, .unset, .unset, .unset, .unset, .unset] [])) _
    refine XS.aload X11.here hx rfl (hb hby at_15) rfl rfl ?_
    show Steps p.tables e below (T11.setTop (mkF m 17 #[.val (.int p1), .val (.int p2), .val (.int p3), .val (.int p4), .val (.int p5), .val (.int p6), .val (.ref b7), .unset, .unset, .unset, .unset, .unset, .unset] [(.ref b7)])) _
    refine XS.iconst X11.here hx rfl (hb hby at_17) ?_
    show Steps p.tables e below (T11.setTop (mkF m 18 #[.val (.int p1), .val (.int p2), .val (.int p3), .val (.int p4), .val (.int p5), .val (.int p6), .val (.ref b7), .unset, .unset, .unset, .unset, .unset, .unset] [(.int (1 : Int32)), (.ref b7)])) _
    refine XS.iloadN X11.here hx rfl (hb hby at_18) rfl ?_
    show Steps p.tables e below (T11.setTop (mkF m 19 #[.val (.int p1), .val (.int p2), .val (.int p3), .val (.int p4), .val (.int p5), .val (.int p6), .val (.ref b7), .unset, .unset, .unset, .unset, .unset, .unset] [(.int p2), (.int (1 : Int32)), (.ref b7)])) _
    refine XS.bipush X11.here hx rfl (hb hby at_19) ?_
    show Steps p.tables e below (T11.setTop (mkF m 21 #[.val (.int p1), .val (.int p2), .val (.int p3), .val (.int p4), .val (.int p5), .val (.int p6), .val (.ref b7), .unset, .unset, .unset, .unset, .unset, .unset] [(.int (8 : Int32)), (.int p2), (.int (1 : Int32)), (.ref b7)])) _
    refine XS.iushr X11.here hx rfl (hb hby at_21) rfl ?_
    show Steps p.tables e below (T11.setTop (mkF m 22 #[.val (.int p1), .val (.int p2), .val (.int p3), .val (.int p4), .val (.int p5), .val (.int p6), .val (.ref b7), .unset, .unset, .unset, .unset, .unset, .unset] [(.int ((p2.toUInt32 >>> ((8 : Int32) &&& 31).toUInt32).toInt32)), (.int (1 : Int32)), (.ref b7)])) _
    rw [← hi12]
    show Steps p.tables e below (T11.setTop (mkF m 22 #[.val (.int p1), .val (.int p2), .val (.int p3), .val (.int p4), .val (.int p5), .val (.int p6), .val (.ref b7), .unset, .unset, .unset, .unset, .unset, .unset] [(.int i12), (.int (1 : Int32)), (.ref b7)])) _
    refine XS.sipush X11.here hx rfl (hb hby at_22) ?_
    show Steps p.tables e below (T11.setTop (mkF m 25 #[.val (.int p1), .val (.int p2), .val (.int p3), .val (.int p4), .val (.int p5), .val (.int p6), .val (.ref b7), .unset, .unset, .unset, .unset, .unset, .unset] [(.int (255 : Int32)), (.int i12), (.int (1 : Int32)), (.ref b7)])) _
    refine XS.iand X11.here hx rfl (hb hby at_25) rfl ?_
    show Steps p.tables e below (T11.setTop (mkF m 26 #[.val (.int p1), .val (.int p2), .val (.int p3), .val (.int p4), .val (.int p5), .val (.int p6), .val (.ref b7), .unset, .unset, .unset, .unset, .unset, .unset] [(.int (i12 &&& (255 : Int32))), (.int (1 : Int32)), (.ref b7)])) _
    rw [← hi13]
    show Steps p.tables e below (T11.setTop (mkF m 26 #[.val (.int p1), .val (.int p2), .val (.int p3), .val (.int p4), .val (.int p5), .val (.int p6), .val (.ref b7), .unset, .unset, .unset, .unset, .unset, .unset] [(.int i13), (.int (1 : Int32)), (.ref b7)])) _
    refine XS.i2c X11.here hx rfl (hb hby at_26) rfl ?_
    show Steps p.tables e below (T11.setTop (mkF m 27 #[.val (.int p1), .val (.int p2), .val (.int p3), .val (.int p4), .val (.int p5), .val (.int p6), .val (.ref b7), .unset, .unset, .unset, .unset, .unset, .unset] [(.int (i13.toUInt32.toUInt16.toUInt32.toInt32)), (.int (1 : Int32)), (.ref b7)])) _
    rw [(own_i2c255 hi13)]
    show Steps p.tables e below (T11.setTop (mkF m 27 #[.val (.int p1), .val (.int p2), .val (.int p3), .val (.int p4), .val (.int p5), .val (.int p6), .val (.ref b7), .unset, .unset, .unset, .unset, .unset, .unset] [(.int i13), (.int (1 : Int32)), (.ref b7)])) _
    refine st16 _ ?_
    show Steps p.tables e below (T16.setTop (mkF m 28 #[.val (.int p1), .val (.int p2), .val (.int p3), .val (.int p4), .val (.int p5), .val (.int p6), .val (.ref b7), .unset, .unset, .unset, .unset, .unset, .unset] [])) _
    refine XS.iconst X16.here hx rfl (hb hby at_28) ?_
    show Steps p.tables e below (T16.setTop (mkF m 29 #[.val (.int p1), .val (.int p2), .val (.int p3), .val (.int p4), .val (.int p5), .val (.int p6), .val (.ref b7), .unset, .unset, .unset, .unset, .unset, .unset] [(.int (1 : Int32))])) _
    refine st17 _ ?_
    show Steps p.tables e below (T17.setTop (mkF m 31 #[.val (.int p1), .val (.int p2), .val (.int p3), .val (.int p4), .val (.int p5), .val (.int p6), .val (.ref b7), .unset, .unset, .unset, .unset, .unset, .unset] [(.ref b17)])) _
    refine XS.astore X17.here hx rfl (hb hby at_31) rfl rfl (l' := #[.val (.int p1), .val (.int p2), .val (.int p3), .val (.int p4), .val (.int p5), .val (.int p6), .val (.ref b7), .val (.ref b17), .unset, .unset, .unset, .unset, .unset]) rfl ?_
    show Steps p.tables e below (T17.setTop (mkF m 33 #[.val (.int p1), .val (.int p2), .val (.int p3), .val (.int p4), .val (.int p5), .val (.int p6), .val (.ref b7), .val (.ref b17), .unset, .unset, .unset, .unset, .unset] [])) _
    refine XS.aload X17.here hx rfl (hb hby at_33) rfl rfl ?_
    show Steps p.tables e below (T17.setTop (mkF m 35 #[.val (.int p1), .val (.int p2), .val (.int p3), .val (.int p4), .val (.int p5), .val (.int p6), .val (.ref b7), .val (.ref b17), .unset, .unset, .unset, .unset, .unset] [(.ref b17)])) _
    refine XS.iconst X17.here hx rfl (hb hby at_35) ?_
    show Steps p.tables e below (T17.setTop (mkF m 36 #[.val (.int p1), .val (.int p2), .val (.int p3), .val (.int p4), .val (.int p5), .val (.int p6), .val (.ref b7), .val (.ref b17), .unset, .unset, .unset, .unset, .unset] [(.int (0 : Int32)), (.ref b17)])) _
    refine XS.iloadN X17.here hx rfl (hb hby at_36) rfl ?_
    show Steps p.tables e below (T17.setTop (mkF m 37 #[.val (.int p1), .val (.int p2), .val (.int p3), .val (.int p4), .val (.int p5), .val (.int p6), .val (.ref b7), .val (.ref b17), .unset, .unset, .unset, .unset, .unset] [(.int p2), (.int (0 : Int32)), (.ref b17)])) _
    refine XS.bipush X17.here hx rfl (hb hby at_37) ?_
    show Steps p.tables e below (T17.setTop (mkF m 39 #[.val (.int p1), .val (.int p2), .val (.int p3), .val (.int p4), .val (.int p5), .val (.int p6), .val (.ref b7), .val (.ref b17), .unset, .unset, .unset, .unset, .unset] [(.int (16 : Int32)), (.int p2), (.int (0 : Int32)), (.ref b17)])) _
    refine XS.iushr X17.here hx rfl (hb hby at_39) rfl ?_
    show Steps p.tables e below (T17.setTop (mkF m 40 #[.val (.int p1), .val (.int p2), .val (.int p3), .val (.int p4), .val (.int p5), .val (.int p6), .val (.ref b7), .val (.ref b17), .unset, .unset, .unset, .unset, .unset] [(.int ((p2.toUInt32 >>> ((16 : Int32) &&& 31).toUInt32).toInt32)), (.int (0 : Int32)), (.ref b17)])) _
    rw [← hi18]
    show Steps p.tables e below (T17.setTop (mkF m 40 #[.val (.int p1), .val (.int p2), .val (.int p3), .val (.int p4), .val (.int p5), .val (.int p6), .val (.ref b7), .val (.ref b17), .unset, .unset, .unset, .unset, .unset] [(.int i18), (.int (0 : Int32)), (.ref b17)])) _
    refine XS.sipush X17.here hx rfl (hb hby at_40) ?_
    show Steps p.tables e below (T17.setTop (mkF m 43 #[.val (.int p1), .val (.int p2), .val (.int p3), .val (.int p4), .val (.int p5), .val (.int p6), .val (.ref b7), .val (.ref b17), .unset, .unset, .unset, .unset, .unset] [(.int (255 : Int32)), (.int i18), (.int (0 : Int32)), (.ref b17)])) _
    refine XS.iand X17.here hx rfl (hb hby at_43) rfl ?_
    show Steps p.tables e below (T17.setTop (mkF m 44 #[.val (.int p1), .val (.int p2), .val (.int p3), .val (.int p4), .val (.int p5), .val (.int p6), .val (.ref b7), .val (.ref b17), .unset, .unset, .unset, .unset, .unset] [(.int (i18 &&& (255 : Int32))), (.int (0 : Int32)), (.ref b17)])) _
    rw [← hi19]
    show Steps p.tables e below (T17.setTop (mkF m 44 #[.val (.int p1), .val (.int p2), .val (.int p3), .val (.int p4), .val (.int p5), .val (.int p6), .val (.ref b7), .val (.ref b17), .unset, .unset, .unset, .unset, .unset] [(.int i19), (.int (0 : Int32)), (.ref b17)])) _
    refine XS.i2c X17.here hx rfl (hb hby at_44) rfl ?_
    show Steps p.tables e below (T17.setTop (mkF m 45 #[.val (.int p1), .val (.int p2), .val (.int p3), .val (.int p4), .val (.int p5), .val (.int p6), .val (.ref b7), .val (.ref b17), .unset, .unset, .unset, .unset, .unset] [(.int (i19.toUInt32.toUInt16.toUInt32.toInt32)), (.int (0 : Int32)), (.ref b17)])) _
    rw [(own_i2c255 hi19)]
    show Steps p.tables e below (T17.setTop (mkF m 45 #[.val (.int p1), .val (.int p2), .val (.int p3), .val (.int p4), .val (.int p5), .val (.int p6), .val (.ref b7), .val (.ref b17), .unset, .unset, .unset, .unset, .unset] [(.int i19), (.int (0 : Int32)), (.ref b17)])) _
    refine st22 _ ?_
    show Steps p.tables e below (T22.setTop (mkF m 46 #[.val (.int p1), .val (.int p2), .val (.int p3), .val (.int p4), .val (.int p5), .val (.int p6), .val (.ref b7), .val (.ref b17), .unset, .unset, .unset, .unset, .unset] [])) _
    refine XS.bipush X22.here hx rfl (hb hby at_46) ?_
    show Steps p.tables e below (T22.setTop (mkF m 48 #[.val (.int p1), .val (.int p2), .val (.int p3), .val (.int p4), .val (.int p5), .val (.int p6), .val (.ref b7), .val (.ref b17), .unset, .unset, .unset, .unset, .unset] [(.int (9 : Int32))])) _
    refine st23 _ ?_
    show Steps p.tables e below (T23.setTop (mkF m 51 #[.val (.int p1), .val (.int p2), .val (.int p3), .val (.int p4), .val (.int p5), .val (.int p6), .val (.ref b7), .val (.ref b17), .unset, .unset, .unset, .unset, .unset] [(.ref b23)])) _
    refine XS.dup X23.here hx rfl (hb hby at_51) rfl rfl ?_
    show Steps p.tables e below (T23.setTop (mkF m 52 #[.val (.int p1), .val (.int p2), .val (.int p3), .val (.int p4), .val (.int p5), .val (.int p6), .val (.ref b7), .val (.ref b17), .unset, .unset, .unset, .unset, .unset] [(.ref b23), (.ref b23)])) _
    refine XS.iconst X23.here hx rfl (hb hby at_52) ?_
    show Steps p.tables e below (T23.setTop (mkF m 53 #[.val (.int p1), .val (.int p2), .val (.int p3), .val (.int p4), .val (.int p5), .val (.int p6), .val (.ref b7), .val (.ref b17), .unset, .unset, .unset, .unset, .unset] [(.int (0 : Int32)), (.ref b23), (.ref b23)])) _
    refine st26 _ ?_
    show Steps p.tables e below (T26.setTop (mkF m 56 #[.val (.int p1), .val (.int p2), .val (.int p3), .val (.int p4), .val (.int p5), .val (.int p6), .val (.ref b7), .val (.ref b17), .unset, .unset, .unset, .unset, .unset] [(.ref a24), (.int (0 : Int32)), (.ref b23), (.ref b23)])) _
    refine st30 _ ?_
    show Steps p.tables e below (T30.setTop (mkF m 57 #[.val (.int p1), .val (.int p2), .val (.int p3), .val (.int p4), .val (.int p5), .val (.int p6), .val (.ref b7), .val (.ref b17), .unset, .unset, .unset, .unset, .unset] [(.ref b23)])) _
    refine XS.dup X30.here hx rfl (hb hby at_57) rfl rfl ?_
    show Steps p.tables e below (T30.setTop (mkF m 58 #[.val (.int p1), .val (.int p2), .val (.int p3), .val (.int p4), .val (.int p5), .val (.int p6), .val (.ref b7), .val (.ref b17), .unset, .unset, .unset, .unset, .unset] [(.ref b23), (.ref b23)])) _
    refine XS.iconst X30.here hx rfl (hb hby at_58) ?_
    show Steps p.tables e below (T30.setTop (mkF m 59 #[.val (.int p1), .val (.int p2), .val (.int p3), .val (.int p4), .val (.int p5), .val (.int p6), .val (.ref b7), .val (.ref b17), .unset, .unset, .unset, .unset, .unset] [(.int (1 : Int32)), (.ref b23), (.ref b23)])) _
    refine st33 _ ?_
    show Steps p.tables e below (T33.setTop (mkF m 62 #[.val (.int p1), .val (.int p2), .val (.int p3), .val (.int p4), .val (.int p5), .val (.int p6), .val (.ref b7), .val (.ref b17), .unset, .unset, .unset, .unset, .unset] [(.ref a31), (.int (1 : Int32)), (.ref b23), (.ref b23)])) _
    refine st37 _ ?_
    show Steps p.tables e below (T37.setTop (mkF m 63 #[.val (.int p1), .val (.int p2), .val (.int p3), .val (.int p4), .val (.int p5), .val (.int p6), .val (.ref b7), .val (.ref b17), .unset, .unset, .unset, .unset, .unset] [(.ref b23)])) _
    refine XS.dup X37.here hx rfl (hb hby at_63) rfl rfl ?_
    show Steps p.tables e below (T37.setTop (mkF m 64 #[.val (.int p1), .val (.int p2), .val (.int p3), .val (.int p4), .val (.int p5), .val (.int p6), .val (.ref b7), .val (.ref b17), .unset, .unset, .unset, .unset, .unset] [(.ref b23), (.ref b23)])) _
    refine XS.iconst X37.here hx rfl (hb hby at_64) ?_
    show Steps p.tables e below (T37.setTop (mkF m 65 #[.val (.int p1), .val (.int p2), .val (.int p3), .val (.int p4), .val (.int p5), .val (.int p6), .val (.ref b7), .val (.ref b17), .unset, .unset, .unset, .unset, .unset] [(.int (2 : Int32)), (.ref b23), (.ref b23)])) _
    refine st40 _ ?_
    show Steps p.tables e below (T40.setTop (mkF m 68 #[.val (.int p1), .val (.int p2), .val (.int p3), .val (.int p4), .val (.int p5), .val (.int p6), .val (.ref b7), .val (.ref b17), .unset, .unset, .unset, .unset, .unset] [(.ref a38), (.int (2 : Int32)), (.ref b23), (.ref b23)])) _
    refine st44 _ ?_
    show Steps p.tables e below (T44.setTop (mkF m 69 #[.val (.int p1), .val (.int p2), .val (.int p3), .val (.int p4), .val (.int p5), .val (.int p6), .val (.ref b7), .val (.ref b17), .unset, .unset, .unset, .unset, .unset] [(.ref b23)])) _
    refine XS.dup X44.here hx rfl (hb hby at_69) rfl rfl ?_
    show Steps p.tables e below (T44.setTop (mkF m 70 #[.val (.int p1), .val (.int p2), .val (.int p3), .val (.int p4), .val (.int p5), .val (.int p6), .val (.ref b7), .val (.ref b17), .unset, .unset, .unset, .unset, .unset] [(.ref b23), (.ref b23)])) _
    refine XS.iconst X44.here hx rfl (hb hby at_70) ?_
    show Steps p.tables e below (T44.setTop (mkF m 71 #[.val (.int p1), .val (.int p2), .val (.int p3), .val (.int p4), .val (.int p5), .val (.int p6), .val (.ref b7), .val (.ref b17), .unset, .unset, .unset, .unset, .unset] [(.int (3 : Int32)), (.ref b23), (.ref b23)])) _
    refine st47 _ ?_
    show Steps p.tables e below (T47.setTop (mkF m 74 #[.val (.int p1), .val (.int p2), .val (.int p3), .val (.int p4), .val (.int p5), .val (.int p6), .val (.ref b7), .val (.ref b17), .unset, .unset, .unset, .unset, .unset] [(.ref a45), (.int (3 : Int32)), (.ref b23), (.ref b23)])) _
    refine st51 _ ?_
    show Steps p.tables e below (T51.setTop (mkF m 75 #[.val (.int p1), .val (.int p2), .val (.int p3), .val (.int p4), .val (.int p5), .val (.int p6), .val (.ref b7), .val (.ref b17), .unset, .unset, .unset, .unset, .unset] [(.ref b23)])) _
    refine XS.dup X51.here hx rfl (hb hby at_75) rfl rfl ?_
    show Steps p.tables e below (T51.setTop (mkF m 76 #[.val (.int p1), .val (.int p2), .val (.int p3), .val (.int p4), .val (.int p5), .val (.int p6), .val (.ref b7), .val (.ref b17), .unset, .unset, .unset, .unset, .unset] [(.ref b23), (.ref b23)])) _
    refine XS.iconst X51.here hx rfl (hb hby at_76) ?_
    show Steps p.tables e below (T51.setTop (mkF m 77 #[.val (.int p1), .val (.int p2), .val (.int p3), .val (.int p4), .val (.int p5), .val (.int p6), .val (.ref b7), .val (.ref b17), .unset, .unset, .unset, .unset, .unset] [(.int (4 : Int32)), (.ref b23), (.ref b23)])) _
    refine st54 _ ?_
    show Steps p.tables e below (T54.setTop (mkF m 80 #[.val (.int p1), .val (.int p2), .val (.int p3), .val (.int p4), .val (.int p5), .val (.int p6), .val (.ref b7), .val (.ref b17), .unset, .unset, .unset, .unset, .unset] [(.ref a52), (.int (4 : Int32)), (.ref b23), (.ref b23)])) _
    refine st58 _ ?_
    show Steps p.tables e below (T58.setTop (mkF m 81 #[.val (.int p1), .val (.int p2), .val (.int p3), .val (.int p4), .val (.int p5), .val (.int p6), .val (.ref b7), .val (.ref b17), .unset, .unset, .unset, .unset, .unset] [(.ref b23)])) _
    refine XS.dup X58.here hx rfl (hb hby at_81) rfl rfl ?_
    show Steps p.tables e below (T58.setTop (mkF m 82 #[.val (.int p1), .val (.int p2), .val (.int p3), .val (.int p4), .val (.int p5), .val (.int p6), .val (.ref b7), .val (.ref b17), .unset, .unset, .unset, .unset, .unset] [(.ref b23), (.ref b23)])) _
    refine XS.iconst X58.here hx rfl (hb hby at_82) ?_
    show Steps p.tables e below (T58.setTop (mkF m 83 #[.val (.int p1), .val (.int p2), .val (.int p3), .val (.int p4), .val (.int p5), .val (.int p6), .val (.ref b7), .val (.ref b17), .unset, .unset, .unset, .unset, .unset] [(.int (5 : Int32)), (.ref b23), (.ref b23)])) _
    refine st61 _ ?_
    show Steps p.tables e below (T61.setTop (mkF m 86 #[.val (.int p1), .val (.int p2), .val (.int p3), .val (.int p4), .val (.int p5), .val (.int p6), .val (.ref b7), .val (.ref b17), .unset, .unset, .unset, .unset, .unset] [(.ref a59), (.int (5 : Int32)), (.ref b23), (.ref b23)])) _
    refine st65 _ ?_
    show Steps p.tables e below (T65.setTop (mkF m 87 #[.val (.int p1), .val (.int p2), .val (.int p3), .val (.int p4), .val (.int p5), .val (.int p6), .val (.ref b7), .val (.ref b17), .unset, .unset, .unset, .unset, .unset] [(.ref b23)])) _
    refine XS.dup X65.here hx rfl (hb hby at_87) rfl rfl ?_
    show Steps p.tables e below (T65.setTop (mkF m 88 #[.val (.int p1), .val (.int p2), .val (.int p3), .val (.int p4), .val (.int p5), .val (.int p6), .val (.ref b7), .val (.ref b17), .unset, .unset, .unset, .unset, .unset] [(.ref b23), (.ref b23)])) _
    refine XS.bipush X65.here hx rfl (hb hby at_88) ?_
    show Steps p.tables e below (T65.setTop (mkF m 90 #[.val (.int p1), .val (.int p2), .val (.int p3), .val (.int p4), .val (.int p5), .val (.int p6), .val (.ref b7), .val (.ref b17), .unset, .unset, .unset, .unset, .unset] [(.int (6 : Int32)), (.ref b23), (.ref b23)])) _
    refine st68 _ ?_
    show Steps p.tables e below (T68.setTop (mkF m 93 #[.val (.int p1), .val (.int p2), .val (.int p3), .val (.int p4), .val (.int p5), .val (.int p6), .val (.ref b7), .val (.ref b17), .unset, .unset, .unset, .unset, .unset] [(.ref a66), (.int (6 : Int32)), (.ref b23), (.ref b23)])) _
    refine st72 _ ?_
    show Steps p.tables e below (T72.setTop (mkF m 94 #[.val (.int p1), .val (.int p2), .val (.int p3), .val (.int p4), .val (.int p5), .val (.int p6), .val (.ref b7), .val (.ref b17), .unset, .unset, .unset, .unset, .unset] [(.ref b23)])) _
    refine XS.dup X72.here hx rfl (hb hby at_94) rfl rfl ?_
    show Steps p.tables e below (T72.setTop (mkF m 95 #[.val (.int p1), .val (.int p2), .val (.int p3), .val (.int p4), .val (.int p5), .val (.int p6), .val (.ref b7), .val (.ref b17), .unset, .unset, .unset, .unset, .unset] [(.ref b23), (.ref b23)])) _
    refine XS.bipush X72.here hx rfl (hb hby at_95) ?_
    show Steps p.tables e below (T72.setTop (mkF m 97 #[.val (.int p1), .val (.int p2), .val (.int p3), .val (.int p4), .val (.int p5), .val (.int p6), .val (.ref b7), .val (.ref b17), .unset, .unset, .unset, .unset, .unset] [(.int (7 : Int32)), (.ref b23), (.ref b23)])) _
    refine st75 _ ?_
    show Steps p.tables e below (T75.setTop (mkF m 100 #[.val (.int p1), .val (.int p2), .val (.int p3), .val (.int p4), .val (.int p5), .val (.int p6), .val (.ref b7), .val (.ref b17), .unset, .unset, .unset, .unset, .unset] [(.ref a73), (.int (7 : Int32)), (.ref b23), (.ref b23)])) _
    refine st79 _ ?_
    show Steps p.tables e below (T79.setTop (mkF m 101 #[.val (.int p1), .val (.int p2), .val (.int p3), .val (.int p4), .val (.int p5), .val (.int p6), .val (.ref b7), .val (.ref b17), .unset, .unset, .unset, .unset, .unset] [(.ref b23)])) _
    refine XS.dup X79.here hx rfl (hb hby at_101) rfl rfl ?_
    show Steps p.tables e below (T79.setTop (mkF m 102 #[.val (.int p1), .val (.int p2), .val (.int p3), .val (.int p4), .val (.int p5), .val (.int p6), .val (.ref b7), .val (.ref b17), .unset, .unset, .unset, .unset, .unset] [(.ref b23), (.ref b23)])) _
    refine XS.bipush X79.here hx rfl (hb hby at_102) ?_
    show Steps p.tables e below (T79.setTop (mkF m 104 #[.val (.int p1), .val (.int p2), .val (.int p3), .val (.int p4), .val (.int p5), .val (.int p6), .val (.ref b7), .val (.ref b17), .unset, .unset, .unset, .unset, .unset] [(.int (8 : Int32)), (.ref b23), (.ref b23)])) _
    refine st82 _ ?_
    show Steps p.tables e below (T82.setTop (mkF m 107 #[.val (.int p1), .val (.int p2), .val (.int p3), .val (.int p4), .val (.int p5), .val (.int p6), .val (.ref b7), .val (.ref b17), .unset, .unset, .unset, .unset, .unset] [(.ref a80), (.int (8 : Int32)), (.ref b23), (.ref b23)])) _
    refine st86 _ ?_
    show Steps p.tables e below (T86.setTop (mkF m 108 #[.val (.int p1), .val (.int p2), .val (.int p3), .val (.int p4), .val (.int p5), .val (.int p6), .val (.ref b7), .val (.ref b17), .unset, .unset, .unset, .unset, .unset] [(.ref b23)])) _
    refine XS.astore X86.here hx rfl (hb hby at_108) rfl rfl (l' := #[.val (.int p1), .val (.int p2), .val (.int p3), .val (.int p4), .val (.int p5), .val (.int p6), .val (.ref b7), .val (.ref b17), .val (.ref b23), .unset, .unset, .unset, .unset]) rfl ?_
    show Steps p.tables e below (T86.setTop (mkF m 110 #[.val (.int p1), .val (.int p2), .val (.int p3), .val (.int p4), .val (.int p5), .val (.int p6), .val (.ref b7), .val (.ref b17), .val (.ref b23), .unset, .unset, .unset, .unset] [])) _
    refine XS.aload X86.here hx rfl (hb hby at_110) rfl rfl ?_
    show Steps p.tables e below (T86.setTop (mkF m 112 #[.val (.int p1), .val (.int p2), .val (.int p3), .val (.int p4), .val (.int p5), .val (.int p6), .val (.ref b7), .val (.ref b17), .val (.ref b23), .unset, .unset, .unset, .unset] [(.ref b23)])) _
    refine XS.iloadN X86.here hx rfl (hb hby at_112) rfl ?_
    show Steps p.tables e below (T86.setTop (mkF m 113 #[.val (.int p1), .val (.int p2), .val (.int p3), .val (.int p4), .val (.int p5), .val (.int p6), .val (.ref b7), .val (.ref b17), .val (.ref b23), .unset, .unset, .unset, .unset] [(.int p4), (.ref b23)])) _
    refine X86.ldcInt hx hown (mvT hZ (hw _ (gw 23 rfl))) (g := (mkF m 113 #[.val (.int p1), .val (.int p2), .val (.int p3), .val (.int p4), .val (.int p5), .val (.int p6), .val (.ref b7), .val (.ref b17), .val (.ref b23), .unset, .unset, .unset, .unset] [(.int p4), (.ref b23)])) rfl (hb hby at_113) _ ?_
    show Steps p.tables e below (T86.setTop (mkF m 115 #[.val (.int p1), .val (.int p2), .val (.int p3), .val (.int p4), .val (.int p5), .val (.int p6), .val (.ref b7), .val (.ref b17), .val (.ref b23), .unset, .unset, .unset, .unset] [(.int (2147483647 : Int32)), (.int p4), (.ref b23)])) _
    refine XS.iand X86.here hx rfl (hb hby at_115) rfl ?_
    show Steps p.tables e below (T86.setTop (mkF m 116 #[.val (.int p1), .val (.int p2), .val (.int p3), .val (.int p4), .val (.int p5), .val (.int p6), .val (.ref b7), .val (.ref b17), .val (.ref b23), .unset, .unset, .unset, .unset] [(.int (p4 &&& (2147483647 : Int32))), (.ref b23)])) _
    rw [← hi87]
    show Steps p.tables e below (T86.setTop (mkF m 116 #[.val (.int p1), .val (.int p2), .val (.int p3), .val (.int p4), .val (.int p5), .val (.int p6), .val (.ref b7), .val (.ref b17), .val (.ref b23), .unset, .unset, .unset, .unset] [(.int i87), (.ref b23)])) _
    refine XS.bipush X86.here hx rfl (hb hby at_116) ?_
    show Steps p.tables e below (T86.setTop (mkF m 118 #[.val (.int p1), .val (.int p2), .val (.int p3), .val (.int p4), .val (.int p5), .val (.int p6), .val (.ref b7), .val (.ref b17), .val (.ref b23), .unset, .unset, .unset, .unset] [(.int (9 : Int32)), (.int i87), (.ref b23)])) _
    refine Jvm.RoadKit.iremM (g := (mkF m 118 #[.val (.int p1), .val (.int p2), .val (.int p3), .val (.int p4), .val (.int p5), .val (.int p6), .val (.ref b7), .val (.ref b17), .val (.ref b23), .unset, .unset, .unset, .unset] [(.int (9 : Int32)), (.int i87), (.ref b23)])) X86 hx rfl (hb hby at_118) rfl (by decide +kernel : ¬ ((9 : Int32) = (0 : Int32))) ?_
    show Steps p.tables e below (T86.setTop (mkF m 119 #[.val (.int p1), .val (.int p2), .val (.int p3), .val (.int p4), .val (.int p5), .val (.int p6), .val (.ref b7), .val (.ref b17), .val (.ref b23), .unset, .unset, .unset, .unset] [(.int (i87 % (9 : Int32))), (.ref b23)])) _
    rw [← hi88]
    exact kt
  have join100 : ∀ (r101 : Addr), (Exa Z Z.heap r101 "com/example/railspan/railspan/board/Colour") → (∀ t, Steps p.tables e below (T86.setTop (mkF m 120 #[.val (.int p1), .val (.int p2), .val (.int p3), .val (.int p4), .val (.int p5), .val (.int p6), .val (.ref b7), .val (.ref b17), .val (.ref b23), .unset, .unset, .unset, .unset] [(.ref r101)])) t → Steps p.tables e below (s₁.setTop (entryFrame m #[(.int p1), (.int p2), (.int p3), (.int p4), (.int p5), (.int p6)] maxLocals)) t) → False := by
    rintro r101 hp102 pre103
    obtain ⟨i104, hi104⟩ : ∃ z, z = (p5 &&& (1 : Int32)) := ⟨_, rfl⟩
    have pre105 : ∀ t, Steps p.tables e below (T86.setTop (mkF m 126 #[.val (.int p1), .val (.int p2), .val (.int p3), .val (.int p4), .val (.int p5), .val (.int p6), .val (.ref b7), .val (.ref b17), .val (.ref b23), .val (.ref r101), .unset, .unset, .unset] [(.int i104)])) t → Steps p.tables e below (s₁.setTop (entryFrame m #[(.int p1), (.int p2), (.int p3), (.int p4), (.int p5), (.int p6)] maxLocals)) t := by
      intro t kt
      refine pre103 t ?_
      show Steps p.tables e below (T86.setTop (mkF m 120 #[.val (.int p1), .val (.int p2), .val (.int p3), .val (.int p4), .val (.int p5), .val (.int p6), .val (.ref b7), .val (.ref b17), .val (.ref b23), .unset, .unset, .unset, .unset] [(.ref r101)])) _
      refine XS.astore X86.here hx rfl (hb hby at_120) rfl rfl (l' := #[.val (.int p1), .val (.int p2), .val (.int p3), .val (.int p4), .val (.int p5), .val (.int p6), .val (.ref b7), .val (.ref b17), .val (.ref b23), .val (.ref r101), .unset, .unset, .unset]) rfl ?_
      show Steps p.tables e below (T86.setTop (mkF m 122 #[.val (.int p1), .val (.int p2), .val (.int p3), .val (.int p4), .val (.int p5), .val (.int p6), .val (.ref b7), .val (.ref b17), .val (.ref b23), .val (.ref r101), .unset, .unset, .unset] [])) _
      refine XS.iload X86.here hx rfl (hb hby at_122) rfl ?_
      show Steps p.tables e below (T86.setTop (mkF m 124 #[.val (.int p1), .val (.int p2), .val (.int p3), .val (.int p4), .val (.int p5), .val (.int p6), .val (.ref b7), .val (.ref b17), .val (.ref b23), .val (.ref r101), .unset, .unset, .unset] [(.int p5)])) _
      refine XS.iconst X86.here hx rfl (hb hby at_124) ?_
      show Steps p.tables e below (T86.setTop (mkF m 125 #[.val (.int p1), .val (.int p2), .val (.int p3), .val (.int p4), .val (.int p5), .val (.int p6), .val (.ref b7), .val (.ref b17), .val (.ref b23), .val (.ref r101), .unset, .unset, .unset] [(.int (1 : Int32)), (.int p5)])) _
      refine XS.iand X86.here hx rfl (hb hby at_125) rfl ?_
      show Steps p.tables e below (T86.setTop (mkF m 126 #[.val (.int p1), .val (.int p2), .val (.int p3), .val (.int p4), .val (.int p5), .val (.int p6), .val (.ref b7), .val (.ref b17), .val (.ref b23), .val (.ref r101), .unset, .unset, .unset] [(.int (p5 &&& (1 : Int32)))])) _
      rw [← hi104]
      exact kt
    have join107 : ∀ (i108 : Int32), (i108 = (0 : Int32) ∨ i108 = (1 : Int32)) → (∀ t, Steps p.tables e below (T86.setTop (mkF m 134 #[.val (.int p1), .val (.int p2), .val (.int p3), .val (.int p4), .val (.int p5), .val (.int p6), .val (.ref b7), .val (.ref b17), .val (.ref b23), .val (.ref r101), .unset, .unset, .unset] [(.int i108)])) t → Steps p.tables e below (s₁.setTop (entryFrame m #[(.int p1), (.int p2), (.int p3), (.int p4), (.int p5), (.int p6)] maxLocals)) t) → False := by
      rintro i108 hp109 pre110
      obtain ⟨T111, h111, X111, e111, E111, A111, D111, -, st111⟩ := newO X86 hx hZ hown (hw _ (gw 24 rfl)) (hw _ (gw 25 rfl)) (hw _ (gw 26 rfl)) e86 (g := (mkF m 136 #[.val (.int p1), .val (.int p2), .val (.int p3), .val (.int p4), .val (.int p5), .val (.int p6), .val (.ref b7), .val (.ref b17), .val (.ref b23), .val (.ref r101), .val (.int i108), .unset, .unset] [])) rfl (hb hby at_136) (by decide) (by decide)
      obtain ⟨b111, g111⟩ : ∃ z, z = h86.size := ⟨_, rfl⟩
      rw [← g111] at A111 D111 st111
      have O111 : Old Z n0 h111 := O86.ext E111
      have bd_b111 : h86.size ≤ b111 := Nat.le_of_eq g111.symm
      have g_b111 : n0 ≤ b111 := Nat.le_trans (own_z O86) bd_b111
      have sz_b111 : h0.size ≤ b111 := Nat.le_trans (Nat.le_trans (Nat.le_trans (Nat.le_trans (Nat.le_trans (Nat.le_trans (Nat.le_trans (Nat.le_trans (Nat.le_trans (Nat.le_trans (Nat.le_trans (Nat.le_trans (Nat.le_trans (Nat.le_trans (Nat.le_trans E7.1 (Keep.of_wr W11).1) (Keep.of_wr W16).1) E17.1) (Keep.of_wr W22).1) E23.1) (Keep.of_wr W30).1) (Keep.of_wr W37).1) (Keep.of_wr W44).1) (Keep.of_wr W51).1) (Keep.of_wr W58).1) (Keep.of_wr W65).1) (Keep.of_wr W72).1) (Keep.of_wr W79).1) (Keep.of_wr W86).1) bd_b111
      have lt_b111 : b111 < h111.size := A111.lt
      have D111_66 : Fld Z h111 b111 "com/example/railspan/railspan/board/Route" "cityA" "Ljava/lang/String;" .null := D111 (Or.inr (hw _ (gw 66 rfl))) (ty := (.object "java/lang/String")) (by decide)
      have D111_68 : Fld Z h111 b111 "com/example/railspan/railspan/board/Route" "cityB" "Ljava/lang/String;" .null := D111 (Or.inr (hw _ (gw 68 rfl))) (ty := (.object "java/lang/String")) (by decide)
      have D111_70 : Fld Z h111 b111 "com/example/railspan/railspan/board/Route" "length" "I" (.int (0 : Int32)) := D111 (Or.inr (hw _ (gw 70 rfl))) (ty := .int) (by decide)
      have D111_72 : Fld Z h111 b111 "com/example/railspan/railspan/board/Route" "colour" "Lcom/example/railspan/railspan/board/Colour;" .null := D111 (Or.inr (hw _ (gw 72 rfl))) (ty := (.object "com/example/railspan/railspan/board/Colour")) (by decide)
      have D111_74 : Fld Z h111 b111 "com/example/railspan/railspan/board/Route" "tunnel" "Z" (.int (0 : Int32)) := D111 (Or.inr (hw _ (gw 74 rfl))) (ty := .boolean) (by decide)
      have D111_76 : Fld Z h111 b111 "com/example/railspan/railspan/board/Route" "locomotives" "I" (.int (0 : Int32)) := D111 (Or.inr (hw _ (gw 76 rfl))) (ty := .int) (by decide)
      have D111_78 : Fld Z h111 b111 "com/example/railspan/railspan/board/Route" "track" "I" (.int (0 : Int32)) := D111 (Or.inr (hw _ (gw 78 rfl))) (ty := .int) (by decide)
      obtain ⟨T112, h112, X112, e112, E112, A112, D112, -, st112⟩ := newO X111 hx hZ hown (hw _ (gw 27 rfl)) (hw _ (gw 28 rfl)) (hw _ (gw 29 rfl)) e111 (g := (mkF m 140 #[.val (.int p1), .val (.int p2), .val (.int p3), .val (.int p4), .val (.int p5), .val (.int p6), .val (.ref b7), .val (.ref b17), .val (.ref b23), .val (.ref r101), .val (.int i108), .unset, .unset] [(.ref b111), (.ref b111)])) rfl (hb hby at_140) (by decide) (by decide)
      obtain ⟨b112, g112⟩ : ∃ z, z = h111.size := ⟨_, rfl⟩
      rw [← g112] at A112 D112 st112
      have O112 : Old Z n0 h112 := O111.ext E112
      have bd_b112 : h111.size ≤ b112 := Nat.le_of_eq g112.symm
      have g_b112 : n0 ≤ b112 := Nat.le_trans (own_z O111) bd_b112
      have sz_b112 : h0.size ≤ b112 := Nat.le_trans (Nat.le_trans (Nat.le_trans (Nat.le_trans (Nat.le_trans (Nat.le_trans (Nat.le_trans (Nat.le_trans (Nat.le_trans (Nat.le_trans (Nat.le_trans (Nat.le_trans (Nat.le_trans (Nat.le_trans (Nat.le_trans (Nat.le_trans E7.1 (Keep.of_wr W11).1) (Keep.of_wr W16).1) E17.1) (Keep.of_wr W22).1) E23.1) (Keep.of_wr W30).1) (Keep.of_wr W37).1) (Keep.of_wr W44).1) (Keep.of_wr W51).1) (Keep.of_wr W58).1) (Keep.of_wr W65).1) (Keep.of_wr W72).1) (Keep.of_wr W79).1) (Keep.of_wr W86).1) E111.1) bd_b112
      have lt_b112 : b112 < h112.size := A112.lt
      have D112_53 : Fld Z h112 b112 "java/lang/String" "coder" "B" (.int (0 : Int32)) := D112 (Or.inr (hw _ (gw 53 rfl))) (ty := .byte) (by decide)
      have D112_55 : Fld Z h112 b112 "java/lang/String" "value" "[B" .null := D112 (Or.inr (hw _ (gw 55 rfl))) (ty := (.array .byte)) (by decide)
      have f116 : Arv Z h112 b7 k7 .char (2 : Int32) [(.int i8), (.int i13)] (.int (0 : Int32)) := ((((((((((((((V16.ext E17).other W22 (Nat.ne_of_lt (Nat.lt_of_lt_of_le (Nat.lt_of_lt_of_le (Nat.lt_of_lt_of_le lt_b7 (Keep.of_wr W11).1) (Keep.of_wr W16).1) bd_b17))).ext E23).other W30 (Nat.ne_of_lt (Nat.lt_of_lt_of_le (Nat.lt_of_lt_of_le (Nat.lt_of_lt_of_le (Nat.lt_of_lt_of_le (Nat.lt_of_lt_of_le lt_b7 (Keep.of_wr W11).1) (Keep.of_wr W16).1) E17.1) (Keep.of_wr W22).1) bd_b23))).other W37 (Nat.ne_of_lt (Nat.lt_of_lt_of_le (Nat.lt_of_lt_of_le (Nat.lt_of_lt_of_le (Nat.lt_of_lt_of_le (Nat.lt_of_lt_of_le lt_b7 (Keep.of_wr W11).1) (Keep.of_wr W16).1) E17.1) (Keep.of_wr W22).1) bd_b23))).other W44 (Nat.ne_of_lt (Nat.lt_of_lt_of_le (Nat.lt_of_lt_of_le (Nat.lt_of_lt_of_le (Nat.lt_of_lt_of_le (Nat.lt_of_lt_of_le lt_b7 (Keep.of_wr W11).1) (Keep.of_wr W16).1) E17.1) (Keep.of_wr W22).1) bd_b23))).other W51 (Nat.ne_of_lt (Nat.lt_of_lt_of_le (Nat.lt_of_lt_of_le (Nat.lt_of_lt_of_le (Nat.lt_of_lt_of_le (Nat.lt_of_lt_of_le lt_b7 (Keep.of_wr W11).1) (Keep.of_wr W16).1) E17.1) (Keep.of_wr W22).1) bd_b23))).other W58 (Nat.ne_of_lt (Nat.lt_of_lt_of_le (Nat.lt_of_lt_of_le (Nat.lt_of_lt_of_le (Nat.lt_of_lt_of_le (Nat.lt_of_lt_of_le lt_b7 (Keep.of_wr W11).1) (Keep.of_wr W16).1) E17.1) (Keep.of_wr W22).1) bd_b23))).other W65 (Nat.ne_of_lt (Nat.lt_of_lt_of_le (Nat.lt_of_lt_of_le (Nat.lt_of_lt_of_le (Nat.lt_of_lt_of_le (Nat.lt_of_lt_of_le lt_b7 (Keep.of_wr W11).1) (Keep.of_wr W16).1) E17.1) (Keep.of_wr W22).1) bd_b23))).other W72 (Nat.ne_of_lt (Nat.lt_of_lt_of_le (Nat.lt_of_lt_of_le (Nat.lt_of_lt_of_le (Nat.lt_of_lt_of_le (Nat.lt_of_lt_of_le lt_b7 (Keep.of_wr W11).1) (Keep.of_wr W16).1) E17.1) (Keep.of_wr W22).1) bd_b23))).other W79 (Nat.ne_of_lt (Nat.lt_of_lt_of_le (Nat.lt_of_lt_of_le (Nat.lt_of_lt_of_le (Nat.lt_of_lt_of_le (Nat.lt_of_lt_of_le lt_b7 (Keep.of_wr W11).1) (Keep.of_wr W16).1) E17.1) (Keep.of_wr W22).1) bd_b23))).other W86 (Nat.ne_of_lt (Nat.lt_of_lt_of_le (Nat.lt_of_lt_of_le (Nat.lt_of_lt_of_le (Nat.lt_of_lt_of_le (Nat.lt_of_lt_of_le lt_b7 (Keep.of_wr W11).1) (Keep.of_wr W16).1) E17.1) (Keep.of_wr W22).1) bd_b23))).ext E111).ext E112)
      obtain ⟨_, _, ⟨T117, L117, k117, n117⟩, -, X117, ⟨Lc117, hQ117, l117, y117, z117⟩, st117⟩ := X112.specialBack hx (y := M_4) rfl hown (mvT hZ (hw _ (gw 30 rfl))) (mvT hZ (hw _ (gw 31 rfl))) (mvT hZ (hw _ (gw 32 rfl))) (by decide) (backOf (W := 3) (rm1_2 l Z a0 hw [] b112 b7 i8 i13 k7 p113 h112 n0  O112 f116 S_114 hk115 (own_lt255 hi8) (own_lt255 hi13) A112 D112_53 D112_55 (Nat.lt_of_lt_of_le (Nat.lt_of_lt_of_le (Nat.lt_of_lt_of_le (Nat.lt_of_lt_of_le (Nat.lt_of_lt_of_le (Nat.lt_of_lt_of_le (Nat.lt_of_lt_of_le (Nat.lt_of_lt_of_le (Nat.lt_of_lt_of_le (Nat.lt_of_lt_of_le (Nat.lt_of_lt_of_le (Nat.lt_of_lt_of_le (Nat.lt_of_lt_of_le (Nat.lt_of_lt_of_le (Nat.lt_of_lt_of_le (Nat.lt_of_lt_of_le lt_b7 (Keep.of_wr W11).1) (Keep.of_wr W16).1) E17.1) (Keep.of_wr W22).1) E23.1) (Keep.of_wr W30).1) (Keep.of_wr W37).1) (Keep.of_wr W44).1) (Keep.of_wr W51).1) (Keep.of_wr W58).1) (Keep.of_wr W65).1) (Keep.of_wr W72).1) (Keep.of_wr W79).1) (Keep.of_wr W86).1) E111.1) E112.1) g_b112 lt_b112) hZ (hw _ (gw 32 rfl)) (hw _ (gw 29 rfl)) (by decide) (by decide)) (g := (mkF m 146 #[.val (.int p1), .val (.int p2), .val (.int p3), .val (.int p4), .val (.int p5), .val (.int p6), .val (.ref b7), .val (.ref b17), .val (.ref b23), .val (.ref r101), .val (.int i108), .unset, .unset] [(.ref b7), (.ref b112), (.ref b112), (.ref b111), (.ref b111)])) rfl (by rw [hml]; rfl) (Steps.refl _) (a := b112) (argsL := [(.ref b7)]) (rest := [(.ref b112), (.ref b111), (.ref b111)]) (lenOf pd_4 rfl) rfl (by show 2 * 0 + _ ≤ _; exact Nat.le_of_eq rfl) (hb hby at_146) (fun _ _ => ⟨rfl, e112, (by decide : 5 + 1 ≤ _), (by decide : 23 + 2 ≤ _)⟩)
      dsimp only [Pt.U, Pt.locs, Pt.cells, Pt.slots] at X117 l117 y117 z117 st117 hQ117
      subst l117 y117 z117
      obtain ⟨i118, i119, b120, k121, u122, u123, rfl, u125, u126, u127, Ku128, u129, u130, u131, u132, u133⟩ := hQ117
      have Ou128 : Old Z n0 T117.heap := O112.keep Ku128 (allS g_b112 all0)
      have g_b120 : n0 ≤ b120 := Nat.le_trans (own_z O112) u126
      have sz_b120 : h0.size ≤ b120 := Nat.le_trans (Nat.le_trans (Nat.le_trans (Nat.le_trans (Nat.le_trans (Nat.le_trans (Nat.le_trans (Nat.le_trans (Nat.le_trans (Nat.le_trans (Nat.le_trans (Nat.le_trans (Nat.le_trans (Nat.le_trans (Nat.le_trans (Nat.le_trans (Nat.le_trans E7.1 (Keep.of_wr W11).1) (Keep.of_wr W16).1) E17.1) (Keep.of_wr W22).1) E23.1) (Keep.of_wr W30).1) (Keep.of_wr W37).1) (Keep.of_wr W44).1) (Keep.of_wr W51).1) (Keep.of_wr W58).1) (Keep.of_wr W65).1) (Keep.of_wr W72).1) (Keep.of_wr W79).1) (Keep.of_wr W86).1) E111.1) E112.1) u126
      have N117 := Fr.app N86 u125
      obtain ⟨T134, h134, X134, e134, E134, A134, D134, -, st134⟩ := newO X117 hx hZ hown (hw _ (gw 27 rfl)) (hw _ (gw 28 rfl)) (hw _ (gw 29 rfl)) rfl (g := (mkF m 149 #[.val (.int p1), .val (.int p2), .val (.int p3), .val (.int p4), .val (.int p5), .val (.int p6), .val (.ref b7), .val (.ref b17), .val (.ref b23), .val (.ref r101), .val (.int i108), .unset, .unset] [(.ref b112), (.ref b111), (.ref b111)])) rfl (hb hby at_149) (by decide) (by decide)
      obtain ⟨b134, g134⟩ : ∃ z, z = T117.heap.size := ⟨_, rfl⟩
      rw [← g134] at A134 D134 st134
      have O134 : Old Z n0 h134 := Ou128.ext E134
      have bd_b134 : T117.heap.size ≤ b134 := Nat.le_of_eq g134.symm
      have g_b134 : n0 ≤ b134 := Nat.le_trans (own_z Ou128) bd_b134
      have sz_b134 : h0.size ≤ b134 := Nat.le_trans (Nat.le_trans (Nat.le_trans (Nat.le_trans (Nat.le_trans (Nat.le_trans (Nat.le_trans (Nat.le_trans (Nat.le_trans (Nat.le_trans (Nat.le_trans (Nat.le_trans (Nat.le_trans (Nat.le_trans (Nat.le_trans (Nat.le_trans (Nat.le_trans (Nat.le_trans E7.1 (Keep.of_wr W11).1) (Keep.of_wr W16).1) E17.1) (Keep.of_wr W22).1) E23.1) (Keep.of_wr W30).1) (Keep.of_wr W37).1) (Keep.of_wr W44).1) (Keep.of_wr W51).1) (Keep.of_wr W58).1) (Keep.of_wr W65).1) (Keep.of_wr W72).1) (Keep.of_wr W79).1) (Keep.of_wr W86).1) E111.1) E112.1) Ku128.1) bd_b134
      have lt_b134 : b134 < h134.size := A134.lt
      have D134_53 : Fld Z h134 b134 "java/lang/String" "coder" "B" (.int (0 : Int32)) := D134 (Or.inr (hw _ (gw 53 rfl))) (ty := .byte) (by decide)
      have D134_55 : Fld Z h134 b134 "java/lang/String" "value" "[B" .null := D134 (Or.inr (hw _ (gw 55 rfl))) (ty := (.array .byte)) (by decide)
      have f135 : Arv Z h134 b17 k17 .char (1 : Int32) [(.int i19)] (.int (0 : Int32)) := ((((((((((((((V22.ext E23).other W30 (Nat.ne_of_lt (Nat.lt_of_lt_of_le (Nat.lt_of_lt_of_le lt_b17 (Keep.of_wr W22).1) bd_b23))).other W37 (Nat.ne_of_lt (Nat.lt_of_lt_of_le (Nat.lt_of_lt_of_le lt_b17 (Keep.of_wr W22).1) bd_b23))).other W44 (Nat.ne_of_lt (Nat.lt_of_lt_of_le (Nat.lt_of_lt_of_le lt_b17 (Keep.of_wr W22).1) bd_b23))).other W51 (Nat.ne_of_lt (Nat.lt_of_lt_of_le (Nat.lt_of_lt_of_le lt_b17 (Keep.of_wr W22).1) bd_b23))).other W58 (Nat.ne_of_lt (Nat.lt_of_lt_of_le (Nat.lt_of_lt_of_le lt_b17 (Keep.of_wr W22).1) bd_b23))).other W65 (Nat.ne_of_lt (Nat.lt_of_lt_of_le (Nat.lt_of_lt_of_le lt_b17 (Keep.of_wr W22).1) bd_b23))).other W72 (Nat.ne_of_lt (Nat.lt_of_lt_of_le (Nat.lt_of_lt_of_le lt_b17 (Keep.of_wr W22).1) bd_b23))).other W79 (Nat.ne_of_lt (Nat.lt_of_lt_of_le (Nat.lt_of_lt_of_le lt_b17 (Keep.of_wr W22).1) bd_b23))).other W86 (Nat.ne_of_lt (Nat.lt_of_lt_of_le (Nat.lt_of_lt_of_le lt_b17 (Keep.of_wr W22).1) bd_b23))).ext E111).ext E112).keep Ku128 (ninS (Nat.ne_of_lt (Nat.lt_of_lt_of_le (Nat.lt_of_lt_of_le (Nat.lt_of_lt_of_le (Nat.lt_of_lt_of_le (Nat.lt_of_lt_of_le (Nat.lt_of_lt_of_le (Nat.lt_of_lt_of_le (Nat.lt_of_lt_of_le (Nat.lt_of_lt_of_le (Nat.lt_of_lt_of_le (Nat.lt_of_lt_of_le (Nat.lt_of_lt_of_le (Nat.lt_of_lt_of_le lt_b17 (Keep.of_wr W22).1) E23.1) (Keep.of_wr W30).1) (Keep.of_wr W37).1) (Keep.of_wr W44).1) (Keep.of_wr W51).1) (Keep.of_wr W58).1) (Keep.of_wr W65).1) (Keep.of_wr W72).1) (Keep.of_wr W79).1) (Keep.of_wr W86).1) E111.1) bd_b112)) nin0)).ext E134)
      obtain ⟨_, _, ⟨T136, L136, k136, n136⟩, -, X136, ⟨Lc136, hQ136, l136, y136, z136⟩, st136⟩ := X134.specialBack hx (y := M_4) rfl hown (mvT hZ (hw _ (gw 30 rfl))) (mvT hZ (hw _ (gw 31 rfl))) (mvT hZ (hw _ (gw 32 rfl))) (by decide) (backOf (W := 4) (rm1_7 l Z a0 hw [] b134 b17 i19 k17 p113 h134 n0  O134 f135 S_114 hk115 (own_lt255 hi19) A134 D134_53 D134_55 g_b134 lt_b134) hZ (hw _ (gw 32 rfl)) (hw _ (gw 29 rfl)) (by decide) (by decide)) (g := (mkF m 155 #[.val (.int p1), .val (.int p2), .val (.int p3), .val (.int p4), .val (.int p5), .val (.int p6), .val (.ref b7), .val (.ref b17), .val (.ref b23), .val (.ref r101), .val (.int i108), .unset, .unset] [(.ref b17), (.ref b134), (.ref b134), (.ref b112), (.ref b111), (.ref b111)])) rfl (by rw [hml]; rfl) (Steps.refl _) (a := b134) (argsL := [(.ref b17)]) (rest := [(.ref b134), (.ref b112), (.ref b111), (.ref b111)]) (lenOf pd_4 rfl) rfl (by show 2 * 0 + _ ≤ _; exact Nat.le_of_eq rfl) (hb hby at_155) (fun _ _ => ⟨rfl, e134, (by decide : 7 + 1 ≤ _), (by decide : 29 + 1 ≤ _)⟩)
      dsimp only [Pt.U, Pt.locs, Pt.cells, Pt.slots] at X136 l136 y136 z136 st136 hQ136
      subst l136 y136 z136
      obtain ⟨i137, b138, k139, u140, rfl, u142, u143, u144, Ku145, u146, u147, u148, u149, u150⟩ := hQ136
      have Ou145 : Old Z n0 T136.heap := O134.keep Ku145 (allS g_b134 all0)
      have g_b138 : n0 ≤ b138 := Nat.le_trans (own_z O134) u143
      have sz_b138 : h0.size ≤ b138 := Nat.le_trans (Nat.le_trans (Nat.le_trans (Nat.le_trans (Nat.le_trans (Nat.le_trans (Nat.le_trans (Nat.le_trans (Nat.le_trans (Nat.le_trans (Nat.le_trans (Nat.le_trans (Nat.le_trans (Nat.le_trans (Nat.le_trans (Nat.le_trans (Nat.le_trans (Nat.le_trans (Nat.le_trans E7.1 (Keep.of_wr W11).1) (Keep.of_wr W16).1) E17.1) (Keep.of_wr W22).1) E23.1) (Keep.of_wr W30).1) (Keep.of_wr W37).1) (Keep.of_wr W44).1) (Keep.of_wr W51).1) (Keep.of_wr W58).1) (Keep.of_wr W65).1) (Keep.of_wr W72).1) (Keep.of_wr W79).1) (Keep.of_wr W86).1) E111.1) E112.1) Ku128.1) E134.1) u143
      have N136 := Fr.app N117 u142
      have f151 : Exa Z T136.heap b111 "com/example/railspan/railspan/board/Route" := ((Exa.ext E134 ((Exa.ext E112 A111).keep Ku128)).keep Ku145)
      have f152 : Fld Z T136.heap b111 "com/example/railspan/railspan/board/Route" "cityA" "Ljava/lang/String;" .null := ((Fld.ext E134 ((Fld.ext E112 D111_66).keep Ku128 (ninS (Nat.ne_of_lt (Nat.lt_of_lt_of_le lt_b111 bd_b112)) nin0))).keep Ku145 (ninS (Nat.ne_of_lt (Nat.lt_of_lt_of_le (Nat.lt_of_lt_of_le (Nat.lt_of_lt_of_le lt_b111 E112.1) Ku128.1) bd_b134)) nin0))
      have f153 : Fld Z T136.heap b111 "com/example/railspan/railspan/board/Route" "cityB" "Ljava/lang/String;" .null := ((Fld.ext E134 ((Fld.ext E112 D111_68).keep Ku128 (ninS (Nat.ne_of_lt (Nat.lt_of_lt_of_le lt_b111 bd_b112)) nin0))).keep Ku145 (ninS (Nat.ne_of_lt (Nat.lt_of_lt_of_le (Nat.lt_of_lt_of_le (Nat.lt_of_lt_of_le lt_b111 E112.1) Ku128.1) bd_b134)) nin0))
      have f154 : Fld Z T136.heap b111 "com/example/railspan/railspan/board/Route" "colour" "Lcom/example/railspan/railspan/board/Colour;" .null := ((Fld.ext E134 ((Fld.ext E112 D111_72).keep Ku128 (ninS (Nat.ne_of_lt (Nat.lt_of_lt_of_le lt_b111 bd_b112)) nin0))).keep Ku145 (ninS (Nat.ne_of_lt (Nat.lt_of_lt_of_le (Nat.lt_of_lt_of_le (Nat.lt_of_lt_of_le lt_b111 E112.1) Ku128.1) bd_b134)) nin0))
      have f155 : Fld Z T136.heap b111 "com/example/railspan/railspan/board/Route" "length" "I" (.int (0 : Int32)) := ((Fld.ext E134 ((Fld.ext E112 D111_70).keep Ku128 (ninS (Nat.ne_of_lt (Nat.lt_of_lt_of_le lt_b111 bd_b112)) nin0))).keep Ku145 (ninS (Nat.ne_of_lt (Nat.lt_of_lt_of_le (Nat.lt_of_lt_of_le (Nat.lt_of_lt_of_le lt_b111 E112.1) Ku128.1) bd_b134)) nin0))
      have f156 : Fld Z T136.heap b111 "com/example/railspan/railspan/board/Route" "locomotives" "I" (.int (0 : Int32)) := ((Fld.ext E134 ((Fld.ext E112 D111_76).keep Ku128 (ninS (Nat.ne_of_lt (Nat.lt_of_lt_of_le lt_b111 bd_b112)) nin0))).keep Ku145 (ninS (Nat.ne_of_lt (Nat.lt_of_lt_of_le (Nat.lt_of_lt_of_le (Nat.lt_of_lt_of_le lt_b111 E112.1) Ku128.1) bd_b134)) nin0))
      have f157 : Fld Z T136.heap b111 "com/example/railspan/railspan/board/Route" "track" "I" (.int (0 : Int32)) := ((Fld.ext E134 ((Fld.ext E112 D111_78).keep Ku128 (ninS (Nat.ne_of_lt (Nat.lt_of_lt_of_le lt_b111 bd_b112)) nin0))).keep Ku145 (ninS (Nat.ne_of_lt (Nat.lt_of_lt_of_le (Nat.lt_of_lt_of_le (Nat.lt_of_lt_of_le lt_b111 E112.1) Ku128.1) bd_b134)) nin0))
      have f158 : Fld Z T136.heap b111 "com/example/railspan/railspan/board/Route" "tunnel" "Z" (.int (0 : Int32)) := ((Fld.ext E134 ((Fld.ext E112 D111_74).keep Ku128 (ninS (Nat.ne_of_lt (Nat.lt_of_lt_of_le lt_b111 bd_b112)) nin0))).keep Ku145 (ninS (Nat.ne_of_lt (Nat.lt_of_lt_of_le (Nat.lt_of_lt_of_le (Nat.lt_of_lt_of_le lt_b111 E112.1) Ku128.1) bd_b134)) nin0))
      obtain ⟨_, _, ⟨T159, L159, k159, n159⟩, -, X159, ⟨Lc159, hQ159, l159, y159, z159⟩, st159⟩ := X136.specialBack hx (y := M_6) rfl hown (mvT hZ (hw _ (gw 56 rfl))) (mvT hZ (hw _ (gw 57 rfl))) (mvT hZ (hw _ (gw 58 rfl))) (by decide) (backOf (W := 1) (rm7_12 l Z a0 hw [] b111 b112 b134 p3 r101 i108 p1 p6 T136.heap n0  Ou145 f151 f152 f153 f154 f155 f156 f157 f158 g_b111) hZ (hw _ (gw 58 rfl)) (hw _ (gw 26 rfl)) (by decide) (by decide)) (g := (mkF m 166 #[.val (.int p1), .val (.int p2), .val (.int p3), .val (.int p4), .val (.int p5), .val (.int p6), .val (.ref b7), .val (.ref b17), .val (.ref b23), .val (.ref r101), .val (.int i108), .unset, .unset] [(.int p6), (.int p1), (.int i108), (.ref r101), (.int p3), (.ref b134), (.ref b112), (.ref b111), (.ref b111)])) rfl (by rw [hml]; rfl) (Steps.refl _) (a := b111) (argsL := [(.ref b112), (.ref b134), (.int p3), (.ref r101), (.int i108), (.int p1), (.int p6)]) (rest := [(.ref b111)]) (lenOf pd_6 rfl) rfl (by show 2 * 0 + _ ≤ _; exact Nat.le_of_eq rfl) (hb hby at_166) (fun _ _ => ⟨rfl, rfl, (by decide : 8 + 0 ≤ _), (by decide : 30 + 0 ≤ _)⟩)
      dsimp only [Pt.U, Pt.locs, Pt.cells, Pt.slots] at X159 l159 y159 z159 st159 hQ159
      subst l159 y159 z159
      obtain ⟨i160, u161, rfl, u163, Ku164, u165, u166, u167, u168, u169, u170, u171, u172⟩ := hQ159
      have Ou164 : Old Z n0 T159.heap := Ou145.keep Ku164 (allS g_b111 all0)
      have N159 := Fr.app N136 u163
      have pre173 : ∀ t, Steps p.tables e below (T159.setTop (mkF m 173 #[.val (.int p1), .val (.int p2), .val (.int p3), .val (.int p4), .val (.int p5), .val (.int p6), .val (.ref b7), .val (.ref b17), .val (.ref b23), .val (.ref r101), .val (.int i108), .val (.ref b111), .unset] [(.int (1 : Int32)), (.int p1)])) t → Steps p.tables e below (s₁.setTop (entryFrame m #[(.int p1), (.int p2), (.int p3), (.int p4), (.int p5), (.int p6)] maxLocals)) t := by
        intro t kt
        refine pre110 t ?_
        show Steps p.tables e below (T86.setTop (mkF m 134 #[.val (.int p1), .val (.int p2), .val (.int p3), .val (.int p4), .val (.int p5), .val (.int p6), .val (.ref b7), .val (.ref b17), .val (.ref b23), .val (.ref r101), .unset, .unset, .unset] [(.int i108)])) _
        refine XS.istore X86.here hx rfl (hb hby at_134) rfl (l' := #[.val (.int p1), .val (.int p2), .val (.int p3), .val (.int p4), .val (.int p5), .val (.int p6), .val (.ref b7), .val (.ref b17), .val (.ref b23), .val (.ref r101), .val (.int i108), .unset, .unset]) rfl ?_
        show Steps p.tables e below (T86.setTop (mkF m 136 #[.val (.int p1), .val (.int p2), .val (.int p3), .val (.int p4), .val (.int p5), .val (.int p6), .val (.ref b7), .val (.ref b17), .val (.ref b23), .val (.ref r101), .val (.int i108), .unset, .unset] [])) _
        refine st111 _ ?_
        show Steps p.tables e below (T111.setTop (mkF m 139 #[.val (.int p1), .val (.int p2), .val (.int p3), .val (.int p4), .val (.int p5), .val (.int p6), .val (.ref b7), .val (.ref b17), .val (.ref b23), .val (.ref r101), .val (.int i108), .unset, .unset] [(.ref b111)])) _
        refine XS.dup X111.here hx rfl (hb hby at_139) rfl rfl ?_
        show Steps p.tables e below (T111.setTop (mkF m 140 #[.val (.int p1), .val (.int p2), .val (.int p3), .val (.int p4), .val (.int p5), .val (.int p6), .val (.ref b7), .val (.ref b17), .val (.ref b23), .val (.ref r101), .val (.int i108), .unset, .unset] [(.ref b111), (.ref b111)])) _
        refine st112 _ ?_
        show Steps p.tables e below (T112.setTop (mkF m 143 #[.val (.int p1), .val (.int p2), .val (.int p3), .val (.int p4), .val (.int p5), .val (.int p6), .val (.ref b7), .val (.ref b17), .val (.ref b23), .val (.ref r101), .val (.int i108), .unset, .unset] [(.ref b112), (.ref b111), (.ref b111)])) _
        refine XS.dup X112.here hx rfl (hb hby at_143) rfl rfl ?_
        show Steps p.tables e below (T112.setTop (mkF m 144 #[.val (.int p1), .val (.int p2), .val (.int p3), .val (.int p4), .val (.int p5), .val (.int p6), .val (.ref b7), .val (.ref b17), .val (.ref b23), .val (.ref r101), .val (.int i108), .unset, .unset] [(.ref b112), (.ref b112), (.ref b111), (.ref b111)])) _
        refine XS.aload X112.here hx rfl (hb hby at_144) rfl rfl ?_
        show Steps p.tables e below (T112.setTop (mkF m 146 #[.val (.int p1), .val (.int p2), .val (.int p3), .val (.int p4), .val (.int p5), .val (.int p6), .val (.ref b7), .val (.ref b17), .val (.ref b23), .val (.ref r101), .val (.int i108), .unset, .unset] [(.ref b7), (.ref b112), (.ref b112), (.ref b111), (.ref b111)])) _
        refine st117.trans ?_
        show Steps p.tables e below (T117.setTop (mkF m 149 #[.val (.int p1), .val (.int p2), .val (.int p3), .val (.int p4), .val (.int p5), .val (.int p6), .val (.ref b7), .val (.ref b17), .val (.ref b23), .val (.ref r101), .val (.int i108), .unset, .unset] [(.ref b112), (.ref b111), (.ref b111)])) _
        refine st134 _ ?_
        show Steps p.tables e below (T134.setTop (mkF m 152 #[.val (.int p1), .val (.int p2), .val (.int p3), .val (.int p4), .val (.int p5), .val (.int p6), .val (.ref b7), .val (.ref b17), .val (.ref b23), .val (.ref r101), .val (.int i108), .unset, .unset] [(.ref b134), (.ref b112), (.ref b111), (.ref b111)])) _
        refine XS.dup X134.here hx rfl (hb hby at_152) rfl rfl ?_
        show Steps p.tables e below (T134.setTop (mkF m 153 #[.val (.int p1), .val (.int p2), .val (.int p3), .val (.int p4), .val (.int p5), .val (.int p6), .val (.ref b7), .val (.ref b17), .val (.ref b23), .val (.ref r101), .val (.int i108), .unset, .unset] [(.ref b134), (.ref b134), (.ref b112), (.ref b111), (.ref b111)])) _
        refine XS.aload X134.here hx rfl (hb hby at_153) rfl rfl ?_
        show Steps p.tables e below (T134.setTop (mkF m 155 #[.val (.int p1), .val (.int p2), .val (.int p3), .val (.int p4), .val (.int p5), .val (.int p6), .val (.ref b7), .val (.ref b17), .val (.ref b23), .val (.ref r101), .val (.int i108), .unset, .unset] [(.ref b17), (.ref b134), (.ref b134), (.ref b112), (.ref b111), (.ref b111)])) _
        refine st136.trans ?_
        show Steps p.tables e below (T136.setTop (mkF m 158 #[.val (.int p1), .val (.int p2), .val (.int p3), .val (.int p4), .val (.int p5), .val (.int p6), .val (.ref b7), .val (.ref b17), .val (.ref b23), .val (.ref r101), .val (.int i108), .unset, .unset] [(.ref b134), (.ref b112), (.ref b111), (.ref b111)])) _
        refine XS.iloadN X136.here hx rfl (hb hby at_158) rfl ?_
        show Steps p.tables e below (T136.setTop (mkF m 159 #[.val (.int p1), .val (.int p2), .val (.int p3), .val (.int p4), .val (.int p5), .val (.int p6), .val (.ref b7), .val (.ref b17), .val (.ref b23), .val (.ref r101), .val (.int i108), .unset, .unset] [(.int p3), (.ref b134), (.ref b112), (.ref b111), (.ref b111)])) _
        refine XS.aload X136.here hx rfl (hb hby at_159) rfl rfl ?_
        show Steps p.tables e below (T136.setTop (mkF m 161 #[.val (.int p1), .val (.int p2), .val (.int p3), .val (.int p4), .val (.int p5), .val (.int p6), .val (.ref b7), .val (.ref b17), .val (.ref b23), .val (.ref r101), .val (.int i108), .unset, .unset] [(.ref r101), (.int p3), (.ref b134), (.ref b112), (.ref b111), (.ref b111)])) _
        refine XS.iload X136.here hx rfl (hb hby at_161) rfl ?_
        show Steps p.tables e below (T136.setTop (mkF m 163 #[.val (.int p1), .val (.int p2), .val (.int p3), .val (.int p4), .val (.int p5), .val (.int p6), .val (.ref b7), .val (.ref b17), .val (.ref b23), .val (.ref r101), .val (.int i108), .unset, .unset] [(.int i108), (.ref r101), (.int p3), (.ref b134), (.ref b112), (.ref b111), (.ref b111)])) _
        refine XS.iloadN X136.here hx rfl (hb hby at_163) rfl ?_
        show Steps p.tables e below (T136.setTop (mkF m 164 #[.val (.int p1), .val (.int p2), .val (.int p3), .val (.int p4), .val (.int p5), .val (.int p6), .val (.ref b7), .val (.ref b17), .val (.ref b23), .val (.ref r101), .val (.int i108), .unset, .unset] [(.int p1), (.int i108), (.ref r101), (.int p3), (.ref b134), (.ref b112), (.ref b111), (.ref b111)])) _
        refine XS.iload X136.here hx rfl (hb hby at_164) rfl ?_
        show Steps p.tables e below (T136.setTop (mkF m 166 #[.val (.int p1), .val (.int p2), .val (.int p3), .val (.int p4), .val (.int p5), .val (.int p6), .val (.ref b7), .val (.ref b17), .val (.ref b23), .val (.ref r101), .val (.int i108), .unset, .unset] [(.int p6), (.int p1), (.int i108), (.ref r101), (.int p3), (.ref b134), (.ref b112), (.ref b111), (.ref b111)])) _
        refine st159.trans ?_
        show Steps p.tables e below (T159.setTop (mkF m 169 #[.val (.int p1), .val (.int p2), .val (.int p3), .val (.int p4), .val (.int p5), .val (.int p6), .val (.ref b7), .val (.ref b17), .val (.ref b23), .val (.ref r101), .val (.int i108), .unset, .unset] [(.ref b111)])) _
        refine XS.astore X159.here hx rfl (hb hby at_169) rfl rfl (l' := #[.val (.int p1), .val (.int p2), .val (.int p3), .val (.int p4), .val (.int p5), .val (.int p6), .val (.ref b7), .val (.ref b17), .val (.ref b23), .val (.ref r101), .val (.int i108), .val (.ref b111), .unset]) rfl ?_
        show Steps p.tables e below (T159.setTop (mkF m 171 #[.val (.int p1), .val (.int p2), .val (.int p3), .val (.int p4), .val (.int p5), .val (.int p6), .val (.ref b7), .val (.ref b17), .val (.ref b23), .val (.ref r101), .val (.int i108), .val (.ref b111), .unset] [])) _
        refine XS.iloadN X159.here hx rfl (hb hby at_171) rfl ?_
        show Steps p.tables e below (T159.setTop (mkF m 172 #[.val (.int p1), .val (.int p2), .val (.int p3), .val (.int p4), .val (.int p5), .val (.int p6), .val (.ref b7), .val (.ref b17), .val (.ref b23), .val (.ref r101), .val (.int i108), .val (.ref b111), .unset] [(.int p1)])) _
        refine XS.iconst X159.here hx rfl (hb hby at_172) ?_
        exact kt
      by_cases hc174 : p1 < (1 : Int32)
      · skip
        obtain ⟨cq175, kq175, q175a, q175b, q175c⟩ := isOf hZ rfl u165
        obtain ⟨_, _, ⟨T175, L175, k175, n175⟩, -, X175, ⟨Lc175, hQ175, l175, y175, z175⟩, st175⟩ := X159.virtualBack hx (y := M_7) (z := M_7) hown (mvT hZ (hw _ (gw 79 rfl))) (mvT hZ (hw _ (gw 80 rfl))) (notFace_of_selects (args := #[]) (mvT hZ (hw _ (gw 82 rfl)))) (mvT hZ (hw _ (gw 82 rfl))) (mvT hZ (hw _ (gw 81 rfl))) (by decide) (backOf (W := 0) (rm9_14 l Z a0 hw [] b111 p1 T159.heap n0  Ou164 u170 (own_npos hc174)) hZ (hw _ (gw 83 rfl)) (hw _ (gw 26 rfl)) (by decide) (by decide)) q175a q175c (g := (mkF m 185 #[.val (.int p1), .val (.int p2), .val (.int p3), .val (.int p4), .val (.int p5), .val (.int p6), .val (.ref b7), .val (.ref b17), .val (.ref b23), .val (.ref r101), .val (.int i108), .val (.ref b111), .val (.int (0 : Int32))] [(.ref b111)])) rfl (by rw [hml]; rfl) (Steps.refl _) (argsL := []) (rest := []) (lenOf pd_7 rfl) rfl (by show 2 * 0 + _ ≤ _; exact Nat.le_of_eq rfl) (hb hby at_185) (fun _ _ => ⟨rfl, rfl, (by decide : 8 + 0 ≤ _), (by decide : 30 + 0 ≤ _)⟩)
        dsimp only [Pt.U, Pt.locs, Pt.cells, Pt.slots] at X175 l175 y175 z175 st175 hQ175
        subst l175 y175 z175
        obtain ⟨rfl, u177, u178⟩ := hQ175
        have N175 := Fr.app N159 u177
        obtain ⟨fs, hr, hrun, hended, hW, hsame⟩ := X175.leave (v := some (.int (1 : Int32))) (fun h => by rw [Bd.returns] at h; cases h)
        refine hno ⟨_, _, pre173 _ ?_, hrun, hended, _, _, rfl, ?_, ⟨_, rfl⟩, hW, hsame.mono (by decide) (by decide)⟩
        · show Steps p.tables e below (T159.setTop (mkF m 173 #[.val (.int p1), .val (.int p2), .val (.int p3), .val (.int p4), .val (.int p5), .val (.int p6), .val (.ref b7), .val (.ref b17), .val (.ref b23), .val (.ref r101), .val (.int i108), .val (.ref b111), .unset] [(.int (1 : Int32)), (.int p1)])) _
          refine XS.icmpYes X159.here hx rfl (pc0 := 173) (pc' := 180) rfl (hb hby at_173) rfl (tlt hc174).1 (by decide) (by decide) ?_
          show Steps p.tables e below (T159.setTop (mkF m 180 #[.val (.int p1), .val (.int p2), .val (.int p3), .val (.int p4), .val (.int p5), .val (.int p6), .val (.ref b7), .val (.ref b17), .val (.ref b23), .val (.ref r101), .val (.int i108), .val (.ref b111), .unset] [])) _
          refine XS.iconst X159.here hx rfl (hb hby at_180) ?_
          show Steps p.tables e below (T159.setTop (mkF m 181 #[.val (.int p1), .val (.int p2), .val (.int p3), .val (.int p4), .val (.int p5), .val (.int p6), .val (.ref b7), .val (.ref b17), .val (.ref b23), .val (.ref r101), .val (.int i108), .val (.ref b111), .unset] [(.int (0 : Int32))])) _
          refine XS.istore X159.here hx rfl (hb hby at_181) rfl (l' := #[.val (.int p1), .val (.int p2), .val (.int p3), .val (.int p4), .val (.int p5), .val (.int p6), .val (.ref b7), .val (.ref b17), .val (.ref b23), .val (.ref r101), .val (.int i108), .val (.ref b111), .val (.int (0 : Int32))]) rfl ?_
          show Steps p.tables e below (T159.setTop (mkF m 183 #[.val (.int p1), .val (.int p2), .val (.int p3), .val (.int p4), .val (.int p5), .val (.int p6), .val (.ref b7), .val (.ref b17), .val (.ref b23), .val (.ref r101), .val (.int i108), .val (.ref b111), .val (.int (0 : Int32))] [])) _
          refine XS.aload X159.here hx rfl (hb hby at_183) rfl rfl ?_
          show Steps p.tables e below (T159.setTop (mkF m 185 #[.val (.int p1), .val (.int p2), .val (.int p3), .val (.int p4), .val (.int p5), .val (.int p6), .val (.ref b7), .val (.ref b17), .val (.ref b23), .val (.ref r101), .val (.int i108), .val (.ref b111), .val (.int (0 : Int32))] [(.ref b111)])) _
          refine st175.trans ?_
          show Steps p.tables e below (T175.setTop (mkF m 188 #[.val (.int p1), .val (.int p2), .val (.int p3), .val (.int p4), .val (.int p5), .val (.int p6), .val (.ref b7), .val (.ref b17), .val (.ref b23), .val (.ref r101), .val (.int i108), .val (.ref b111), .val (.int (0 : Int32))] [(.int (0 : Int32))])) _
          refine XS.iload X175.here hx rfl (hb hby at_188) rfl ?_
          show Steps p.tables e below (T175.setTop (mkF m 190 #[.val (.int p1), .val (.int p2), .val (.int p3), .val (.int p4), .val (.int p5), .val (.int p6), .val (.ref b7), .val (.ref b17), .val (.ref b23), .val (.ref r101), .val (.int i108), .val (.ref b111), .val (.int (0 : Int32))] [(.int (0 : Int32)), (.int (0 : Int32))])) _
          refine XS.icmpNo X175.here hx rfl (hb hby at_190) rfl (teq (by decide +kernel : (0 : Int32) = (0 : Int32))).2 ?_
          show Steps p.tables e below (T175.setTop (mkF m 193 #[.val (.int p1), .val (.int p2), .val (.int p3), .val (.int p4), .val (.int p5), .val (.int p6), .val (.ref b7), .val (.ref b17), .val (.ref b23), .val (.ref r101), .val (.int i108), .val (.ref b111), .val (.int (0 : Int32))] [])) _
          refine XS.iconst X175.here hx rfl (hb hby at_193) ?_
          show Steps p.tables e below (T175.setTop (mkF m 194 #[.val (.int p1), .val (.int p2), .val (.int p3), .val (.int p4), .val (.int p5), .val (.int p6), .val (.ref b7), .val (.ref b17), .val (.ref b23), .val (.ref r101), .val (.int i108), .val (.ref b111), .val (.int (0 : Int32))] [(.int (1 : Int32))])) _
          refine XS.goto X175.here hx rfl (pc0 := 194) (pc' := 198) rfl (hb hby at_194) (by decide) (by decide) ?_
          show Steps p.tables e below (T175.setTop (mkF m 198 #[.val (.int p1), .val (.int p2), .val (.int p3), .val (.int p4), .val (.int p5), .val (.int p6), .val (.ref b7), .val (.ref b17), .val (.ref b23), .val (.ref r101), .val (.int i108), .val (.ref b111), .val (.int (0 : Int32))] [(.int (1 : Int32))])) _
          exact retN X175 hx (t := .boolean) Bd.returns (by simp) (hb hby at_198) hr
        · show Q0 Z _ _ _ _ _ _ _ _ _ _ _ _ _ _ _ _ h0 n0 _ T175.heap _
          rw [u178]
          exact ⟨rfl, N175⟩
      · skip
        obtain ⟨cq179, kq179, q179a, q179b, q179c⟩ := isOf hZ rfl u165
        obtain ⟨_, _, ⟨T179, L179, k179, n179⟩, -, X179, ⟨Lc179, hQ179, l179, y179, z179⟩, st179⟩ := X159.virtualBack hx (y := M_7) (z := M_7) hown (mvT hZ (hw _ (gw 79 rfl))) (mvT hZ (hw _ (gw 80 rfl))) (notFace_of_selects (args := #[]) (mvT hZ (hw _ (gw 82 rfl)))) (mvT hZ (hw _ (gw 82 rfl))) (mvT hZ (hw _ (gw 81 rfl))) (by decide) (backOf (W := 0) (rm9_15 l Z a0 hw [] b111 p1 T159.heap n0  Ou164 u170 (own_pos hc174)) hZ (hw _ (gw 83 rfl)) (hw _ (gw 26 rfl)) (by decide) (by decide)) q179a q179c (g := (mkF m 185 #[.val (.int p1), .val (.int p2), .val (.int p3), .val (.int p4), .val (.int p5), .val (.int p6), .val (.ref b7), .val (.ref b17), .val (.ref b23), .val (.ref r101), .val (.int i108), .val (.ref b111), .val (.int (1 : Int32))] [(.ref b111)])) rfl (by rw [hml]; rfl) (Steps.refl _) (argsL := []) (rest := []) (lenOf pd_7 rfl) rfl (by show 2 * 0 + _ ≤ _; exact Nat.le_of_eq rfl) (hb hby at_185) (fun _ _ => ⟨rfl, rfl, (by decide : 8 + 0 ≤ _), (by decide : 30 + 0 ≤ _)⟩)
        dsimp only [Pt.U, Pt.locs, Pt.cells, Pt.slots] at X179 l179 y179 z179 st179 hQ179
        subst l179 y179 z179
        obtain ⟨rfl, u181, u182⟩ := hQ179
        have N179 := Fr.app N159 u181
        obtain ⟨fs, hr, hrun, hended, hW, hsame⟩ := X179.leave (v := some (.int (1 : Int32))) (fun h => by rw [Bd.returns] at h; cases h)
        refine hno ⟨_, _, pre173 _ ?_, hrun, hended, _, _, rfl, ?_, ⟨_, rfl⟩, hW, hsame.mono (by decide) (by decide)⟩
        · show Steps p.tables e below (T159.setTop (mkF m 173 #[.val (.int p1), .val (.int p2), .val (.int p3), .val (.int p4), .val (.int p5), .val (.int p6), .val (.ref b7), .val (.ref b17), .val (.ref b23), .val (.ref r101), .val (.int i108), .val (.ref b111), .unset] [(.int (1 : Int32)), (.int p1)])) _
          refine XS.icmpNo X159.here hx rfl (hb hby at_173) rfl (flt hc174).1 ?_
          show Steps p.tables e below (T159.setTop (mkF m 176 #[.val (.int p1), .val (.int p2), .val (.int p3), .val (.int p4), .val (.int p5), .val (.int p6), .val (.ref b7), .val (.ref b17), .val (.ref b23), .val (.ref r101), .val (.int i108), .val (.ref b111), .unset] [])) _
          refine XS.iconst X159.here hx rfl (hb hby at_176) ?_
          show Steps p.tables e below (T159.setTop (mkF m 177 #[.val (.int p1), .val (.int p2), .val (.int p3), .val (.int p4), .val (.int p5), .val (.int p6), .val (.ref b7), .val (.ref b17), .val (.ref b23), .val (.ref r101), .val (.int i108), .val (.ref b111), .unset] [(.int (1 : Int32))])) _
          refine XS.goto X159.here hx rfl (pc0 := 177) (pc' := 181) rfl (hb hby at_177) (by decide) (by decide) ?_
          show Steps p.tables e below (T159.setTop (mkF m 181 #[.val (.int p1), .val (.int p2), .val (.int p3), .val (.int p4), .val (.int p5), .val (.int p6), .val (.ref b7), .val (.ref b17), .val (.ref b23), .val (.ref r101), .val (.int i108), .val (.ref b111), .unset] [(.int (1 : Int32))])) _
          refine XS.istore X159.here hx rfl (hb hby at_181) rfl (l' := #[.val (.int p1), .val (.int p2), .val (.int p3), .val (.int p4), .val (.int p5), .val (.int p6), .val (.ref b7), .val (.ref b17), .val (.ref b23), .val (.ref r101), .val (.int i108), .val (.ref b111), .val (.int (1 : Int32))]) rfl ?_
          show Steps p.tables e below (T159.setTop (mkF m 183 #[.val (.int p1), .val (.int p2), .val (.int p3), .val (.int p4), .val (.int p5), .val (.int p6), .val (.ref b7), .val (.ref b17), .val (.ref b23), .val (.ref r101), .val (.int i108), .val (.ref b111), .val (.int (1 : Int32))] [])) _
          refine XS.aload X159.here hx rfl (hb hby at_183) rfl rfl ?_
          show Steps p.tables e below (T159.setTop (mkF m 185 #[.val (.int p1), .val (.int p2), .val (.int p3), .val (.int p4), .val (.int p5), .val (.int p6), .val (.ref b7), .val (.ref b17), .val (.ref b23), .val (.ref r101), .val (.int i108), .val (.ref b111), .val (.int (1 : Int32))] [(.ref b111)])) _
          refine st179.trans ?_
          show Steps p.tables e below (T179.setTop (mkF m 188 #[.val (.int p1), .val (.int p2), .val (.int p3), .val (.int p4), .val (.int p5), .val (.int p6), .val (.ref b7), .val (.ref b17), .val (.ref b23), .val (.ref r101), .val (.int i108), .val (.ref b111), .val (.int (1 : Int32))] [(.int (1 : Int32))])) _
          refine XS.iload X179.here hx rfl (hb hby at_188) rfl ?_
          show Steps p.tables e below (T179.setTop (mkF m 190 #[.val (.int p1), .val (.int p2), .val (.int p3), .val (.int p4), .val (.int p5), .val (.int p6), .val (.ref b7), .val (.ref b17), .val (.ref b23), .val (.ref r101), .val (.int i108), .val (.ref b111), .val (.int (1 : Int32))] [(.int (1 : Int32)), (.int (1 : Int32))])) _
          refine XS.icmpNo X179.here hx rfl (hb hby at_190) rfl (teq (by decide +kernel : (1 : Int32) = (1 : Int32))).2 ?_
          show Steps p.tables e below (T179.setTop (mkF m 193 #[.val (.int p1), .val (.int p2), .val (.int p3), .val (.int p4), .val (.int p5), .val (.int p6), .val (.ref b7), .val (.ref b17), .val (.ref b23), .val (.ref r101), .val (.int i108), .val (.ref b111), .val (.int (1 : Int32))] [])) _
          refine XS.iconst X179.here hx rfl (hb hby at_193) ?_
          show Steps p.tables e below (T179.setTop (mkF m 194 #[.val (.int p1), .val (.int p2), .val (.int p3), .val (.int p4), .val (.int p5), .val (.int p6), .val (.ref b7), .val (.ref b17), .val (.ref b23), .val (.ref r101), .val (.int i108), .val (.ref b111), .val (.int (1 : Int32))] [(.int (1 : Int32))])) _
          refine XS.goto X179.here hx rfl (pc0 := 194) (pc' := 198) rfl (hb hby at_194) (by decide) (by decide) ?_
          show Steps p.tables e below (T179.setTop (mkF m 198 #[.val (.int p1), .val (.int p2), .val (.int p3), .val (.int p4), .val (.int p5), .val (.int p6), .val (.ref b7), .val (.ref b17), .val (.ref b23), .val (.ref r101), .val (.int i108), .val (.ref b111), .val (.int (1 : Int32))] [(.int (1 : Int32))])) _
          exact retN X179 hx (t := .boolean) Bd.returns (by simp) (hb hby at_198) hr
        · show Q0 Z _ _ _ _ _ _ _ _ _ _ _ _ _ _ _ _ h0 n0 _ T179.heap _
          rw [u182]
          exact ⟨rfl, N179⟩
    by_cases hc183 : i104 = (0 : Int32)
    · skip
      subst hc183
      have pre184 : ∀ t, Steps p.tables e below (T86.setTop (mkF m 134 #[.val (.int p1), .val (.int p2), .val (.int p3), .val (.int p4), .val (.int p5), .val (.int p6), .val (.ref b7), .val (.ref b17), .val (.ref b23), .val (.ref r101), .unset, .unset, .unset] [(.int (0 : Int32))])) t → Steps p.tables e below (s₁.setTop (entryFrame m #[(.int p1), (.int p2), (.int p3), (.int p4), (.int p5), (.int p6)] maxLocals)) t := by
        intro t kt
        refine pre105 t ?_
        show Steps p.tables e below (T86.setTop (mkF m 126 #[.val (.int p1), .val (.int p2), .val (.int p3), .val (.int p4), .val (.int p5), .val (.int p6), .val (.ref b7), .val (.ref b17), .val (.ref b23), .val (.ref r101), .unset, .unset, .unset] [(.int (0 : Int32))])) _
        refine XS.ifYes X86.here hx rfl (pc0 := 126) (pc' := 133) rfl (hb hby at_126) rfl ((if0 _ _).trans (teq (by decide +kernel : (0 : Int32) = (0 : Int32))).1) (by decide) (by decide) ?_
        show Steps p.tables e below (T86.setTop (mkF m 133 #[.val (.int p1), .val (.int p2), .val (.int p3), .val (.int p4), .val (.int p5), .val (.int p6), .val (.ref b7), .val (.ref b17), .val (.ref b23), .val (.ref r101), .unset, .unset, .unset] [])) _
        refine XS.iconst X86.here hx rfl (hb hby at_133) ?_
        exact kt
      exact join107 (0 : Int32) (Or.inl rfl) pre184
    · skip
      have pre185 : ∀ t, Steps p.tables e below (T86.setTop (mkF m 134 #[.val (.int p1), .val (.int p2), .val (.int p3), .val (.int p4), .val (.int p5), .val (.int p6), .val (.ref b7), .val (.ref b17), .val (.ref b23), .val (.ref r101), .unset, .unset, .unset] [(.int (1 : Int32))])) t → Steps p.tables e below (s₁.setTop (entryFrame m #[(.int p1), (.int p2), (.int p3), (.int p4), (.int p5), (.int p6)] maxLocals)) t := by
        intro t kt
        refine pre105 t ?_
        show Steps p.tables e below (T86.setTop (mkF m 126 #[.val (.int p1), .val (.int p2), .val (.int p3), .val (.int p4), .val (.int p5), .val (.int p6), .val (.ref b7), .val (.ref b17), .val (.ref b23), .val (.ref r101), .unset, .unset, .unset] [(.int i104)])) _
        refine XS.ifNo X86.here hx rfl (hb hby at_126) rfl ((if0 _ _).trans (feq hc183).1) ?_
        show Steps p.tables e below (T86.setTop (mkF m 129 #[.val (.int p1), .val (.int p2), .val (.int p3), .val (.int p4), .val (.int p5), .val (.int p6), .val (.ref b7), .val (.ref b17), .val (.ref b23), .val (.ref r101), .unset, .unset, .unset] [])) _
        refine XS.iconst X86.here hx rfl (hb hby at_129) ?_
        show Steps p.tables e below (T86.setTop (mkF m 130 #[.val (.int p1), .val (.int p2), .val (.int p3), .val (.int p4), .val (.int p5), .val (.int p6), .val (.ref b7), .val (.ref b17), .val (.ref b23), .val (.ref r101), .unset, .unset, .unset] [(.int (1 : Int32))])) _
        refine XS.goto X86.here hx rfl (pc0 := 130) (pc' := 134) rfl (hb hby at_130) (by decide) (by decide) ?_
        exact kt
      exact join107 (1 : Int32) (Or.inr rfl) pre185
  rcases (hi88 ▸ own_mod9 hi87 : i88 = (0 : Int32) ∨ i88 = (1 : Int32) ∨ i88 = (2 : Int32) ∨ i88 = (3 : Int32) ∨ i88 = (4 : Int32) ∨ i88 = (5 : Int32) ∨ i88 = (6 : Int32) ∨ i88 = (7 : Int32) ∨ i88 = (8 : Int32)) with hq186 | hq186 | hq186 | hq186 | hq186 | hq186 | hq186 | hq186 | hq186
  · skip
    subst hq186
    obtain ⟨cl187, Ar187, -, Sz187, -, Hh187, -⟩ := id V86
    have hin187 : ¬ ((0 : Int32) < 0 ∨ cl187.slots.size ≤ ((0 : Int32)).toNatClampNeg) := inb_of Sz187 ⟨by decide +kernel, by decide +kernel⟩
    have hat187 : cl187.slots[((0 : Int32)).toNatClampNeg]? = some (.ref a24) := Has.at Hh187 hin187 rfl
    have pre188 : ∀ t, Steps p.tables e below (T86.setTop (mkF m 120 #[.val (.int p1), .val (.int p2), .val (.int p3), .val (.int p4), .val (.int p5), .val (.int p6), .val (.ref b7), .val (.ref b17), .val (.ref b23), .unset, .unset, .unset, .unset] [(.ref a24)])) t → Steps p.tables e below (s₁.setTop (entryFrame m #[(.int p1), (.int p2), (.int p3), (.int p4), (.int p5), (.int p6)] maxLocals)) t := by
      intro t kt
      refine pre89 t ?_
      show Steps p.tables e below (T86.setTop (mkF m 119 #[.val (.int p1), .val (.int p2), .val (.int p3), .val (.int p4), .val (.int p5), .val (.int p6), .val (.ref b7), .val (.ref b17), .val (.ref b23), .unset, .unset, .unset, .unset] [(.int (0 : Int32)), (.ref b23)])) _
      refine X86.aaload hx (j := (0 : Int32)) (v := (.ref a24)) (by rw [e86]; exact Ar187.1) (State.isArrayOf_alike hZ.alike Ar187.2.1) rfl Ar187.2.2 hin187 hat187 (g := (mkF m 119 #[.val (.int p1), .val (.int p2), .val (.int p3), .val (.int p4), .val (.int p5), .val (.int p6), .val (.ref b7), .val (.ref b17), .val (.ref b23), .unset, .unset, .unset, .unset] [(.int (0 : Int32)), (.ref b23)])) rfl rfl (hb hby at_119) _ ?_
      exact kt
    exact join100 a24 E_29 pre188
  · skip
    subst hq186
    obtain ⟨cl189, Ar189, -, Sz189, -, Hh189, -⟩ := id V86
    have hin189 : ¬ ((1 : Int32) < 0 ∨ cl189.slots.size ≤ ((1 : Int32)).toNatClampNeg) := inb_of Sz189 ⟨by decide +kernel, by decide +kernel⟩
    have hat189 : cl189.slots[((1 : Int32)).toNatClampNeg]? = some (.ref a31) := Has.at Hh189 hin189 rfl
    have pre190 : ∀ t, Steps p.tables e below (T86.setTop (mkF m 120 #[.val (.int p1), .val (.int p2), .val (.int p3), .val (.int p4), .val (.int p5), .val (.int p6), .val (.ref b7), .val (.ref b17), .val (.ref b23), .unset, .unset, .unset, .unset] [(.ref a31)])) t → Steps p.tables e below (s₁.setTop (entryFrame m #[(.int p1), (.int p2), (.int p3), (.int p4), (.int p5), (.int p6)] maxLocals)) t := by
      intro t kt
      refine pre89 t ?_
      show Steps p.tables e below (T86.setTop (mkF m 119 #[.val (.int p1), .val (.int p2), .val (.int p3), .val (.int p4), .val (.int p5), .val (.int p6), .val (.ref b7), .val (.ref b17), .val (.ref b23), .unset, .unset, .unset, .unset] [(.int (1 : Int32)), (.ref b23)])) _
      refine X86.aaload hx (j := (1 : Int32)) (v := (.ref a31)) (by rw [e86]; exact Ar189.1) (State.isArrayOf_alike hZ.alike Ar189.2.1) rfl Ar189.2.2 hin189 hat189 (g := (mkF m 119 #[.val (.int p1), .val (.int p2), .val (.int p3), .val (.int p4), .val (.int p5), .val (.int p6), .val (.ref b7), .val (.ref b17), .val (.ref b23), .unset, .unset, .unset, .unset] [(.int (1 : Int32)), (.ref b23)])) rfl rfl (hb hby at_119) _ ?_
      exact kt
    exact join100 a31 E_36 pre190
  · skip
    subst hq186
    obtain ⟨cl191, Ar191, -, Sz191, -, Hh191, -⟩ := id V86
    have hin191 : ¬ ((2 : Int32) < 0 ∨ cl191.slots.size ≤ ((2 : Int32)).toNatClampNeg) := inb_of Sz191 ⟨by decide +kernel, by decide +kernel⟩
    have hat191 : cl191.slots[((2 : Int32)).toNatClampNeg]? = some (.ref a38) := Has.at Hh191 hin191 rfl
    have pre192 : ∀ t, Steps p.tables e below (T86.setTop (mkF m 120 #[.val (.int p1), .val (.int p2), .val (.int p3), .val (.int p4), .val (.int p5), .val (.int p6), .val (.ref b7), .val (.ref b17), .val (.ref b23), .unset, .unset, .unset, .unset] [(.ref a38)])) t → Steps p.tables e below (s₁.setTop (entryFrame m #[(.int p1), (.int p2), (.int p3), (.int p4), (.int p5), (.int p6)] maxLocals)) t := by
      intro t kt
      refine pre89 t ?_
      show Steps p.tables e below (T86.setTop (mkF m 119 #[.val (.int p1), .val (.int p2), .val (.int p3), .val (.int p4), .val (.int p5), .val (.int p6), .val (.ref b7), .val (.ref b17), .val (.ref b23), .unset, .unset, .unset, .unset] [(.int (2 : Int32)), (.ref b23)])) _
      refine X86.aaload hx (j := (2 : Int32)) (v := (.ref a38)) (by rw [e86]; exact Ar191.1) (State.isArrayOf_alike hZ.alike Ar191.2.1) rfl Ar191.2.2 hin191 hat191 (g := (mkF m 119 #[.val (.int p1), .val (.int p2), .val (.int p3), .val (.int p4), .val (.int p5), .val (.int p6), .val (.ref b7), .val (.ref b17), .val (.ref b23), .unset, .unset, .unset, .unset] [(.int (2 : Int32)), (.ref b23)])) rfl rfl (hb hby at_119) _ ?_
      exact kt
    exact join100 a38 E_43 pre192
  · skip
    subst hq186
    obtain ⟨cl193, Ar193, -, Sz193, -, Hh193, -⟩ := id V86
    have hin193 : ¬ ((3 : Int32) < 0 ∨ cl193.slots.size ≤ ((3 : Int32)).toNatClampNeg) := inb_of Sz193 ⟨by decide +kernel, by decide +kernel⟩
    have hat193 : cl193.slots[((3 : Int32)).toNatClampNeg]? = some (.ref a45) := Has.at Hh193 hin193 rfl
    have pre194 : ∀ t, Steps p.tables e below (T86.setTop (mkF m 120 #[.val (.int p1), .val (.int p2), .val (.int p3), .val (.int p4), .val (.int p5), .val (.int p6), .val (.ref b7), .val (.ref b17), .val (.ref b23), .unset, .unset, .unset, .unset] [(.ref a45)])) t → Steps p.tables e below (s₁.setTop (entryFrame m #[(.int p1), (.int p2), (.int p3), (.int p4), (.int p5), (.int p6)] maxLocals)) t := by
      intro t kt
      refine pre89 t ?_
      show Steps p.tables e below (T86.setTop (mkF m 119 #[.val (.int p1), .val (.int p2), .val (.int p3), .val (.int p4), .val (.int p5), .val (.int p6), .val (.ref b7), .val (.ref b17), .val (.ref b23), .unset, .unset, .unset, .unset] [(.int (3 : Int32)), (.ref b23)])) _
      refine X86.aaload hx (j := (3 : Int32)) (v := (.ref a45)) (by rw [e86]; exact Ar193.1) (State.isArrayOf_alike hZ.alike Ar193.2.1) rfl Ar193.2.2 hin193 hat193 (g := (mkF m 119 #[.val (.int p1), .val (.int p2), .val (.int p3), .val (.int p4), .val (.int p5), .val (.int p6), .val (.ref b7), .val (.ref b17), .val (.ref b23), .unset, .unset, .unset, .unset] [(.int (3 : Int32)), (.ref b23)])) rfl rfl (hb hby at_119) _ ?_
      exact kt
    exact join100 a45 E_50 pre194
  · skip
    subst hq186
    obtain ⟨cl195, Ar195, -, Sz195, -, Hh195, -⟩ := id V86
    have hin195 : ¬ ((4 : Int32) < 0 ∨ cl195.slots.size ≤ ((4 : Int32)).toNatClampNeg) := inb_of Sz195 ⟨by decide +kernel, by decide +kernel⟩
    have hat195 : cl195.slots[((4 : Int32)).toNatClampNeg]? = some (.ref a52) := Has.at Hh195 hin195 rfl
    have pre196 : ∀ t, Steps p.tables e below (T86.setTop (mkF m 120 #[.val (.int p1), .val (.int p2), .val (.int p3), .val (.int p4), .val (.int p5), .val (.int p6), .val (.ref b7), .val (.ref b17), .val (.ref b23), .unset, .unset, .unset, .unset] [(.ref a52)])) t → Steps p.tables e below (s₁.setTop (entryFrame m #[(.int p1), (.int p2), (.int p3), (.int p4), (.int p5), (.int p6)] maxLocals)) t := by
      intro t kt
      refine pre89 t ?_
      show Steps p.tables e below (T86.setTop (mkF m 119 #[.val (.int p1), .val (.int p2), .val (.int p3), .val (.int p4), .val (.int p5), .val (.int p6), .val (.ref b7), .val (.ref b17), .val (.ref b23), .unset, .unset, .unset, .unset] [(.int (4 : Int32)), (.ref b23)])) _
      refine X86.aaload hx (j := (4 : Int32)) (v := (.ref a52)) (by rw [e86]; exact Ar195.1) (State.isArrayOf_alike hZ.alike Ar195.2.1) rfl Ar195.2.2 hin195 hat195 (g := (mkF m 119 #[.val (.int p1), .val (.int p2), .val (.int p3), .val (.int p4), .val (.int p5), .val (.int p6), .val (.ref b7), .val (.ref b17), .val (.ref b23), .unset, .unset, .unset, .unset] [(.int (4 : Int32)), (.ref b23)])) rfl rfl (hb hby at_119) _ ?_
      exact kt
    exact join100 a52 E_57 pre196
  · skip
    subst hq186
    obtain ⟨cl197, Ar197, -, Sz197, -, Hh197, -⟩ := id V86
    have hin197 : ¬ ((5 : Int32) < 0 ∨ cl197.slots.size ≤ ((5 : Int32)).toNatClampNeg) := inb_of Sz197 ⟨by decide +kernel, by decide +kernel⟩
    have hat197 : cl197.slots[((5 : Int32)).toNatClampNeg]? = some (.ref a59) := Has.at Hh197 hin197 rfl
    have pre198 : ∀ t, Steps p.tables e below (T86.setTop (mkF m 120 #[.val (.int p1), .val (.int p2), .val (.int p3), .val (.int p4), .val (.int p5), .val (.int p6), .val (.ref b7), .val (.ref b17), .val (.ref b23), .unset, .unset, .unset, .unset] [(.ref a59)])) t → Steps p.tables e below (s₁.setTop (entryFrame m #[(.int p1), (.int p2), (.int p3), (.int p4), (.int p5), (.int p6)] maxLocals)) t := by
      intro t kt
      refine pre89 t ?_
      show Steps p.tables e below (T86.setTop (mkF m 119 #[.val (.int p1), .val (.int p2), .val (.int p3), .val (.int p4), .val (.int p5), .val (.int p6), .val (.ref b7), .val (.ref b17), .val (.ref b23), .unset, .unset, .unset, .unset] [(.int (5 : Int32)), (.ref b23)])) _
      refine X86.aaload hx (j := (5 : Int32)) (v := (.ref a59)) (by rw [e86]; exact Ar197.1) (State.isArrayOf_alike hZ.alike Ar197.2.1) rfl Ar197.2.2 hin197 hat197 (g := (mkF m 119 #[.val (.int p1), .val (.int p2), .val (.int p3), .val (.int p4), .val (.int p5), .val (.int p6), .val (.ref b7), .val (.ref b17), .val (.ref b23), .unset, .unset, .unset, .unset] [(.int (5 : Int32)), (.ref b23)])) rfl rfl (hb hby at_119) _ ?_
      exact kt
    exact join100 a59 E_64 pre198
  · skip
    subst hq186
    obtain ⟨cl199, Ar199, -, Sz199, -, Hh199, -⟩ := id V86
    have hin199 : ¬ ((6 : Int32) < 0 ∨ cl199.slots.size ≤ ((6 : Int32)).toNatClampNeg) := inb_of Sz199 ⟨by decide +kernel, by decide +kernel⟩
    have hat199 : cl199.slots[((6 : Int32)).toNatClampNeg]? = some (.ref a66) := Has.at Hh199 hin199 rfl
    have pre200 : ∀ t, Steps p.tables e below (T86.setTop (mkF m 120 #[.val (.int p1), .val (.int p2), .val (.int p3), .val (.int p4), .val (.int p5), .val (.int p6), .val (.ref b7), .val (.ref b17), .val (.ref b23), .unset, .unset, .unset, .unset] [(.ref a66)])) t → Steps p.tables e below (s₁.setTop (entryFrame m #[(.int p1), (.int p2), (.int p3), (.int p4), (.int p5), (.int p6)] maxLocals)) t := by
      intro t kt
      refine pre89 t ?_
      show Steps p.tables e below (T86.setTop (mkF m 119 #[.val (.int p1), .val (.int p2), .val (.int p3), .val (.int p4), .val (.int p5), .val (.int p6), .val (.ref b7), .val (.ref b17), .val (.ref b23), .unset, .unset, .unset, .unset] [(.int (6 : Int32)), (.ref b23)])) _
      refine X86.aaload hx (j := (6 : Int32)) (v := (.ref a66)) (by rw [e86]; exact Ar199.1) (State.isArrayOf_alike hZ.alike Ar199.2.1) rfl Ar199.2.2 hin199 hat199 (g := (mkF m 119 #[.val (.int p1), .val (.int p2), .val (.int p3), .val (.int p4), .val (.int p5), .val (.int p6), .val (.ref b7), .val (.ref b17), .val (.ref b23), .unset, .unset, .unset, .unset] [(.int (6 : Int32)), (.ref b23)])) rfl rfl (hb hby at_119) _ ?_
      exact kt
    exact join100 a66 E_71 pre200
  · skip
    subst hq186
    obtain ⟨cl201, Ar201, -, Sz201, -, Hh201, -⟩ := id V86
    have hin201 : ¬ ((7 : Int32) < 0 ∨ cl201.slots.size ≤ ((7 : Int32)).toNatClampNeg) := inb_of Sz201 ⟨by decide +kernel, by decide +kernel⟩
    have hat201 : cl201.slots[((7 : Int32)).toNatClampNeg]? = some (.ref a73) := Has.at Hh201 hin201 rfl
    have pre202 : ∀ t, Steps p.tables e below (T86.setTop (mkF m 120 #[.val (.int p1), .val (.int p2), .val (.int p3), .val (.int p4), .val (.int p5), .val (.int p6), .val (.ref b7), .val (.ref b17), .val (.ref b23), .unset, .unset, .unset, .unset] [(.ref a73)])) t → Steps p.tables e below (s₁.setTop (entryFrame m #[(.int p1), (.int p2), (.int p3), (.int p4), (.int p5), (.int p6)] maxLocals)) t := by
      intro t kt
      refine pre89 t ?_
      show Steps p.tables e below (T86.setTop (mkF m 119 #[.val (.int p1), .val (.int p2), .val (.int p3), .val (.int p4), .val (.int p5), .val (.int p6), .val (.ref b7), .val (.ref b17), .val (.ref b23), .unset, .unset, .unset, .unset] [(.int (7 : Int32)), (.ref b23)])) _
      refine X86.aaload hx (j := (7 : Int32)) (v := (.ref a73)) (by rw [e86]; exact Ar201.1) (State.isArrayOf_alike hZ.alike Ar201.2.1) rfl Ar201.2.2 hin201 hat201 (g := (mkF m 119 #[.val (.int p1), .val (.int p2), .val (.int p3), .val (.int p4), .val (.int p5), .val (.int p6), .val (.ref b7), .val (.ref b17), .val (.ref b23), .unset, .unset, .unset, .unset] [(.int (7 : Int32)), (.ref b23)])) rfl rfl (hb hby at_119) _ ?_
      exact kt
    exact join100 a73 E_78 pre202
  · skip
    subst hq186
    obtain ⟨cl203, Ar203, -, Sz203, -, Hh203, -⟩ := id V86
    have hin203 : ¬ ((8 : Int32) < 0 ∨ cl203.slots.size ≤ ((8 : Int32)).toNatClampNeg) := inb_of Sz203 ⟨by decide +kernel, by decide +kernel⟩
    have hat203 : cl203.slots[((8 : Int32)).toNatClampNeg]? = some (.ref a80) := Has.at Hh203 hin203 rfl
    have pre204 : ∀ t, Steps p.tables e below (T86.setTop (mkF m 120 #[.val (.int p1), .val (.int p2), .val (.int p3), .val (.int p4), .val (.int p5), .val (.int p6), .val (.ref b7), .val (.ref b17), .val (.ref b23), .unset, .unset, .unset, .unset] [(.ref a80)])) t → Steps p.tables e below (s₁.setTop (entryFrame m #[(.int p1), (.int p2), (.int p3), (.int p4), (.int p5), (.int p6)] maxLocals)) t := by
      intro t kt
      refine pre89 t ?_
      show Steps p.tables e below (T86.setTop (mkF m 119 #[.val (.int p1), .val (.int p2), .val (.int p3), .val (.int p4), .val (.int p5), .val (.int p6), .val (.ref b7), .val (.ref b17), .val (.ref b23), .unset, .unset, .unset, .unset] [(.int (8 : Int32)), (.ref b23)])) _
      refine X86.aaload hx (j := (8 : Int32)) (v := (.ref a80)) (by rw [e86]; exact Ar203.1) (State.isArrayOf_alike hZ.alike Ar203.2.1) rfl Ar203.2.2 hin203 hat203 (g := (mkF m 119 #[.val (.int p1), .val (.int p2), .val (.int p3), .val (.int p4), .val (.int p5), .val (.int p6), .val (.ref b7), .val (.ref b17), .val (.ref b23), .unset, .unset, .unset, .unset] [(.int (8 : Int32)), (.ref b23)])) rfl rfl (hb hby at_119) _ ?_
      exact kt
    exact join100 a80 E_85 pre204
set_option maxRecDepth 65536 in
set_option maxHeartbeats 40000000 in
theorem comes_1 {Post : Tables → Env → Array Value → State → Outcome → State → Prop} (hpost : ∀ tb e args s v u, (limb_1_1.after args s (.returned v) u = true ∧ limb_1_2.after args s (.returned v) u = true ∧ True) → FrameEnd s (.returned v) u (Jvm.fieldLocs frame_1_writes args s ++ Jvm.arrayLocs frame_1_arrays args s ++ Jvm.staticLocs frame_1_statics s) 24 128 → Post tb e args s (.returned v) u) :
    ArmFor flags0 classFile x code maxLocals ret World_1 tables_1 room_1 Calls_1 rest_1 Pre_1 Post := by
  intro l hfl _ _ p e ha hc hk s m args below hf hA hF happ hP
  obtain ⟨hcalls, hrest, hpre⟩ := hP
  obtain ⟨-, -, -, hnamed, -, -, -, hat⟩ := (Spec.applies_iff hf).mp happ
  obtain ⟨hg, hn⟩ := and_e (Cond.before_iff.mp (show (Jvm.Cond.and given_1 narrow_1).before args s = true from hpre))
  obtain ⟨h1, hr0⟩ := and_e hg
  obtain ⟨ha0, hr1⟩ := and_e hr0
  obtain ⟨ha1, hr2⟩ := and_e hr1
  obtain ⟨ha2, hr3⟩ := and_e hr2
  obtain ⟨ha3, hr4⟩ := and_e hr3
  obtain ⟨ha4, hr5⟩ := and_e hr4
  obtain ⟨w0, w1, w2, w3, w4, w5, rfl⟩ : ∃ w0 w1 w2 w3 w4 w5 : Value, args = #[w0, w1, w2, w3, w4, w5] := by
    have hs : args.size = 6 := by simpa [Cond.value, given_1] using h1
    obtain ⟨L⟩ := args
    match L, hs with
    | [w0, w1, w2, w3, w4, w5], _ => exact ⟨w0, w1, w2, w3, w4, w5, rfl⟩
  have hwt := fun d (hd : d ∈ tables_1) => atoms_spec (ws := Jvm.Cond.code x code maxLocals ret :: tables_1) hat d (List.mem_cons_of_mem _ hd)
  obtain ⟨hsets, hown0⟩ := atoms_of _ (rest_1_c_eq ▸ (show rest_1_c.before _ s = true from hrest))
  have hw : ∀ d ∈ own_ws, d.before _ s = true := fun d hd => (List.mem_append.mp hd).elim (hwt d) (hsets d)
  have hfit : Fit s := fun {y c} hc i hi => by
    obtain ⟨ha, rfl⟩ := Array.getElem?_eq_some_iff.mp hc
    have q := List.all_eq_true.mp ((Array.all_eq_true_iff_forall_mem.mp hF) _ (Array.getElem_mem ha)) i (List.mem_range.mpr hi)
    simpa [Array.getElem?_eq_getElem hi] using q
  obtain ⟨i0, ei0⟩ := is_v ha0
  obtain rfl : w0 = (.int i0) := Option.some.inj ei0
  obtain ⟨i1, ei1⟩ := is_v ha1
  obtain rfl : w1 = (.int i1) := Option.some.inj ei1
  obtain ⟨i2, ei2⟩ := is_v ha2
  obtain rfl : w2 = (.int i2) := Option.some.inj ei2
  obtain ⟨i3, ei3⟩ := is_v ha3
  obtain rfl : w3 = (.int i3) := Option.some.inj ei3
  obtain ⟨i4, ei4⟩ := is_v ha4
  obtain rfl : w4 = (.int i4) := Option.some.inj ei4
  obtain ⟨i5, ei5⟩ := is_v hr5
  obtain rfl : w5 = (.int i5) := Option.some.inj ei5
  obtain ⟨c1, c2⟩ := and_e hn
  obtain ⟨c3, c4⟩ := and_e c2
  obtain ⟨c5, c6⟩ := and_e c4
  obtain ⟨c7, c8⟩ := and_e c6
  obtain ⟨c9, c10⟩ := and_e c8
  obtain ⟨c11, c12⟩ := and_e c10
  obtain ⟨c13, c14⟩ := and_e c12
  obtain ⟨c15, c16⟩ := and_e c14
  have hs1 := Cond.before_iff.mp (hsets _ (List.mem_of_getElem? (i := 1) rfl))
  have hs2 := Cond.before_iff.mp (hsets _ (List.mem_of_getElem? (i := 2) rfl))
  have hs8 := Cond.before_iff.mp (hsets _ (List.mem_of_getElem? (i := 8) rfl))
  obtain ⟨o1, ev_o1⟩ := exa_v c1
  have S_o1 : Sta s s.heap "com/example/railspan/railspan/board/Colour" "BLUE" "Lcom/example/railspan/railspan/board/Colour;" (.ref o1) := Sta.start ev_o1 (Or.inr ⟨(hw _ (gw 4 rfl)), (hw _ (gw 5 rfl))⟩)
  have E_o1 : Exa s s.heap o1 "com/example/railspan/railspan/board/Colour" := Exa.start ev_o1 c1
  obtain ⟨o2, ev_o2⟩ := exa_v c3
  have S_o2 : Sta s s.heap "com/example/railspan/railspan/board/Colour" "GREEN" "Lcom/example/railspan/railspan/board/Colour;" (.ref o2) := Sta.start ev_o2 (Or.inr ⟨(hw _ (gw 4 rfl)), (hw _ (gw 8 rfl))⟩)
  have E_o2 : Exa s s.heap o2 "com/example/railspan/railspan/board/Colour" := Exa.start ev_o2 c3
  obtain ⟨o3, ev_o3⟩ := exa_v c5
  have S_o3 : Sta s s.heap "com/example/railspan/railspan/board/Colour" "BLACK" "Lcom/example/railspan/railspan/board/Colour;" (.ref o3) := Sta.start ev_o3 (Or.inr ⟨(hw _ (gw 4 rfl)), (hw _ (gw 10 rfl))⟩)
  have E_o3 : Exa s s.heap o3 "com/example/railspan/railspan/board/Colour" := Exa.start ev_o3 c5
  obtain ⟨o4, ev_o4⟩ := exa_v c7
  have S_o4 : Sta s s.heap "com/example/railspan/railspan/board/Colour" "ORANGE" "Lcom/example/railspan/railspan/board/Colour;" (.ref o4) := Sta.start ev_o4 (Or.inr ⟨(hw _ (gw 4 rfl)), (hw _ (gw 12 rfl))⟩)
  have E_o4 : Exa s s.heap o4 "com/example/railspan/railspan/board/Colour" := Exa.start ev_o4 c7
  obtain ⟨o5, ev_o5⟩ := exa_v c9
  have S_o5 : Sta s s.heap "com/example/railspan/railspan/board/Colour" "PURPLE" "Lcom/example/railspan/railspan/board/Colour;" (.ref o5) := Sta.start ev_o5 (Or.inr ⟨(hw _ (gw 4 rfl)), (hw _ (gw 14 rfl))⟩)
  have E_o5 : Exa s s.heap o5 "com/example/railspan/railspan/board/Colour" := Exa.start ev_o5 c9
  obtain ⟨o6, ev_o6⟩ := exa_v c11
  have S_o6 : Sta s s.heap "com/example/railspan/railspan/board/Colour" "RED" "Lcom/example/railspan/railspan/board/Colour;" (.ref o6) := Sta.start ev_o6 (Or.inr ⟨(hw _ (gw 4 rfl)), (hw _ (gw 16 rfl))⟩)
  have E_o6 : Exa s s.heap o6 "com/example/railspan/railspan/board/Colour" := Exa.start ev_o6 c11
  obtain ⟨o7, ev_o7⟩ := exa_v c13
  have S_o7 : Sta s s.heap "com/example/railspan/railspan/board/Colour" "WHITE" "Lcom/example/railspan/railspan/board/Colour;" (.ref o7) := Sta.start ev_o7 (Or.inr ⟨(hw _ (gw 4 rfl)), (hw _ (gw 18 rfl))⟩)
  have E_o7 : Exa s s.heap o7 "com/example/railspan/railspan/board/Colour" := Exa.start ev_o7 c13
  obtain ⟨o8, ev_o8⟩ := exa_v c15
  have S_o8 : Sta s s.heap "com/example/railspan/railspan/board/Colour" "YELLOW" "Lcom/example/railspan/railspan/board/Colour;" (.ref o8) := Sta.start ev_o8 (Or.inr ⟨(hw _ (gw 4 rfl)), (hw _ (gw 20 rfl))⟩)
  have E_o8 : Exa s s.heap o8 "com/example/railspan/railspan/board/Colour" := Exa.start ev_o8 c15
  obtain ⟨o9, ev_o9⟩ := exa_v c16
  have S_o9 : Sta s s.heap "com/example/railspan/railspan/board/Colour" "GREY" "Lcom/example/railspan/railspan/board/Colour;" (.ref o9) := Sta.start ev_o9 (Or.inr ⟨(hw _ (gw 4 rfl)), (hw _ (gw 22 rfl))⟩)
  have E_o9 : Exa s s.heap o9 "com/example/railspan/railspan/board/Colour" := Exa.start ev_o9 c16
  obtain ⟨n1, ev_n1⟩ := is_v hs1
  have S_n1 : Sta s s.heap "java/lang/String" "COMPACT_STRINGS" "Z" (.int n1) := Sta.start ev_n1 (Or.inl (hw _ (gw 84 rfl)))
  have cn17 : ¬ (n1 = (0 : Int32)) := gotF (Cond.eq_ints ev_n1 (Term.int_eval (0))) (not_v hs2)
  obtain ⟨r2, ev_r2, ir_r2⟩ := isR_v hs8
  have S_r2 : Sta s s.heap "jdk/internal/util/Preconditions" "SIOOBE_FORMATTER" "Ljava/util/function/BiFunction;" r2 := Sta.start ev_r2 (Or.inl (hw _ (gw 91 rfl)))
  obtain ⟨n, o, h1, h2, h3, _, L, rfl, ⟨rfl, N⟩, hq⟩ := rm0 l s _ hw tables_1 i0 i1 i2 i3 i4 i5 o1 o2 o3 o4 o5 o6 o7 o8 o9 n1 s.heap s.heap.size (Old.start s) S_o1 E_o1 S_o2 E_o2 S_o3 E_o3 S_o4 E_o4 S_o5 E_o5 S_o6 E_o6 S_o7 E_o7 S_o8 E_o8 S_o9 E_o9 S_n1 cn17 p e ha hc hk s m _ below hf ((Spec.applies_iff_loose hf).mp happ).1 ⟨rfl, State.Warmed39.refl s, rfl⟩ trivial
  refine ⟨n, _, h1, h2, h3, hpost _ _ _ _ _ _ ⟨Cond.after_iff.mpr rfl, Cond.after_iff.mpr (eq_i res_at (Term.int_eval (1)) rfl), trivial⟩ ⟨hq.1, hq.2.1, (hq.2.2.sift fun y hy => Or.inr (N y hy)).mono (by decide) (by decide)⟩⟩
theorem main_1_1 : Claimed_1_1 := comes_1 fun _ _ _ _ _ _ h hF => ⟨h.1, hF⟩
theorem main_1_2 : Claimed_1_2 := comes_1 fun _ _ _ _ _ _ h hF => ⟨h.2.1, hF⟩
end Jvm.Pilot.@@N@@
namespace Jvm.Pilot.@@N@@
open Jvm Jvm.ClassFile Sem Op Lib Jvm.Free Jvm.Stand Jvm.Pilot.@@N@@.Jvm.D
/-! MADE BY PROGRAM (witnessworld.py) out of the Statement's table words and the real class files: 24 classes; the members and pool entries that the words name. The judged class is class 1, her method 1. -/
namespace start1
open Jvm.ClassFile
def u (s : String) : CpInfo := .utf8 (stringToUtf16 s)
/-- a pool by its gaps: so many unusable entries, then the entry; so many at the end -/
def gap : Nat → List CpInfo → List CpInfo
  | 0, r => r
  | n + 1, r => .unusable :: gap n r
def poolList (es : List (Nat × CpInfo)) (last : Nat) : List CpInfo := es.foldr (fun e r => gap e.1 (e.2 :: r)) (gap last [])
def pool (es : List (Nat × CpInfo)) (last : Nat) : Array CpInfo := ⟨poolList es last⟩
def fileOf (pool : Array CpInfo) (this : Nat) (attrs : Array Attribute := #[]) (ms : Array MethodInfo := #[]) (fl : Nat := 33) (sup : Nat := 0) (ifs : Array Nat := #[]) (fds : Array FieldInfo := #[]) : ClassFile where
  minorVersion := 0
  majorVersion := 65
  constantPool := pool
  accessFlags := fl
  thisClass := this
  superClass := sup
  interfaces := ifs
  fields := fds
  methods := ms
  attributes := attrs
def plain (name : String) (sup : Option ClassId) : Class where
  name := name
  kind := .ordinary
  loader := none
  accessFlags := 33
  super := sup
  interfaces := #[]
  cf := none
  fields := #[]
  methods := #[]
  instanceTypes := #[]
  staticTypes := #[]
  resolved := #[]
  callSites := []
  init := .initialized
  statics := none
  mirror := none

def pool0 : Array CpInfo := pool [(5, u "<init>"), (0, u "()V"), (1, .class_ 10), (1, u "java/lang/Object")] 113

def k0c0 : Code := { maxStack := 0, maxLocals := 1, code := object_method_1_code, exceptionTable := #[], attributes := #[] }
def k0m0 : Method := { name := "<init>", desc := "()V", sig := { parameters := [], returnType := none }, accessFlags := 1, code := some k0c0 }
/-- java/lang/Object -/
def k0 : Class := { plain "java/lang/Object" none with
  accessFlags := 33
  interfaces := #[]
  cf := some (fileOf pool0 8 #[] #[{ accessFlags := 1, nameIndex := 5, descriptorIndex := 6, attributes := #[] }] 33 0 #[] #[])
  fields := #[]
  methods := #[k0m0]
  instanceTypes := #[]
  staticTypes := #[]
  resolved := Array.replicate 124 none
  statics := none }

def pool1 : Array CpInfo := pool [(2, .class_ 4), (1, u "java/lang/Object"), (0, u "<init>"), (0, u "()V"), (0, .class_ 8), (0, u "com/example/railspan/railspan/board/Colour"), (0, .fieldref 7 10), (0, .nameAndType 11 12), (0, u "BLUE"), (0, u "Lcom/example/railspan/railspan/board/Colour;"), (0, .fieldref 7 14), (0, .nameAndType 15 12), (0, u "GREEN"), (0, .fieldref 7 17), (0, .nameAndType 18 12), (0, u "BLACK"), (0, .fieldref 7 20), (0, .nameAndType 21 12), (0, u "ORANGE"), (0, .fieldref 7 23), (0, .nameAndType 24 12), (0, u "PURPLE"), (0, .fieldref 7 26), (0, .nameAndType 27 12), (0, u "RED"), (0, .fieldref 7 29), (0, .nameAndType 30 12), (0, u "WHITE"), (0, .fieldref 7 32), (0, .nameAndType 33 12), (0, u "YELLOW"), (0, .fieldref 7 35), (0, .nameAndType 36 12), (0, u "GREY"), (0, .integer 2147483647), (0, .class_ 39), (0, u "com/example/railspan/railspan/board/Route"), (0, .class_ 41), (0, u "java/lang/String"), (0, .methodref 40 43), (0, .nameAndType 5 44), (0, u "([C)V"), (0, .methodref 38 46), (0, .nameAndType 5 47), (0, u "(Ljava/lang/String;Ljava/lang/String;ILcom/example/railspan/railspan/board/Colour;ZII)V"), (0, .methodref 38 49), (0, .nameAndType 50 51), (0, u "isFerry"), (0, u "()Z"), (0, .class_ 53), (0, u "com/example/railspan/railspan/board/RouteIsFerryPinLaw"), (2, u "law"), (0, u "(IIIIII)Z")] 7

def k1m0 : Method := { name := "<init>", desc := "()V", sig := { parameters := [], returnType := none }, accessFlags := 1, code := none }
def k1c1 : Code := { maxStack := 9, maxLocals := 13, code := code, exceptionTable := #[], attributes := #[] }
def k1m1 : Method := { name := "law", desc := "(IIIIII)Z", sig := { parameters := [.int, .int, .int, .int, .int, .int], returnType := some .boolean }, accessFlags := 9, code := some k1c1 }
/-- com/example/railspan/railspan/board/RouteIsFerryPinLaw -/
def k1 : Class := { plain "com/example/railspan/railspan/board/RouteIsFerryPinLaw" (some 0) with
  accessFlags := 49
  interfaces := #[]
  cf := some (fileOf pool1 52 #[] #[{ accessFlags := 1, nameIndex := 5, descriptorIndex := 6, attributes := #[] }, { accessFlags := 9, nameIndex := 56, descriptorIndex := 57, attributes := #[] }] 49 2 #[] #[])
  fields := #[]
  methods := #[k1m0, k1m1]
  instanceTypes := #[]
  staticTypes := #[]
  resolved := Array.replicate 65 none
  statics := none }

def pool2 : Array CpInfo := pool [(1, .class_ 2), (0, u "java/lang/constant/Constable"), (0, .class_ 4), (0, u "java/lang/Object")] 6

/-- java/lang/constant/Constable -/
def k2 : Class := { plain "java/lang/constant/Constable" (some 0) with
  accessFlags := 1537
  interfaces := #[]
  cf := some (fileOf pool2 1 #[] #[] 1537 3 #[] #[])
  fields := #[]
  methods := #[]
  instanceTypes := #[]
  staticTypes := #[]
  resolved := Array.replicate 11 none
  statics := none }

def pool3 : Array CpInfo := pool [(1, .class_ 2), (0, u "java/lang/Comparable"), (0, .class_ 4), (0, u "java/lang/Object")] 7

/-- java/lang/Comparable -/
def k3 : Class := { plain "java/lang/Comparable" (some 0) with
  accessFlags := 1537
  interfaces := #[]
  cf := some (fileOf pool3 1 #[] #[] 1537 3 #[] #[])
  fields := #[]
  methods := #[]
  instanceTypes := #[]
  staticTypes := #[]
  resolved := Array.replicate 12 none
  statics := none }

def pool4 : Array CpInfo := pool [(1, .class_ 2), (0, u "java/io/Serializable"), (0, .class_ 4), (0, u "java/lang/Object")] 2

/-- java/io/Serializable -/
def k4 : Class := { plain "java/io/Serializable" (some 0) with
  accessFlags := 1537
  interfaces := #[]
  cf := some (fileOf pool4 1 #[] #[] 1537 3 #[] #[])
  fields := #[]
  methods := #[]
  instanceTypes := #[]
  staticTypes := #[]
  resolved := Array.replicate 7 none
  statics := none }

def pool5 : Array CpInfo := pool [(2, .class_ 4), (1, u "java/lang/Enum"), (0, u "name"), (0, u "Ljava/lang/String;"), (2, u "ordinal"), (0, u "I"), (1, .class_ 14), (1, u "java/lang/Object"), (4, u "hash"), (86, .class_ 108), (1, u "java/lang/Enum$EnumDesc"), (2, .class_ 112), (0, u "java/lang/constant/Constable"), (0, .class_ 114), (0, u "java/lang/Comparable"), (0, .class_ 116), (0, u "java/io/Serializable")] 87

/-- java/lang/Enum -/
def k5 : Class := { plain "java/lang/Enum" (some 0) with
  accessFlags := 1057
  interfaces := #[2, 3, 4]
  cf := some (fileOf pool5 2 #[.nestMembers #[106]] #[] 1057 12 #[111, 113, 115] #[{ accessFlags := 18, nameIndex := 5, descriptorIndex := 6, attributes := #[] }, { accessFlags := 18, nameIndex := 9, descriptorIndex := 10, attributes := #[] }, { accessFlags := 2, nameIndex := 19, descriptorIndex := 10, attributes := #[] }])
  fields := #[{ name := "name", type := (.object "java/lang/String"), accessFlags := 18, slot := 0, constantValue := 0 }, { name := "ordinal", type := .int, accessFlags := 18, slot := 1, constantValue := 0 }, { name := "hash", type := .int, accessFlags := 2, slot := 2, constantValue := 0 }]
  methods := #[]
  instanceTypes := #[(.object "java/lang/String"), .int, .int]
  staticTypes := #[]
  resolved := Array.replicate 204 none
  statics := none }

def pool6 : Array CpInfo := pool [(1, .class_ 2), (0, u "com/example/railspan/railspan/board/Colour"), (2, u "BLUE"), (0, u "Lcom/example/railspan/railspan/board/Colour;"), (2, u "GREEN"), (2, u "BLACK"), (2, u "ORANGE"), (2, u "PURPLE"), (2, u "RED"), (2, u "WHITE"), (2, u "YELLOW"), (2, u "GREY"), (2, u "$VALUES"), (0, u "[Lcom/example/railspan/railspan/board/Colour;"), (6, .class_ 43), (1, u "java/lang/Enum"), (8, u "letter"), (0, u "C")] 69

/-- com/example/railspan/railspan/board/Colour -/
def k6 : Class := { plain "com/example/railspan/railspan/board/Colour" (some 5) with
  accessFlags := 16433
  interfaces := #[]
  cf := some (fileOf pool6 1 #[] #[] 16433 41 #[] #[{ accessFlags := 16409, nameIndex := 5, descriptorIndex := 6, attributes := #[] }, { accessFlags := 16409, nameIndex := 9, descriptorIndex := 6, attributes := #[] }, { accessFlags := 16409, nameIndex := 12, descriptorIndex := 6, attributes := #[] }, { accessFlags := 16409, nameIndex := 15, descriptorIndex := 6, attributes := #[] }, { accessFlags := 16409, nameIndex := 18, descriptorIndex := 6, attributes := #[] }, { accessFlags := 16409, nameIndex := 21, descriptorIndex := 6, attributes := #[] }, { accessFlags := 16409, nameIndex := 24, descriptorIndex := 6, attributes := #[] }, { accessFlags := 16409, nameIndex := 27, descriptorIndex := 6, attributes := #[] }, { accessFlags := 16409, nameIndex := 30, descriptorIndex := 6, attributes := #[] }, { accessFlags := 18, nameIndex := 52, descriptorIndex := 53, attributes := #[] }, { accessFlags := 4122, nameIndex := 33, descriptorIndex := 34, attributes := #[] }])
  fields := #[{ name := "BLUE", type := (.object "com/example/railspan/railspan/board/Colour"), accessFlags := 16409, slot := 0, constantValue := 0 }, { name := "GREEN", type := (.object "com/example/railspan/railspan/board/Colour"), accessFlags := 16409, slot := 1, constantValue := 0 }, { name := "BLACK", type := (.object "com/example/railspan/railspan/board/Colour"), accessFlags := 16409, slot := 2, constantValue := 0 }, { name := "ORANGE", type := (.object "com/example/railspan/railspan/board/Colour"), accessFlags := 16409, slot := 3, constantValue := 0 }, { name := "PURPLE", type := (.object "com/example/railspan/railspan/board/Colour"), accessFlags := 16409, slot := 4, constantValue := 0 }, { name := "RED", type := (.object "com/example/railspan/railspan/board/Colour"), accessFlags := 16409, slot := 5, constantValue := 0 }, { name := "WHITE", type := (.object "com/example/railspan/railspan/board/Colour"), accessFlags := 16409, slot := 6, constantValue := 0 }, { name := "YELLOW", type := (.object "com/example/railspan/railspan/board/Colour"), accessFlags := 16409, slot := 7, constantValue := 0 }, { name := "GREY", type := (.object "com/example/railspan/railspan/board/Colour"), accessFlags := 16409, slot := 8, constantValue := 0 }, { name := "letter", type := .char, accessFlags := 18, slot := 3, constantValue := 0 }, { name := "$VALUES", type := (.array (.object "com/example/railspan/railspan/board/Colour")), accessFlags := 4122, slot := 9, constantValue := 0 }]
  methods := #[]
  instanceTypes := #[(.object "java/lang/String"), .int, .int, .char]
  staticTypes := #[(.object "com/example/railspan/railspan/board/Colour"), (.object "com/example/railspan/railspan/board/Colour"), (.object "com/example/railspan/railspan/board/Colour"), (.object "com/example/railspan/railspan/board/Colour"), (.object "com/example/railspan/railspan/board/Colour"), (.object "com/example/railspan/railspan/board/Colour"), (.object "com/example/railspan/railspan/board/Colour"), (.object "com/example/railspan/railspan/board/Colour"), (.object "com/example/railspan/railspan/board/Colour"), (.array (.object "com/example/railspan/railspan/board/Colour"))]
  resolved := Array.replicate 123 none
  statics := some 0 }

def pool7 : Array CpInfo := pool [(1, .methodref 2 3), (0, .class_ 4), (0, .nameAndType 5 6), (0, u "java/lang/Object"), (0, u "<init>"), (0, u "()V"), (0, .class_ 8), (0, u "java/lang/Record")] 13

def k7c0 : Code := { maxStack := 1, maxLocals := 1, code := jdk_30_method_1_code, exceptionTable := #[], attributes := #[] }
def k7m0 : Method := { name := "<init>", desc := "()V", sig := { parameters := [], returnType := none }, accessFlags := 4, code := some k7c0 }
/-- java/lang/Record -/
def k7 : Class := { plain "java/lang/Record" (some 0) with
  accessFlags := 1057
  interfaces := #[]
  cf := some (fileOf pool7 7 #[] #[{ accessFlags := 4, nameIndex := 5, descriptorIndex := 6, attributes := #[] }] 1057 2 #[] #[])
  fields := #[]
  methods := #[k7m0]
  instanceTypes := #[]
  staticTypes := #[]
  resolved := Array.replicate 22 none
  statics := none }

def pool8 : Array CpInfo := pool [(1, .methodref 2 3), (0, .class_ 4), (0, .nameAndType 5 6), (0, u "java/lang/Record"), (0, u "<init>"), (0, u "()V"), (0, .fieldref 8 9), (0, .class_ 10), (0, .nameAndType 11 12), (0, u "com/example/railspan/railspan/board/Route"), (0, u "cityA"), (0, u "Ljava/lang/String;"), (0, .fieldref 8 14), (0, .nameAndType 15 12), (0, u "cityB"), (0, .fieldref 8 17), (0, .nameAndType 18 19), (0, u "length"), (0, u "I"), (0, .fieldref 8 21), (0, .nameAndType 22 23), (0, u "colour"), (0, u "Lcom/example/railspan/railspan/board/Colour;"), (0, .fieldref 8 25), (0, .nameAndType 26 27), (0, u "tunnel"), (0, u "Z"), (0, .fieldref 8 29), (0, .nameAndType 30 19), (0, u "locomotives"), (0, .fieldref 8 32), (0, .nameAndType 33 19), (0, u "track"), (2, u "POINTS_BY_LENGTH"), (0, u "Ljava/util/NavigableMap;"), (47, u "(Ljava/lang/String;Ljava/lang/String;ILcom/example/railspan/railspan/board/Colour;ZII)V"), (4, u "isFerry"), (0, u "()Z")] 31

def k8c0 : Code := { maxStack := 2, maxLocals := 8, code := prog_7_method_1_code, exceptionTable := #[], attributes := #[] }
def k8m0 : Method := { name := "<init>", desc := "(Ljava/lang/String;Ljava/lang/String;ILcom/example/railspan/railspan/board/Colour;ZII)V", sig := { parameters := [(.object "java/lang/String"), (.object "java/lang/String"), .int, (.object "com/example/railspan/railspan/board/Colour"), .boolean, .int, .int], returnType := none }, accessFlags := 1, code := some k8c0 }
def k8c1 : Code := { maxStack := 1, maxLocals := 1, code := prog_7_method_3_code, exceptionTable := #[], attributes := #[] }
def k8m1 : Method := { name := "isFerry", desc := "()Z", sig := { parameters := [], returnType := some .boolean }, accessFlags := 1, code := some k8c1 }
/-- com/example/railspan/railspan/board/Route -/
def k8 : Class := { plain "com/example/railspan/railspan/board/Route" (some 7) with
  accessFlags := 49
  interfaces := #[]
  cf := some (fileOf pool8 8 #[] #[{ accessFlags := 1, nameIndex := 5, descriptorIndex := 85, attributes := #[] }, { accessFlags := 1, nameIndex := 90, descriptorIndex := 91, attributes := #[] }] 49 2 #[] #[{ accessFlags := 18, nameIndex := 11, descriptorIndex := 12, attributes := #[] }, { accessFlags := 18, nameIndex := 15, descriptorIndex := 12, attributes := #[] }, { accessFlags := 18, nameIndex := 18, descriptorIndex := 19, attributes := #[] }, { accessFlags := 18, nameIndex := 22, descriptorIndex := 23, attributes := #[] }, { accessFlags := 18, nameIndex := 26, descriptorIndex := 27, attributes := #[] }, { accessFlags := 18, nameIndex := 30, descriptorIndex := 19, attributes := #[] }, { accessFlags := 18, nameIndex := 33, descriptorIndex := 19, attributes := #[] }, { accessFlags := 24, nameIndex := 36, descriptorIndex := 37, attributes := #[] }])
  fields := #[{ name := "cityA", type := (.object "java/lang/String"), accessFlags := 18, slot := 0, constantValue := 0 }, { name := "cityB", type := (.object "java/lang/String"), accessFlags := 18, slot := 1, constantValue := 0 }, { name := "length", type := .int, accessFlags := 18, slot := 2, constantValue := 0 }, { name := "colour", type := (.object "com/example/railspan/railspan/board/Colour"), accessFlags := 18, slot := 3, constantValue := 0 }, { name := "tunnel", type := .boolean, accessFlags := 18, slot := 4, constantValue := 0 }, { name := "locomotives", type := .int, accessFlags := 18, slot := 5, constantValue := 0 }, { name := "track", type := .int, accessFlags := 18, slot := 6, constantValue := 0 }, { name := "POINTS_BY_LENGTH", type := (.object "java/util/NavigableMap"), accessFlags := 24, slot := 0, constantValue := 0 }]
  methods := #[k8m0, k8m1]
  instanceTypes := #[(.object "java/lang/String"), (.object "java/lang/String"), .int, (.object "com/example/railspan/railspan/board/Colour"), .boolean, .int, .int]
  staticTypes := #[(.object "java/util/NavigableMap")]
  resolved := Array.replicate 123 none
  statics := none }

def pool9 : Array CpInfo := pool [(2, .class_ 4), (1, u "java/lang/CharSequence"), (42, .class_ 48), (0, u "java/lang/CharSequence$1CodePointIterator"), (10, .class_ 60), (0, u "java/lang/CharSequence$1CharIterator"), (5, .class_ 67), (0, u "java/lang/Object")] 63

/-- java/lang/CharSequence -/
def k9 : Class := { plain "java/lang/CharSequence" (some 0) with
  accessFlags := 1537
  interfaces := #[]
  cf := some (fileOf pool9 2 #[.nestMembers #[47, 59]] #[] 1537 66 #[] #[])
  fields := #[]
  methods := #[]
  instanceTypes := #[]
  staticTypes := #[]
  resolved := Array.replicate 131 none
  statics := none }

def pool10 : Array CpInfo := pool [(1, .class_ 2), (0, u "java/lang/constant/ConstantDesc"), (0, .class_ 4), (0, u "java/lang/Object")] 32

/-- java/lang/constant/ConstantDesc -/
def k10 : Class := { plain "java/lang/constant/ConstantDesc" (some 0) with
  accessFlags := 1537
  interfaces := #[]
  cf := some (fileOf pool10 1 #[] #[] 1537 3 #[] #[])
  fields := #[]
  methods := #[]
  instanceTypes := #[]
  staticTypes := #[]
  resolved := Array.replicate 37 none
  statics := none }

def pool11 : Array CpInfo := pool [(1, .methodref 2 3), (0, .class_ 4), (0, .nameAndType 5 6), (0, u "java/lang/Object"), (0, u "<init>"), (0, u "()V"), (2, .fieldref 10 11), (0, .class_ 12), (0, .nameAndType 13 14), (0, u "java/lang/String"), (0, u "value"), (0, u "[B"), (0, .fieldref 10 16), (0, .nameAndType 17 18), (0, u "coder"), (0, u "B"), (2, u "hash"), (0, u "I"), (2, u "hashIsZero"), (0, u "Z"), (0, .methodref 10 28), (0, .nameAndType 5 29), (0, u "([CIILjava/lang/Void;)V"), (8, .fieldref 10 39), (0, .nameAndType 40 26), (0, u "COMPACT_STRINGS"), (1, .class_ 44), (1, u "java/lang/StringUTF16"), (0, u "compress"), (1, .methodref 42 48), (0, .nameAndType 49 50), (0, u "coderFromArrayLen"), (0, u "([BI)B"), (126, .methodref 42 178), (0, .nameAndType 45 179), (0, u "([CII)[B"), (395, .class_ 576), (0, u "java/lang/CharSequence"), (22, u "CASE_INSENSITIVE_ORDER"), (0, u "Ljava/util/Comparator;"), (409, u "([C)V"), (90, u "serialPersistentFields"), (0, u "[Ljava/io/ObjectStreamField;"), (0, .class_ 1104), (0, u "java/lang/String$CaseInsensitiveComparator"), (1, .class_ 1107), (0, u "java/io/Serializable"), (0, .class_ 1109), (0, u "java/lang/Comparable"), (0, .class_ 1111), (0, u "java/lang/constant/Constable"), (0, .class_ 1113), (0, u "java/lang/constant/ConstantDesc"), (2, u "serialVersionUID"), (0, u "J"), (3, u "REPL"), (0, u "C"), (2, u "LATIN1"), (1, u "UTF16")] 323

def k11m0 : Method := { name := "<init>", desc := "()V", sig := { parameters := [], returnType := none }, accessFlags := 1, code := none }
def k11c1 : Code := { maxStack := 5, maxLocals := 2, code := jdk_42_method_3_code, exceptionTable := #[], attributes := #[] }
def k11m1 : Method := { name := "<init>", desc := "([C)V", sig := { parameters := [(.array .char)], returnType := none }, accessFlags := 1, code := some k11c1 }
def k11c2 : Code := { maxStack := 4, maxLocals := 6, code := jdk_42_method_149_code, exceptionTable := #[], attributes := #[] }
def k11m2 : Method := { name := "<init>", desc := "([CIILjava/lang/Void;)V", sig := { parameters := [(.array .char), .int, .int, (.object "java/lang/Void")], returnType := none }, accessFlags := 2, code := some k11c2 }
/-- java/lang/String -/
def k11 : Class := { plain "java/lang/String" (some 0) with
  accessFlags := 49
  interfaces := #[4, 3, 9, 2, 10]
  cf := some (fileOf pool11 10 #[.nestMembers #[1103]] #[{ accessFlags := 1, nameIndex := 5, descriptorIndex := 6, attributes := #[] }, { accessFlags := 1, nameIndex := 5, descriptorIndex := 1010, attributes := #[] }, { accessFlags := 2, nameIndex := 5, descriptorIndex := 29, attributes := #[] }] 49 2 #[1106, 1108, 575, 1110, 1112] #[{ accessFlags := 18, nameIndex := 13, descriptorIndex := 14, attributes := #[] }, { accessFlags := 18, nameIndex := 17, descriptorIndex := 18, attributes := #[] }, { accessFlags := 2, nameIndex := 21, descriptorIndex := 22, attributes := #[] }, { accessFlags := 2, nameIndex := 25, descriptorIndex := 26, attributes := #[] }, { accessFlags := 26, nameIndex := 1116, descriptorIndex := 1117, attributes := #[] }, { accessFlags := 24, nameIndex := 40, descriptorIndex := 26, attributes := #[] }, { accessFlags := 26, nameIndex := 1101, descriptorIndex := 1102, attributes := #[] }, { accessFlags := 26, nameIndex := 1121, descriptorIndex := 1122, attributes := #[] }, { accessFlags := 25, nameIndex := 599, descriptorIndex := 600, attributes := #[] }, { accessFlags := 24, nameIndex := 1125, descriptorIndex := 18, attributes := #[] }, { accessFlags := 24, nameIndex := 1127, descriptorIndex := 18, attributes := #[] }])
  fields := #[{ name := "value", type := (.array .byte), accessFlags := 18, slot := 0, constantValue := 0 }, { name := "coder", type := .byte, accessFlags := 18, slot := 1, constantValue := 0 }, { name := "hash", type := .int, accessFlags := 2, slot := 2, constantValue := 0 }, { name := "hashIsZero", type := .boolean, accessFlags := 2, slot := 3, constantValue := 0 }, { name := "serialVersionUID", type := .long, accessFlags := 26, slot := 0, constantValue := 0 }, { name := "COMPACT_STRINGS", type := .boolean, accessFlags := 24, slot := 1, constantValue := 0 }, { name := "serialPersistentFields", type := (.array (.object "java/io/ObjectStreamField")), accessFlags := 26, slot := 2, constantValue := 0 }, { name := "REPL", type := .char, accessFlags := 26, slot := 3, constantValue := 0 }, { name := "CASE_INSENSITIVE_ORDER", type := (.object "java/util/Comparator"), accessFlags := 25, slot := 4, constantValue := 0 }, { name := "LATIN1", type := .byte, accessFlags := 24, slot := 5, constantValue := 0 }, { name := "UTF16", type := .byte, accessFlags := 24, slot := 6, constantValue := 0 }]
  methods := #[k11m0, k11m1, k11m2]
  instanceTypes := #[(.array .byte), .byte, .int, .boolean]
  staticTypes := #[.long, .boolean, (.array (.object "java/io/ObjectStreamField")), .char, (.object "java/util/Comparator"), .byte, .byte]
  resolved := Array.replicate 1451 none
  statics := some 1 }

def pool12 : Array CpInfo := pool [(6, .class_ 8), (1, u "java/lang/Object"), (0, u "<init>"), (0, u "()V"), (1, .class_ 14), (1, u "java/lang/StringUTF16"), (31, u "$assertionsDisabled"), (0, u "Z"), (13, u "HI_BYTE_SHIFT"), (0, u "I"), (2, u "LO_BYTE_SHIFT"), (49, .methodref 12 116), (0, .nameAndType 117 118), (0, u "compress"), (0, u "([CI[BII)I"), (3, u "([CII)[B"), (138, u "coderFromArrayLen"), (0, u "([BI)B"), (106, .class_ 371), (1, u "java/lang/StringUTF16$LinesSpliterator"), (58, u "MAX_LENGTH"), (196, .class_ 628), (0, u "java/lang/StringUTF16$CodePointsSpliterator"), (0, .class_ 630), (0, u "java/lang/StringUTF16$CharsSpliterator")] 4

def k12m0 : Method := { name := "<init>", desc := "()V", sig := { parameters := [], returnType := none }, accessFlags := 0, code := none }
def k12c1 : Code := { maxStack := 2, maxLocals := 2, code := jdk_52_method_15_code, exceptionTable := #[], attributes := #[] }
def k12m1 : Method := { name := "coderFromArrayLen", desc := "([BI)B", sig := { parameters := [(.array .byte), .int], returnType := some .byte }, accessFlags := 8, code := some k12c1 }
def k12c2 : Code := { maxStack := 5, maxLocals := 6, code := jdk_52_method_16_code, exceptionTable := #[], attributes := #[] }
def k12m2 : Method := { name := "compress", desc := "([CII)[B", sig := { parameters := [(.array .char), .int, .int], returnType := some (.array .byte) }, accessFlags := 9, code := some k12c2 }
def k12c3 : Code := { maxStack := 3, maxLocals := 7, code := jdk_52_method_21_code, exceptionTable := #[], attributes := #[] }
def k12m3 : Method := { name := "compress", desc := "([CI[BII)I", sig := { parameters := [(.array .char), .int, (.array .byte), .int, .int], returnType := some .int }, accessFlags := 9, code := some k12c3 }
/-- java/lang/StringUTF16 -/
def k12 : Class := { plain "java/lang/StringUTF16" (some 0) with
  accessFlags := 48
  interfaces := #[]
  cf := some (fileOf pool12 12 #[.nestMembers #[627, 629, 369]] #[{ accessFlags := 0, nameIndex := 9, descriptorIndex := 10, attributes := #[] }, { accessFlags := 8, nameIndex := 261, descriptorIndex := 262, attributes := #[] }, { accessFlags := 9, nameIndex := 117, descriptorIndex := 122, attributes := #[] }, { accessFlags := 9, nameIndex := 117, descriptorIndex := 118, attributes := #[] }] 48 6 #[] #[{ accessFlags := 26, nameIndex := 61, descriptorIndex := 62, attributes := #[] }, { accessFlags := 26, nameIndex := 65, descriptorIndex := 62, attributes := #[] }, { accessFlags := 24, nameIndex := 430, descriptorIndex := 62, attributes := #[] }, { accessFlags := 4120, nameIndex := 46, descriptorIndex := 47, attributes := #[] }])
  fields := #[{ name := "HI_BYTE_SHIFT", type := .int, accessFlags := 26, slot := 0, constantValue := 0 }, { name := "LO_BYTE_SHIFT", type := .int, accessFlags := 26, slot := 1, constantValue := 0 }, { name := "MAX_LENGTH", type := .int, accessFlags := 24, slot := 2, constantValue := 0 }, { name := "$assertionsDisabled", type := .boolean, accessFlags := 4120, slot := 3, constantValue := 0 }]
  methods := #[k12m0, k12m1, k12m2, k12m3]
  instanceTypes := #[]
  staticTypes := #[.int, .int, .int, .boolean]
  resolved := Array.replicate 635 none
  statics := none }

def pool13 : Array CpInfo := pool [(4, .class_ 6), (1, u "java/lang/Object"), (0, u "<init>"), (0, u "()V"), (5, .class_ 16), (1, u "java/lang/StringLatin1"), (104, u "$assertionsDisabled"), (0, u "Z"), (98, .class_ 223), (1, u "java/lang/StringLatin1$LinesSpliterator"), (166, .class_ 391), (0, u "java/lang/StringLatin1$CharsSpliterator")] 3

def k13m0 : Method := { name := "<init>", desc := "()V", sig := { parameters := [], returnType := none }, accessFlags := 0, code := none }
/-- java/lang/StringLatin1 -/
def k13 : Class := { plain "java/lang/StringLatin1" (some 0) with
  accessFlags := 48
  interfaces := #[]
  cf := some (fileOf pool13 14 #[.nestMembers #[390, 221]] #[{ accessFlags := 0, nameIndex := 7, descriptorIndex := 8, attributes := #[] }] 48 4 #[] #[{ accessFlags := 4120, nameIndex := 121, descriptorIndex := 122, attributes := #[] }])
  fields := #[{ name := "$assertionsDisabled", type := .boolean, accessFlags := 4120, slot := 0, constantValue := 0 }]
  methods := #[k13m0]
  instanceTypes := #[]
  staticTypes := #[.boolean]
  resolved := Array.replicate 395 none
  statics := none }

def pool14 : Array CpInfo := pool [(2, .class_ 4), (1, u "java/lang/Object"), (0, u "<init>"), (0, u "()V"), (17, .class_ 26), (1, u "jdk/internal/util/Preconditions"), (28, .class_ 56), (0, u "jdk/internal/util/Preconditions$4"), (57, .class_ 115), (0, u "jdk/internal/util/Preconditions$1"), (7, u "SIOOBE_FORMATTER"), (0, u "Ljava/util/function/BiFunction;"), (0, .class_ 126), (0, u "jdk/internal/util/Preconditions$2"), (3, u "AIOOBE_FORMATTER"), (0, .class_ 132), (0, u "jdk/internal/util/Preconditions$3"), (3, u "IOOBE_FORMATTER")] 57

def k14m0 : Method := { name := "<init>", desc := "()V", sig := { parameters := [], returnType := none }, accessFlags := 1, code := none }
/-- jdk/internal/util/Preconditions -/
def k14 : Class := { plain "jdk/internal/util/Preconditions" (some 0) with
  accessFlags := 33
  interfaces := #[]
  cf := some (fileOf pool14 24 #[.nestMembers #[55, 131, 125, 114]] #[{ accessFlags := 1, nameIndex := 5, descriptorIndex := 6, attributes := #[] }] 33 2 #[] #[{ accessFlags := 25, nameIndex := 123, descriptorIndex := 124, attributes := #[] }, { accessFlags := 25, nameIndex := 130, descriptorIndex := 124, attributes := #[] }, { accessFlags := 25, nameIndex := 136, descriptorIndex := 124, attributes := #[] }])
  fields := #[{ name := "SIOOBE_FORMATTER", type := (.object "java/util/function/BiFunction"), accessFlags := 25, slot := 0, constantValue := 0 }, { name := "AIOOBE_FORMATTER", type := (.object "java/util/function/BiFunction"), accessFlags := 25, slot := 1, constantValue := 0 }, { name := "IOOBE_FORMATTER", type := (.object "java/util/function/BiFunction"), accessFlags := 25, slot := 2, constantValue := 0 }]
  methods := #[k14m0]
  instanceTypes := #[]
  staticTypes := #[(.object "java/util/function/BiFunction"), (.object "java/util/function/BiFunction"), (.object "java/util/function/BiFunction")]
  resolved := Array.replicate 194 none
  statics := some 2 }

def pool15 : Array CpInfo := pool [(9, u "<init>"), (6, .class_ 18), (1, u "java/lang/Object"), (0, u "()V"), (1, .class_ 23), (1, u "jdk/internal/util/ArraysSupport"), (0, u "LOG2_ARRAY_LONG_INDEX_SCALE"), (0, u "I"), (2, u "U"), (0, u "Ljdk/internal/misc/Unsafe;"), (8, u "BIG_ENDIAN"), (0, u "Z"), (8, u "LOG2_BYTE_BIT_SIZE"), (4, u "LOG2_ARRAY_INT_INDEX_SCALE"), (54, u "JLA"), (0, u "Ljdk/internal/access/JavaLangAccess;"), (11, u "LOG2_ARRAY_BOOLEAN_INDEX_SCALE"), (9, u "LOG2_ARRAY_BYTE_INDEX_SCALE"), (5, u "LOG2_ARRAY_CHAR_INDEX_SCALE"), (5, u "LOG2_ARRAY_SHORT_INDEX_SCALE"), (18, u "LOG2_ARRAY_FLOAT_INDEX_SCALE"), (24, u "LOG2_ARRAY_DOUBLE_INDEX_SCALE"), (89, u "T_BOOLEAN"), (2, u "T_CHAR"), (1, u "T_FLOAT"), (1, u "T_DOUBLE"), (1, u "T_BYTE"), (1, u "T_SHORT"), (1, u "T_INT"), (1, u "T_LONG"), (1, u "SOFT_MAX_ARRAY_LENGTH")] 83

def k15m0 : Method := { name := "<init>", desc := "()V", sig := { parameters := [], returnType := none }, accessFlags := 2, code := none }
/-- jdk/internal/util/ArraysSupport -/
def k15 : Class := { plain "jdk/internal/util/ArraysSupport" (some 0) with
  accessFlags := 33
  interfaces := #[]
  cf := some (fileOf pool15 21 #[] #[{ accessFlags := 2, nameIndex := 9, descriptorIndex := 19, attributes := #[] }] 33 16 #[] #[{ accessFlags := 24, nameIndex := 28, descriptorIndex := 29, attributes := #[] }, { accessFlags := 26, nameIndex := 38, descriptorIndex := 39, attributes := #[] }, { accessFlags := 25, nameIndex := 121, descriptorIndex := 25, attributes := #[] }, { accessFlags := 25, nameIndex := 131, descriptorIndex := 25, attributes := #[] }, { accessFlags := 25, nameIndex := 137, descriptorIndex := 25, attributes := #[] }, { accessFlags := 25, nameIndex := 143, descriptorIndex := 25, attributes := #[] }, { accessFlags := 25, nameIndex := 53, descriptorIndex := 25, attributes := #[] }, { accessFlags := 25, nameIndex := 24, descriptorIndex := 25, attributes := #[] }, { accessFlags := 25, nameIndex := 162, descriptorIndex := 25, attributes := #[] }, { accessFlags := 25, nameIndex := 187, descriptorIndex := 25, attributes := #[] }, { accessFlags := 26, nameIndex := 48, descriptorIndex := 25, attributes := #[] }, { accessFlags := 25, nameIndex := 277, descriptorIndex := 25, attributes := #[] }, { accessFlags := 25, nameIndex := 280, descriptorIndex := 25, attributes := #[] }, { accessFlags := 25, nameIndex := 282, descriptorIndex := 25, attributes := #[] }, { accessFlags := 25, nameIndex := 284, descriptorIndex := 25, attributes := #[] }, { accessFlags := 25, nameIndex := 286, descriptorIndex := 25, attributes := #[] }, { accessFlags := 25, nameIndex := 288, descriptorIndex := 25, attributes := #[] }, { accessFlags := 25, nameIndex := 290, descriptorIndex := 25, attributes := #[] }, { accessFlags := 25, nameIndex := 292, descriptorIndex := 25, attributes := #[] }, { accessFlags := 26, nameIndex := 108, descriptorIndex := 109, attributes := #[] }, { accessFlags := 25, nameIndex := 294, descriptorIndex := 25, attributes := #[] }])
  fields := #[{ name := "U", type := (.object "jdk/internal/misc/Unsafe"), accessFlags := 24, slot := 0, constantValue := 0 }, { name := "BIG_ENDIAN", type := .boolean, accessFlags := 26, slot := 1, constantValue := 0 }, { name := "LOG2_ARRAY_BOOLEAN_INDEX_SCALE", type := .int, accessFlags := 25, slot := 2, constantValue := 0 }, { name := "LOG2_ARRAY_BYTE_INDEX_SCALE", type := .int, accessFlags := 25, slot := 3, constantValue := 0 }, { name := "LOG2_ARRAY_CHAR_INDEX_SCALE", type := .int, accessFlags := 25, slot := 4, constantValue := 0 }, { name := "LOG2_ARRAY_SHORT_INDEX_SCALE", type := .int, accessFlags := 25, slot := 5, constantValue := 0 }, { name := "LOG2_ARRAY_INT_INDEX_SCALE", type := .int, accessFlags := 25, slot := 6, constantValue := 0 }, { name := "LOG2_ARRAY_LONG_INDEX_SCALE", type := .int, accessFlags := 25, slot := 7, constantValue := 0 }, { name := "LOG2_ARRAY_FLOAT_INDEX_SCALE", type := .int, accessFlags := 25, slot := 8, constantValue := 0 }, { name := "LOG2_ARRAY_DOUBLE_INDEX_SCALE", type := .int, accessFlags := 25, slot := 9, constantValue := 0 }, { name := "LOG2_BYTE_BIT_SIZE", type := .int, accessFlags := 26, slot := 10, constantValue := 0 }, { name := "T_BOOLEAN", type := .int, accessFlags := 25, slot := 11, constantValue := 0 }, { name := "T_CHAR", type := .int, accessFlags := 25, slot := 12, constantValue := 0 }, { name := "T_FLOAT", type := .int, accessFlags := 25, slot := 13, constantValue := 0 }, { name := "T_DOUBLE", type := .int, accessFlags := 25, slot := 14, constantValue := 0 }, { name := "T_BYTE", type := .int, accessFlags := 25, slot := 15, constantValue := 0 }, { name := "T_SHORT", type := .int, accessFlags := 25, slot := 16, constantValue := 0 }, { name := "T_INT", type := .int, accessFlags := 25, slot := 17, constantValue := 0 }, { name := "T_LONG", type := .int, accessFlags := 25, slot := 18, constantValue := 0 }, { name := "JLA", type := (.object "jdk/internal/access/JavaLangAccess"), accessFlags := 26, slot := 19, constantValue := 0 }, { name := "SOFT_MAX_ARRAY_LENGTH", type := .int, accessFlags := 25, slot := 20, constantValue := 0 }]
  methods := #[k15m0]
  instanceTypes := #[]
  staticTypes := #[(.object "jdk/internal/misc/Unsafe"), .boolean, .int, .int, .int, .int, .int, .int, .int, .int, .int, .int, .int, .int, .int, .int, .int, .int, .int, (.object "jdk/internal/access/JavaLangAccess"), .int]
  resolved := Array.replicate 378 none
  statics := none }

def pool16 : Array CpInfo := pool [(1, u "java/lang/Cloneable"), (0, .class_ 1), (0, u "java/lang/Object"), (0, .class_ 3)] 3

/-- java/lang/Cloneable -/
def k16 : Class := { plain "java/lang/Cloneable" (some 0) with
  accessFlags := 1537
  interfaces := #[]
  cf := some (fileOf pool16 2 #[] #[] 1537 4 #[] #[])
  fields := #[]
  methods := #[]
  instanceTypes := #[]
  staticTypes := #[]
  resolved := Array.replicate 8 none
  statics := none }

/-- the primitive byte -/
def k17 : Class := { plain "byte" none with kind := .primitive 'B', accessFlags := 0x411 }
/-- [B -/
def k18 : Class := { plain "[B" (some 0) with kind := .array 17 .byte, interfaces := #[16, 4], accessFlags := 1041 }

/-- the primitive char -/
def k19 : Class := { plain "char" none with kind := .primitive 'C', accessFlags := 0x411 }
/-- [C -/
def k20 : Class := { plain "[C" (some 0) with kind := .array 19 .char, interfaces := #[16, 4], accessFlags := 1041 }

/-- the primitive int -/
def k21 : Class := { plain "int" none with kind := .primitive 'I', accessFlags := 0x411 }
/-- [I -/
def k22 : Class := { plain "[I" (some 0) with kind := .array 21 .int, interfaces := #[16, 4], accessFlags := 1041 }

/-- [Lcom/example/railspan/railspan/board/Colour; -/
def k23 : Class := { plain "[Lcom/example/railspan/railspan/board/Colour;" (some 0) with kind := .array 6 (.object "com/example/railspan/railspan/board/Colour"), interfaces := #[16, 4], accessFlags := 1041 }

def heap : Heap := #[{ cls := 6, slots := #[.ref 3, .ref 4, .ref 5, .ref 6, .ref 7, .ref 8, .ref 9, .ref 10, .ref 11, .null], vm := .statics 6 },
  { cls := 11, slots := #[.long 0, .int 1, .null, .int 0, .null, .int 0, .int 0], vm := .statics 11 },
  { cls := 14, slots := #[.null, .null, .null], vm := .statics 14 },
  { cls := 6, slots := #[.null, .int 0, .int 0, .int 0], vm := .none },
  { cls := 6, slots := #[.null, .int 0, .int 0, .int 0], vm := .none },
  { cls := 6, slots := #[.null, .int 0, .int 0, .int 0], vm := .none },
  { cls := 6, slots := #[.null, .int 0, .int 0, .int 0], vm := .none },
  { cls := 6, slots := #[.null, .int 0, .int 0, .int 0], vm := .none },
  { cls := 6, slots := #[.null, .int 0, .int 0, .int 0], vm := .none },
  { cls := 6, slots := #[.null, .int 0, .int 0, .int 0], vm := .none },
  { cls := 6, slots := #[.null, .int 0, .int 0, .int 0], vm := .none },
  { cls := 6, slots := #[.null, .int 0, .int 0, .int 0], vm := .none }]
def classes : Array Class := #[k0, k1, k2, k3, k4, k5, k6, k7, k8, k9, k10, k11, k12, k13, k14, k15, k16, k17, k18, k19, k20, k21, k22, k23]
def interned : List (Array UInt16 × Addr) := []
def slotsUsed : Nat := 56
def theMethod : MethodId := ⟨1, 1⟩
def args0 : Array Value := #[.int 1, .int 2, .int 3, .int 4, .int 5, .int 6]
def aboutOver (below : List Frame) : State where
  vm := { classes := classes, interned := interned.toArray }
  heap := heap
  slotsUsed := slotsUsed
  threads := #[{ frames := .invoking theMethod args0 :: below }]
def below0 : List Frame := [.native { method := ⟨0, 0⟩, args := #[] }]
def about1 : State := aboutOver below0
def p0 : Program := .bare "" "" ""
def e0 : Env := launch0.env 0 0 0
theorem w_frames : about1.frames = Frame.invoking theMethod args0 :: below0 := rfl
set_option maxRecDepth 65536 in
theorem w_args : argsFit about1.vm theMethod args0 = true := by decide +kernel
set_option maxRecDepth 65536 in
theorem w_heap : heapFits about1 = true := by decide +kernel
set_option maxRecDepth 65536 in
theorem w_runnable : about1.curStatus? = some .runnable := by decide +kernel
set_option maxRecDepth 65536 in
theorem w_alone : about1.alone = true := by decide +kernel
set_option maxRecDepth 65536 in
theorem w_named : about1.methodNamed? x = some theMethod := by decide +kernel
set_option maxRecDepth 65536 in
theorem w_hears : about1.hears theMethod below0 = true := by decide +kernel
set_option maxRecDepth 65536 in
theorem w_ripe : about1.ripe theMethod args0 below0 = true := by decide +kernel
theorem w_running : about1.status = .running := rfl
set_option maxRecDepth 65536 in
theorem w_room : about1.hasRoom e0.platform room_1 = true :=
  launch0.hasRoom_least _ room_1 (by decide +kernel) (by decide +kernel) (by decide +kernel) (by decide +kernel) (by decide +kernel) (by decide +kernel)
theorem allAtoms_all (ts : List Jvm.Cond) (a : Array Jvm.Value) (st : Jvm.State) : (allAtoms ts).before a st = ts.all (fun c => c.before a st) := by
  induction ts with
  | nil => rfl
  | cons c t ih =>
    show (Jvm.Cond.and c (allAtoms t)).before a st = _
    rw [Jvm.Cond.before_and, ih, List.all_cons]
def words1 : List Jvm.Cond := Jvm.Cond.code x code maxLocals ret :: tables_1
/-- a 'code' word, met by the world's own term for the bytes: nothing is compared byte by byte -/
theorem code_word {y : MethodName} {bytes : ByteArray} {mx : Nat} {rt : Option FieldType} {a : Array Value} {s : State} {m : MethodId} {meth : Method} {c : Code} (h1 : s.methodNamed? y = some m) (h2 : s.vm.method? m = some meth) (h3 : meth.code = some c) (h4 : c.code = bytes)
    (h5 : (c.maxLocals == mx && c.exceptionTable.isEmpty && decide (c.maxStack ≤ mostOperands) && decide (meth.sig.returnType = rt) && !meth.locks && decide (parseMethodDescriptor y.desc = some meth.sig)) = true) : (Jvm.Cond.code y bytes mx rt).before a s = true := by
  simp only [Bool.and_eq_true, beq_iff_eq, Bool.not_eq_true', decide_eq_true_eq] at h5
  obtain ⟨⟨⟨⟨⟨g1, g2⟩, g3⟩, g4⟩, g5⟩, g6⟩ := h5
  simp [Cond.before, Cond.holds, Cond.value, h1, h2, h3, h4, g1, g2, g3, g4, g5, g6]
def isCode : Jvm.Cond → Bool
  | .code _ _ _ _ => true
  | _ => false
theorem all_split {L : List Jvm.Cond} {P : Jvm.Cond → Bool} (h1 : L.all (fun c => isCode c || P c) = true) (h2 : ∀ c ∈ L.filter isCode, P c = true) : L.all P = true := by
  refine List.all_eq_true.mpr fun c hc => ?_
  have h := List.all_eq_true.mp h1 c hc
  rcases Bool.eq_false_or_eq_true (isCode c) with hi | hi
  · exact h2 c (List.mem_filter.mpr ⟨hc, hi⟩)
  · simpa [hi] using h
set_option maxRecDepth 65536 in
theorem w_c0 : (Jvm.Cond.code x code maxLocals ret).before args0 about1 = true := code_word (m := ⟨1, 1⟩) (meth := k1m1) (c := k1c1) (by decide +kernel) rfl rfl rfl (by decide +kernel)
set_option maxRecDepth 65536 in
theorem w_c1 : (Jvm.Cond.code ({ cls := "java/lang/String", name := "<init>", desc := "([C)V" } : Jvm.MethodName) jdk_42_method_3_code (2 : Nat) (Option.none : Option Jvm.ClassFile.FieldType)).before args0 about1 = true := code_word (m := ⟨11, 1⟩) (meth := k11m1) (c := k11c1) (by decide +kernel) rfl rfl rfl (by decide +kernel)
set_option maxRecDepth 65536 in
theorem w_c2 : (Jvm.Cond.code ({ cls := "java/lang/String", name := "<init>", desc := "([CIILjava/lang/Void;)V" } : Jvm.MethodName) jdk_42_method_149_code (6 : Nat) (Option.none : Option Jvm.ClassFile.FieldType)).before args0 about1 = true := code_word (m := ⟨11, 2⟩) (meth := k11m2) (c := k11c2) (by decide +kernel) rfl rfl rfl (by decide +kernel)
set_option maxRecDepth 65536 in
theorem w_c3 : (Jvm.Cond.code ({ cls := "java/lang/Object", name := "<init>", desc := "()V" } : Jvm.MethodName) object_method_1_code (1 : Nat) (Option.none : Option Jvm.ClassFile.FieldType)).before args0 about1 = true := code_word (m := ⟨0, 0⟩) (meth := k0m0) (c := k0c0) (by decide +kernel) rfl rfl rfl (by decide +kernel)
set_option maxRecDepth 65536 in
theorem w_c4 : (Jvm.Cond.code ({ cls := "java/lang/StringUTF16", name := "compress", desc := "([CII)[B" } : Jvm.MethodName) jdk_52_method_16_code (6 : Nat) (Option.some (Jvm.ClassFile.FieldType.array Jvm.ClassFile.FieldType.byte))).before args0 about1 = true := code_word (m := ⟨12, 2⟩) (meth := k12m2) (c := k12c2) (by decide +kernel) rfl rfl rfl (by decide +kernel)
set_option maxRecDepth 65536 in
theorem w_c5 : (Jvm.Cond.code ({ cls := "java/lang/StringUTF16", name := "compress", desc := "([CI[BII)I" } : Jvm.MethodName) jdk_52_method_21_code (7 : Nat) (Option.some Jvm.ClassFile.FieldType.int)).before args0 about1 = true := code_word (m := ⟨12, 3⟩) (meth := k12m3) (c := k12c3) (by decide +kernel) rfl rfl rfl (by decide +kernel)
set_option maxRecDepth 65536 in
theorem w_c6 : (Jvm.Cond.code ({ cls := "java/lang/StringUTF16", name := "coderFromArrayLen", desc := "([BI)B" } : Jvm.MethodName) jdk_52_method_15_code (2 : Nat) (Option.some Jvm.ClassFile.FieldType.byte)).before args0 about1 = true := code_word (m := ⟨12, 1⟩) (meth := k12m1) (c := k12c1) (by decide +kernel) rfl rfl rfl (by decide +kernel)
set_option maxRecDepth 65536 in
theorem w_c7 : (Jvm.Cond.code ({ cls := "com/example/railspan/railspan/board/Route", name := "<init>", desc := "(Ljava/lang/String;Ljava/lang/String;ILcom/example/railspan/railspan/board/Colour;ZII)V" } : Jvm.MethodName) prog_7_method_1_code (8 : Nat) (Option.none : Option Jvm.ClassFile.FieldType)).before args0 about1 = true := code_word (m := ⟨8, 0⟩) (meth := k8m0) (c := k8c0) (by decide +kernel) rfl rfl rfl (by decide +kernel)
set_option maxRecDepth 65536 in
theorem w_c8 : (Jvm.Cond.code ({ cls := "java/lang/Record", name := "<init>", desc := "()V" } : Jvm.MethodName) jdk_30_method_1_code (1 : Nat) (Option.none : Option Jvm.ClassFile.FieldType)).before args0 about1 = true := code_word (m := ⟨7, 0⟩) (meth := k7m0) (c := k7c0) (by decide +kernel) rfl rfl rfl (by decide +kernel)
set_option maxRecDepth 65536 in
theorem w_c9 : (Jvm.Cond.code ({ cls := "com/example/railspan/railspan/board/Route", name := "isFerry", desc := "()Z" } : Jvm.MethodName) prog_7_method_3_code (1 : Nat) (Option.some Jvm.ClassFile.FieldType.boolean)).before args0 about1 = true := code_word (m := ⟨8, 1⟩) (meth := k8m1) (c := k8c1) (by decide +kernel) rfl rfl rfl (by decide +kernel)
def codes1 : List Jvm.Cond := [Jvm.Cond.code x code maxLocals ret, Jvm.Cond.code ({ cls := "java/lang/String", name := "<init>", desc := "([C)V" } : Jvm.MethodName) jdk_42_method_3_code (2 : Nat) (Option.none : Option Jvm.ClassFile.FieldType), Jvm.Cond.code ({ cls := "java/lang/String", name := "<init>", desc := "([CIILjava/lang/Void;)V" } : Jvm.MethodName) jdk_42_method_149_code (6 : Nat) (Option.none : Option Jvm.ClassFile.FieldType), Jvm.Cond.code ({ cls := "java/lang/Object", name := "<init>", desc := "()V" } : Jvm.MethodName) object_method_1_code (1 : Nat) (Option.none : Option Jvm.ClassFile.FieldType), Jvm.Cond.code ({ cls := "java/lang/StringUTF16", name := "compress", desc := "([CII)[B" } : Jvm.MethodName) jdk_52_method_16_code (6 : Nat) (Option.some (Jvm.ClassFile.FieldType.array Jvm.ClassFile.FieldType.byte)), Jvm.Cond.code ({ cls := "java/lang/StringUTF16", name := "compress", desc := "([CI[BII)I" } : Jvm.MethodName) jdk_52_method_21_code (7 : Nat) (Option.some Jvm.ClassFile.FieldType.int), Jvm.Cond.code ({ cls := "java/lang/StringUTF16", name := "coderFromArrayLen", desc := "([BI)B" } : Jvm.MethodName) jdk_52_method_15_code (2 : Nat) (Option.some Jvm.ClassFile.FieldType.byte), Jvm.Cond.code ({ cls := "com/example/railspan/railspan/board/Route", name := "<init>", desc := "(Ljava/lang/String;Ljava/lang/String;ILcom/example/railspan/railspan/board/Colour;ZII)V" } : Jvm.MethodName) prog_7_method_1_code (8 : Nat) (Option.none : Option Jvm.ClassFile.FieldType), Jvm.Cond.code ({ cls := "java/lang/Record", name := "<init>", desc := "()V" } : Jvm.MethodName) jdk_30_method_1_code (1 : Nat) (Option.none : Option Jvm.ClassFile.FieldType), Jvm.Cond.code ({ cls := "com/example/railspan/railspan/board/Route", name := "isFerry", desc := "()Z" } : Jvm.MethodName) prog_7_method_3_code (1 : Nat) (Option.some Jvm.ClassFile.FieldType.boolean)]
set_option maxRecDepth 65536 in
theorem codes_eq : words1.filter isCode = codes1 := rfl
theorem w_codes : ∀ c ∈ words1.filter isCode, c.before args0 about1 = true := by
  rw [codes_eq]
  intro c hc
  simp only [codes1, List.mem_cons, List.not_mem_nil, or_false] at hc
  rcases hc with rfl | rfl | rfl | rfl | rfl | rfl | rfl | rfl | rfl | rfl
  · exact w_c0
  · exact w_c1
  · exact w_c2
  · exact w_c3
  · exact w_c4
  · exact w_c5
  · exact w_c6
  · exact w_c7
  · exact w_c8
  · exact w_c9
set_option maxRecDepth 65536 in
theorem w_t1 : (words1.take 24).all (fun c => isCode c || c.before args0 about1) = true := by decide +kernel
set_option maxRecDepth 65536 in
theorem w_t2 : ((words1.drop 24).take 24).all (fun c => isCode c || c.before args0 about1) = true := by decide +kernel
set_option maxRecDepth 65536 in
theorem w_t3 : (((words1.drop 24).drop 24).take 24).all (fun c => isCode c || c.before args0 about1) = true := by decide +kernel
set_option maxRecDepth 65536 in
theorem w_t4 : (((words1.drop 24).drop 24).drop 24).all (fun c => isCode c || c.before args0 about1) = true := by decide +kernel
theorem w_tables : (allAtoms (Jvm.Cond.code x code maxLocals ret :: tables_1)).before args0 about1 = true := by
  rw [allAtoms_all]
  show words1.all (fun c => c.before args0 about1) = true
  refine all_split ?_ w_codes
  rw [← List.take_append_drop 24 words1, List.all_append, w_t1, ← List.take_append_drop 24 (words1.drop 24), List.all_append, w_t2, ← List.take_append_drop 24 ((words1.drop 24).drop 24), List.all_append, w_t3, w_t4]
  rfl
set_option maxRecDepth 65536 in
theorem w_rest : rest_1_c.before args0 about1 = true := by decide +kernel
set_option maxRecDepth 65536 in
theorem w_case : (Jvm.Cond.and given_1 narrow_1).before args0 about1 = true := by decide +kernel
theorem w_applies : (headSpec (Jvm.Cond.code x code maxLocals ret :: tables_1) room_1).applies x e0.platform about1 = true :=
  (Spec.applies_iff w_frames).mpr ⟨w_running, w_runnable, w_alone, w_named, w_hears, w_ripe, w_room, w_tables⟩
theorem atStart : AtStart classFile x code maxLocals ret World_1 tables_1 room_1 Calls_1 rest_1 Pre_1 launch0 p0 e0 about1 theMethod args0 below0 :=
  ⟨lists_1, trivial, launch0.admits_env _ _ _, launch0.least_env, fairChoices_fair.cas, fairChoices_fair.clock, w_frames, w_args, w_heap, w_applies, trivial, w_rest, w_case⟩
end start1
theorem witness_1 : WitnessClaimed_1 := ⟨start1.p0, start1.e0, start1.about1, start1.theMethod, start1.args0, start1.below0, start1.atStart⟩
end Jvm.Pilot.@@N@@
