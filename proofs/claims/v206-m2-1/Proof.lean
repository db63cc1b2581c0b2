import JvmDerived
import JvmDerived.Pilot.@@N@@Statement
import JvmDerived.Pilot.@@N@@Code
set_option linter.unusedVariables false
set_option linter.unusedSimpArgs false
@@BLOCK:NumsL.lean.txt@@
namespace Jvm.RoadKit
open Sem ClassFile Op Lib Jvm.Stand Jvm.Free Jvm.LawKit
section New
variable {p : Program} {l : Launch} {e : Env} {R : Room} {s : State} {m : MethodId} {args : Array Value} {below : List Frame} {meth : Method} {c : Code} {T : State} {locs : List Loc} {cells slots : Nat}
theorem retI (X : Stand p l e R s m args below meth c T locs cells slots) (hx : p.tables.exec = Jvm.exec) {pc : Nat} {Ls : Array Slot} {z : Int32} {rest : List Value} (hret : meth.sig.returnType = some .int) (hd : decode c.code pc = .ok (.ireturn, 1)) {fs : List Frame}
    (hl : ∀ (f : JFrame) (acts : List Action), f.method = m → f.locked = none → f.entered = [] → (doReturn e (T.setTop f) acts (some (.int z))).1 = T.setFrames fs) : Steps p.tables e below (T.setTop (mkF m pc Ls (.int z :: rest))) (T.setFrames fs) := by
  have hm' : T.vm.method? m = some meth := X.method'
  have hn : narrow .int (.int z) = .int z := rfl
  show Steps p.tables e below (T.setTop { method := m, pc := pc, locals := Ls, stack := _ :: rest, locked := none }) _
  jvm_step X.here [X.here.top, hx, hd, hm', hret, hn]
  first | (intro acts; rw [hl _ acts rfl rfl rfl]) | rw [hl _ _ rfl rfl rfl]
  exact Steps.refl _
end New
end Jvm.RoadKit
namespace Jvm.Pilot.@@N@@
open Jvm Jvm.ClassFile Sem Op Lib Jvm.Free Jvm.Stand Jvm.LawKit Jvm.RoadKit Bundle Jvm.Pilot.@@N@@.Jvm.D
theorem own_eqI {args : Array Value} {s : State} {a : Term} {k : Int32} (h : (Cond.eq a (.int k)).value args s none s [] = some true) : a.eval args s none [] s = some (.int k) := by
  obtain ⟨x, y, hx, hy, k1, k2⟩ := cmp_v (Or.inl h)
  obtain rfl : Value.int k = y := Option.some.inj ((Term.int_eval k).symm.trans hy)
  obtain ⟨z, rfl⟩ : ∃ z, x = .int z := k2
  have hz : z = k := gotT (Cond.eq_ints hx hy) h
  rw [hz] at hx; exact hx
theorem own_eqR {args : Array Value} {s : State} {a b : Term} {y : Addr} (hb : b.eval args s none [] s = some (.ref y)) (h : (Cond.eq a b).value args s none s [] = some true) : a.eval args s none [] s = some (.ref y) := by
  obtain ⟨x, y', hx, hy, k1, k2⟩ := cmp_v (Or.inl h)
  obtain rfl : Value.ref y = y' := Option.some.inj (hb.symm.trans hy)
  have hr : x.isRef = true := k2.2
  have hz : x = .ref y := gotT (eq_R hx hy hr rfl) h
  rw [hz] at hx; exact hx
theorem own_z {Z : State} {n0 : Nat} {h : Heap} (O : Old Z n0 h) : n0 ≤ h.size := O.1 ▸ O.2.1
theorem own_len {args : Array Value} {s : State} {t : Term} {x : Addr} {cl : Cell} {ty : FieldType} {n : Int32} (ev : t.eval args s none [] s = some (.ref x)) (A : Arr s s.heap x cl ty) (h : (Term.length t).eval args s none [] s = some (.int n)) : cl.slots.size < 2 ^ 31 ∧ cl.slots.size.toInt32 = n := by
  have ha : s.arrayAt? x = some cl := IntBox.arrayAt_of A.1 A.2.1 A.2.2
  simpa [Term.eval, ev, ha] using h
theorem own_elem {args : Array Value} {s : State} {t : Term} {x : Addr} {cl : Cell} {ty : FieldType} {j : Int32} {v : Value} {i : Nat} (ev : t.eval args s none [] s = some (.ref x)) (A : Arr s s.heap x cl ty) (h : (Term.elem t (.int j)).eval args s none [] s = some v) (hi : j.toNatClampNeg = i) : cl.slots[i]? = some v := by
  have q := (elem_in h ev (Term.int_eval j) A.1).2
  rw [hi] at q; exact q
def own_ws : List Jvm.Cond := tables_1 ++ jdkStatics_1
theorem gw (i : Nat) {d : Jvm.Cond} (h : own_ws[i]? = some d) : d ∈ own_ws := List.mem_of_getElem? h
theorem own_mod6 {y x : Int32} (h : y = x &&& 2147483647) : y % 6 = 0 ∨ y % 6 = 1 ∨ y % 6 = 2 ∨ y % 6 = 3 ∨ y % 6 = 4 ∨ y % 6 = 5 := by
  subst h
  have h := Jvm.Kit.i32_mask x 2147483647 (k := 31) (by decide) (by decide +kernel)
  have hn : (6 : Int32).toInt = 6 := by decide +kernel
  have h2 : ((x &&& 2147483647) % 6).toInt = (x &&& 2147483647).toInt % 6 := by rw [Jvm.Kit.i32_rem_nonneg (by omega), hn]
  have e0 : (0 : Int32).toInt = 0 := by decide +kernel
  have e1 : (1 : Int32).toInt = 1 := by decide +kernel
  have e2 : (2 : Int32).toInt = 2 := by decide +kernel
  have e3 : (3 : Int32).toInt = 3 := by decide +kernel
  have e4 : (4 : Int32).toInt = 4 := by decide +kernel
  have e5 : (5 : Int32).toInt = 5 := by decide +kernel
  simp only [← Int32.toInt_inj, e0, e1, e2, e3, e4, e5]
  omega
theorem own_nar255 {y x : Int32} (h : y = x &&& 255) : nar .char y = y := by subst h; exact i2c_mask x
theorem own_i2c255 {y x : Int32} (h : y = x &&& 255) : y.toUInt32.toUInt16.toUInt32.toInt32 = y := by subst h; exact i2c_mask x
theorem own_lt255 {y x : Int32} (h : y = x &&& 255) : ¬ ((255 : Int32) < y) := by
  subst h
  have h := Jvm.Kit.i32_mask x 255 (k := 8) (by decide) (by decide +kernel)
  have e : (255 : Int32).toInt = 255 := by decide +kernel
  rw [Int32.lt_iff_toInt_lt, e]; omega
theorem own_i2b2 {y x : Int32} (h : y = x.toInt8.toInt32) : y.toInt8.toInt32 = y := by
  subst h; rw [Int8.toInt8_toInt32]
theorem own_b255 {b y x : Int32} (hb : b = y.toInt8.toInt32) (h : y = x &&& 255) : b &&& 255 = y := by
  subst hb
  have h1 := Jvm.Kit.i32_mask (y.toInt8.toInt32) 255 (k := 8) (by decide) (by decide +kernel)
  have h2 := Jvm.Kit.i32_mask x 255 (k := 8) (by decide) (by decide +kernel)
  rw [← h] at h2
  have h3 : y.toInt8.toInt32.toInt = y.toInt.bmod 256 := by rw [Int8.toInt_toInt32, Int32.toInt_toInt8]
  rw [← Int32.toInt_inj, h1, h3, Int.bmod_def]
  split <;> omega
theorem own_beq {b c y z u v : Int32} (h1 : b = y.toInt8.toInt32) (h2 : c = z.toInt8.toInt32) (h : y = z) : b = c := by rw [h1, h2, h]
theorem own_bne {b c y z u v : Int32} (h1 : b = y.toInt8.toInt32) (h2 : c = z.toInt8.toInt32) (m1 : y = u &&& 255) (m2 : z = v &&& 255) (h : ¬ y = z) : ¬ b = c := fun q => h (by rw [← own_b255 h1 m1, ← own_b255 h2 m2, q])
theorem own_ltk {y x k : Int32} (h : y = x &&& 255) (hk : 255 < k.toInt) : y < k := by
  subst h
  have h := Jvm.Kit.i32_mask x 255 (k := 8) (by decide) (by decide +kernel)
  rw [Int32.lt_iff_toInt_lt]; omega
theorem d1_0 : decode jdk_42_method_139_code 0 = .ok (.getstatic 38, 3) := by decide +kernel
theorem d1_3 : decode jdk_42_method_139_code 3 = .ok (.ifCond .eq 23, 3) := by decide +kernel
theorem d1_6 : decode jdk_42_method_139_code 6 = .ok (.iload_n 0, 1) := by decide +kernel
theorem d1_7 : decode jdk_42_method_139_code 7 = .ok (.invokestatic 1015, 3) := by decide +kernel
theorem d2_0 : decode jdk_43_method_3_code 0 = .ok (.iload_n 0, 1) := by decide +kernel
theorem d2_1 : decode jdk_43_method_3_code 1 = .ok (.sipush 255, 3) := by decide +kernel
theorem d2_4 : decode jdk_43_method_3_code 4 = .ok (.if_icmp .gt 7, 3) := by decide +kernel
theorem d2_7 : decode jdk_43_method_3_code 7 = .ok (.iconst 1, 1) := by decide +kernel
theorem d2_8 : decode jdk_43_method_3_code 8 = .ok (.goto 4, 3) := by decide +kernel
theorem d2_12 : decode jdk_43_method_3_code 12 = .ok (.ireturn, 1) := by decide +kernel
abbrev M_0 : MethodName := ⟨"java/lang/StringLatin1", "canEncode", "(C)Z"⟩
theorem pn_0 : plainName "java/lang/StringLatin1" = true := by first | (simp [plainName, overriddenIn]; done) | decide +kernel
theorem pd_0 : parseMethodDescriptor "(C)Z" = some ⟨[.char], some .boolean⟩ := by decide +kernel
theorem d1_10 : decode jdk_42_method_139_code 10 = .ok (.ifCond .eq 16, 3) := by decide +kernel
theorem d1_13 : decode jdk_42_method_139_code 13 = .ok (.new 10, 3) := by decide +kernel
theorem d1_16 : decode jdk_42_method_139_code 16 = .ok (.dup, 1) := by decide +kernel
theorem d1_17 : decode jdk_42_method_139_code 17 = .ok (.iload_n 0, 1) := by decide +kernel
theorem d1_18 : decode jdk_42_method_139_code 18 = .ok (.invokestatic 1018, 3) := by decide +kernel
theorem d3_0 : decode jdk_43_method_46_code 0 = .ok (.iconst 1, 1) := by decide +kernel
theorem d3_1 : decode jdk_43_method_46_code 1 = .ok (.newarray .byte, 2) := by decide +kernel
theorem d3_3 : decode jdk_43_method_46_code 3 = .ok (.dup, 1) := by decide +kernel
theorem d3_4 : decode jdk_43_method_46_code 4 = .ok (.iconst 0, 1) := by decide +kernel
theorem d3_5 : decode jdk_43_method_46_code 5 = .ok (.iload_n 0, 1) := by decide +kernel
theorem d3_6 : decode jdk_43_method_46_code 6 = .ok (.i2b, 1) := by decide +kernel
theorem d3_7 : decode jdk_43_method_46_code 7 = .ok (.bastore, 1) := by decide +kernel
theorem d3_8 : decode jdk_43_method_46_code 8 = .ok (.areturn, 1) := by decide +kernel
abbrev M_1 : MethodName := ⟨"java/lang/StringLatin1", "toBytes", "(C)[B"⟩
theorem pd_1 : parseMethodDescriptor "(C)[B" = some ⟨[.char], some (.array .byte)⟩ := by decide +kernel
theorem d1_21 : decode jdk_42_method_139_code 21 = .ok (.iconst 0, 1) := by decide +kernel
theorem d1_22 : decode jdk_42_method_139_code 22 = .ok (.invokespecial 209, 3) := by decide +kernel
theorem d4_0 : decode jdk_42_method_151_code 0 = .ok (.aload_n 0, 1) := by decide +kernel
theorem d4_1 : decode jdk_42_method_151_code 1 = .ok (.invokespecial 1, 3) := by decide +kernel
theorem d4_4 : decode jdk_42_method_151_code 4 = .ok (.aload_n 0, 1) := by decide +kernel
theorem d4_5 : decode jdk_42_method_151_code 5 = .ok (.aload_n 1, 1) := by decide +kernel
theorem d4_6 : decode jdk_42_method_151_code 6 = .ok (.putfield 9, 3) := by decide +kernel
theorem d4_9 : decode jdk_42_method_151_code 9 = .ok (.aload_n 0, 1) := by decide +kernel
theorem d4_10 : decode jdk_42_method_151_code 10 = .ok (.iload_n 2, 1) := by decide +kernel
theorem d4_11 : decode jdk_42_method_151_code 11 = .ok (.putfield 15, 3) := by decide +kernel
theorem d4_14 : decode jdk_42_method_151_code 14 = .ok (.return_, 1) := by decide +kernel
abbrev M_2 : MethodName := ⟨"java/lang/String", "<init>", "([BB)V"⟩
theorem pn_1 : plainName "java/lang/String" = true := by first | (simp [plainName, overriddenIn]; done) | decide +kernel
theorem pd_2 : parseMethodDescriptor "([BB)V" = some ⟨[(.array .byte), .byte], none⟩ := by decide +kernel
theorem d1_25 : decode jdk_42_method_139_code 25 = .ok (.areturn, 1) := by decide +kernel
abbrev M_3 : MethodName := ⟨"java/lang/String", "valueOf", "(C)Ljava/lang/String;"⟩
theorem pd_3 : parseMethodDescriptor "(C)Ljava/lang/String;" = some ⟨[.char], some (.object "java/lang/String")⟩ := by decide +kernel
theorem d6_0 : decode method_2_code 0 = .ok (.iload_n 0, 1) := by decide +kernel
theorem d6_1 : decode method_2_code 1 = .ok (.ifCond .ne 7, 3) := by decide +kernel
theorem d6_4 : decode method_2_code 4 = .ok (.getstatic 7, 3) := by decide +kernel
theorem d6_7 : decode method_2_code 7 = .ok (.areturn, 1) := by decide +kernel
abbrev M_4 : MethodName := ⟨"com/example/stemline/stemline/dialect/clickhouse/TokenIsNamePinLaw", "kindOf", "(I)Lcom/example/stemline/stemline/dialect/clickhouse/ClickHouseLexer$Kind;"⟩
theorem pn_2 : plainName "com/example/stemline/stemline/dialect/clickhouse/TokenIsNamePinLaw" = true := by first | (simp [plainName, overriddenIn]; done) | decide +kernel
theorem pd_4 : parseMethodDescriptor "(I)Lcom/example/stemline/stemline/dialect/clickhouse/ClickHouseLexer$Kind;" = some ⟨[.int], some (.object "com/example/stemline/stemline/dialect/clickhouse/ClickHouseLexer$Kind")⟩ := by decide +kernel
theorem d7_0 : decode prog_17_method_1_code 0 = .ok (.aload_n 0, 1) := by decide +kernel
theorem d7_1 : decode prog_17_method_1_code 1 = .ok (.invokespecial 1, 3) := by decide +kernel
theorem d8_0 : decode jdk_30_method_1_code 0 = .ok (.aload_n 0, 1) := by decide +kernel
theorem d8_1 : decode jdk_30_method_1_code 1 = .ok (.invokespecial 1, 3) := by decide +kernel
theorem d8_4 : decode jdk_30_method_1_code 4 = .ok (.return_, 1) := by decide +kernel
abbrev M_5 : MethodName := ⟨"java/lang/Record", "<init>", "()V"⟩
theorem pn_3 : plainName "java/lang/Record" = true := by first | (simp [plainName, overriddenIn]; done) | decide +kernel
theorem pd_5 : parseMethodDescriptor "()V" = some ⟨[], none⟩ := by decide +kernel
theorem d7_4 : decode prog_17_method_1_code 4 = .ok (.aload_n 0, 1) := by decide +kernel
theorem d7_5 : decode prog_17_method_1_code 5 = .ok (.aload_n 1, 1) := by decide +kernel
theorem d7_6 : decode prog_17_method_1_code 6 = .ok (.putfield 7, 3) := by decide +kernel
theorem d7_9 : decode prog_17_method_1_code 9 = .ok (.aload_n 0, 1) := by decide +kernel
theorem d7_10 : decode prog_17_method_1_code 10 = .ok (.aload_n 2, 1) := by decide +kernel
theorem d7_11 : decode prog_17_method_1_code 11 = .ok (.putfield 13, 3) := by decide +kernel
theorem d7_14 : decode prog_17_method_1_code 14 = .ok (.aload_n 0, 1) := by decide +kernel
theorem d7_15 : decode prog_17_method_1_code 15 = .ok (.iload_n 3, 1) := by decide +kernel
theorem d7_16 : decode prog_17_method_1_code 16 = .ok (.putfield 17, 3) := by decide +kernel
theorem d7_19 : decode prog_17_method_1_code 19 = .ok (.aload_n 0, 1) := by decide +kernel
theorem d7_20 : decode prog_17_method_1_code 20 = .ok (.iload 4, 2) := by decide +kernel
theorem d7_22 : decode prog_17_method_1_code 22 = .ok (.putfield 21, 3) := by decide +kernel
theorem d7_25 : decode prog_17_method_1_code 25 = .ok (.aload_n 0, 1) := by decide +kernel
theorem d7_26 : decode prog_17_method_1_code 26 = .ok (.iload 5, 2) := by decide +kernel
theorem d7_28 : decode prog_17_method_1_code 28 = .ok (.putfield 24, 3) := by decide +kernel
theorem d7_31 : decode prog_17_method_1_code 31 = .ok (.return_, 1) := by decide +kernel
abbrev M_6 : MethodName := ⟨"com/example/stemline/stemline/dialect/clickhouse/ClickHouseLexer$Token", "<init>", "(Lcom/example/stemline/stemline/dialect/clickhouse/ClickHouseLexer$Kind;Ljava/lang/String;III)V"⟩
theorem pn_4 : plainName "com/example/stemline/stemline/dialect/clickhouse/ClickHouseLexer$Token" = true := by first | (simp [plainName, overriddenIn]; done) | decide +kernel
theorem pd_6 : parseMethodDescriptor "(Lcom/example/stemline/stemline/dialect/clickhouse/ClickHouseLexer$Kind;Ljava/lang/String;III)V" = some ⟨[(.object "com/example/stemline/stemline/dialect/clickhouse/ClickHouseLexer$Kind"), (.object "java/lang/String"), .int, .int, .int], none⟩ := by decide +kernel
theorem d9_0 : decode prog_17_method_4_code 0 = .ok (.aload_n 0, 1) := by decide +kernel
theorem d9_1 : decode prog_17_method_4_code 1 = .ok (.getfield 7, 3) := by decide +kernel
theorem d9_4 : decode prog_17_method_4_code 4 = .ok (.getstatic 27, 3) := by decide +kernel
theorem d9_7 : decode prog_17_method_4_code 7 = .ok (.if_acmp .eq 13, 3) := by decide +kernel
theorem d9_20 : decode prog_17_method_4_code 20 = .ok (.iconst 1, 1) := by decide +kernel
theorem d9_21 : decode prog_17_method_4_code 21 = .ok (.goto 4, 3) := by decide +kernel
theorem d9_25 : decode prog_17_method_4_code 25 = .ok (.ireturn, 1) := by decide +kernel
abbrev M_7 : MethodName := ⟨"com/example/stemline/stemline/dialect/clickhouse/ClickHouseLexer$Token", "isName", "()Z"⟩
theorem pd_7 : parseMethodDescriptor "()Z" = some ⟨[], some .boolean⟩ := by decide +kernel
theorem d6_8 : decode method_2_code 8 = .ok (.iload_n 0, 1) := by decide +kernel
theorem d6_9 : decode method_2_code 9 = .ok (.iconst 1, 1) := by decide +kernel
theorem d6_10 : decode method_2_code 10 = .ok (.if_icmp .ne 7, 3) := by decide +kernel
theorem d6_13 : decode method_2_code 13 = .ok (.getstatic 13, 3) := by decide +kernel
theorem d6_16 : decode method_2_code 16 = .ok (.areturn, 1) := by decide +kernel
theorem d9_10 : decode prog_17_method_4_code 10 = .ok (.aload_n 0, 1) := by decide +kernel
theorem d9_11 : decode prog_17_method_4_code 11 = .ok (.getfield 7, 3) := by decide +kernel
theorem d9_14 : decode prog_17_method_4_code 14 = .ok (.getstatic 51, 3) := by decide +kernel
theorem d9_17 : decode prog_17_method_4_code 17 = .ok (.if_acmp .ne 7, 3) := by decide +kernel
theorem d6_17 : decode method_2_code 17 = .ok (.iload_n 0, 1) := by decide +kernel
theorem d6_18 : decode method_2_code 18 = .ok (.iconst 2, 1) := by decide +kernel
theorem d6_19 : decode method_2_code 19 = .ok (.if_icmp .ne 7, 3) := by decide +kernel
theorem d6_22 : decode method_2_code 22 = .ok (.getstatic 16, 3) := by decide +kernel
theorem d6_25 : decode method_2_code 25 = .ok (.areturn, 1) := by decide +kernel
theorem d9_24 : decode prog_17_method_4_code 24 = .ok (.iconst 0, 1) := by decide +kernel
theorem d6_26 : decode method_2_code 26 = .ok (.iload_n 0, 1) := by decide +kernel
theorem d6_27 : decode method_2_code 27 = .ok (.iconst 3, 1) := by decide +kernel
theorem d6_28 : decode method_2_code 28 = .ok (.if_icmp .ne 7, 3) := by decide +kernel
theorem d6_31 : decode method_2_code 31 = .ok (.getstatic 19, 3) := by decide +kernel
theorem d6_34 : decode method_2_code 34 = .ok (.areturn, 1) := by decide +kernel
theorem d6_35 : decode method_2_code 35 = .ok (.iload_n 0, 1) := by decide +kernel
theorem d6_36 : decode method_2_code 36 = .ok (.iconst 4, 1) := by decide +kernel
theorem d6_37 : decode method_2_code 37 = .ok (.if_icmp .ne 7, 3) := by decide +kernel
theorem d6_40 : decode method_2_code 40 = .ok (.getstatic 22, 3) := by decide +kernel
theorem d6_43 : decode method_2_code 43 = .ok (.areturn, 1) := by decide +kernel
theorem d6_44 : decode method_2_code 44 = .ok (.getstatic 25, 3) := by decide +kernel
theorem d6_47 : decode method_2_code 47 = .ok (.areturn, 1) := by decide +kernel
theorem ef_rm2_3 (m : MethodId) (x0 : Int32) : entryFrame m #[(.int x0)] 1 = mkF m 0 #[.val (.int x0)] [] := by first | (simp [entryFrame, mkF, argsToLocals, Value.category]; done) | rfl
def Q2_3 (Z : State) (p1 : Int32) (h0 : Heap) (n0 : Nat) (v : Option Value) (h : Heap) (L : List Loc) : Prop := (v = some (.int (1 : Int32)) ∧ Fr n0 L ∧ h = h0)
set_option maxRecDepth 65536 in
set_option maxHeartbeats 40000000 in
theorem rm2_3 (l : Launch) (Z : State) (a0 : Array Value) (hw : ∀ d ∈ own_ws, d.before a0 Z = true) (ws : List Jvm.Cond) (p1 : Int32) (h0 : Heap) (n0 : Nat) (O0 : Old Z n0 h0) (hk2 : ¬ ((255 : Int32) < p1)) :
    MetFree l M_0 (head1 (Jvm.Cond.code M_0 jdk_43_method_3_code 1 (some .boolean) :: ws) ({ frames := 0, cells := 0, slots := 0, locals := 0 } : Room)) (fun a U => a = #[(.int p1)] ∧ Z.Warmed39 U.vm ∧ U.heap = h0) (fun _ _ _ _ _ => True) (fun _ U o U' => ∃ v L, o = .returned v ∧ Q2_3 Z p1 h0 n0 v U'.heap L ∧ FrameEnd U o U' L ({ frames := 0, cells := 0, slots := 0, locals := 0 } : Room).cells ({ frames := 0, cells := 0, slots := 0, locals := 0 } : Room).slots) := by
  refine MetFree.of_bodySF (plainFor_of_name pn_0) hisR ?_
  intro p e s m args below meth c s₁ Bd hml0 hP hK
  obtain ⟨rfl, hZ, hh⟩ := hP
  have hx := Bd.exec
  have hby := Bd.bytes
  have hml : c.maxLocals = 1 := hml0
  have hown : s.vm.findClass "java/lang/StringLatin1" = some m.cls := findClass_of_methodNamed Bd.named
  have hnm := (name_of_methodNamed Bd.named Bd.method).1
  have X0 : Stand p l e ({ frames := 0, cells := 0, slots := 0, locals := 0 } : Room) s m #[(.int p1)] below meth c s₁ [] 0 0 := Stand.of_body Bd
  have e0 : s₁.heap = h0 := by rw [← hh, Bd.state]; rfl
  have N0 := Fr.nil n0
  have pre0 : ∀ t, Steps p.tables e below (s₁.setTop (mkF m 0 #[.val (.int p1)] [])) t → Steps p.tables e below (s₁.setTop (entryFrame m #[(.int p1)] 1)) t := fun t k => castTop (ef_rm2_3 m p1) k
  obtain ⟨fs, hr, hrun, hended, hW, hsame⟩ := X0.leave (v := some (.int (1 : Int32))) (fun h => by rw [Bd.returns] at h; cases h)
  refine ⟨_, _, pre0 _ ?_, hrun, hended, _, _, rfl, ?_, ⟨_, rfl⟩, hW, hsame.mono (by decide) (by decide)⟩
  · show Steps p.tables e below (s₁.setTop (mkF m 0 #[.val (.int p1)] [])) _
    refine XS.iloadN X0.here hx rfl (hb hby d2_0) rfl ?_
    show Steps p.tables e below (s₁.setTop (mkF m 1 #[.val (.int p1)] [(.int p1)])) _
    refine XS.sipush X0.here hx rfl (hb hby d2_1) ?_
    show Steps p.tables e below (s₁.setTop (mkF m 4 #[.val (.int p1)] [(.int (255 : Int32)), (.int p1)])) _
    refine XS.icmpNo X0.here hx rfl (hb hby d2_4) rfl (flt hk2).2.2.1 ?_
    show Steps p.tables e below (s₁.setTop (mkF m 7 #[.val (.int p1)] [])) _
    refine XS.iconst X0.here hx rfl (hb hby d2_7) ?_
    show Steps p.tables e below (s₁.setTop (mkF m 8 #[.val (.int p1)] [(.int (1 : Int32))])) _
    refine XS.goto X0.here hx rfl (pc0 := 8) (pc' := 12) rfl (hb hby d2_8) (by decide) (by decide) ?_
    show Steps p.tables e below (s₁.setTop (mkF m 12 #[.val (.int p1)] [(.int (1 : Int32))])) _
    exact retN X0 hx (t := .boolean) Bd.returns (by simp) (hb hby d2_12) hr
  · show Q2_3 Z _ h0 n0 _ s₁.heap _
    rw [e0]
    exact ⟨rfl, N0, rfl⟩
theorem ef_rm3_4 (m : MethodId) (x0 : Int32) : entryFrame m #[(.int x0)] 1 = mkF m 0 #[.val (.int x0)] [] := by first | (simp [entryFrame, mkF, argsToLocals, Value.category]; done) | rfl
def Q3_4 (Z : State) (p1 : Int32) (h0 : Heap) (n0 : Nat) (v : Option Value) (h : Heap) (L : List Loc) : Prop := (∃ (i3 : Int32) (b2 : Addr) (k2 : ClassId), i3 = (p1.toInt8.toInt32) ∧ v = some (.ref b2) ∧ Fr n0 L ∧ h0.size ≤ b2 ∧ b2 < h.size ∧ Keep h0 h [] ∧ Exa Z h b2 "[B" ∧ Arv Z h b2 k2 .byte (1 : Int32) [(.int i3)] (.int (0 : Int32)))
set_option maxRecDepth 65536 in
set_option maxHeartbeats 40000000 in
theorem rm3_4 (l : Launch) (Z : State) (a0 : Array Value) (hw : ∀ d ∈ own_ws, d.before a0 Z = true) (ws : List Jvm.Cond) (p1 : Int32) (h0 : Heap) (n0 : Nat) (O0 : Old Z n0 h0) :
    MetFree l M_1 (head1 (Jvm.Cond.code M_1 jdk_43_method_46_code 1 (some (.array .byte)) :: ws) ({ frames := 0, cells := 1, slots := 1, locals := 0 } : Room)) (fun a U => a = #[(.int p1)] ∧ Z.Warmed39 U.vm ∧ U.heap = h0) (fun _ _ _ _ _ => True) (fun _ U o U' => ∃ v L, o = .returned v ∧ Q3_4 Z p1 h0 n0 v U'.heap L ∧ FrameEnd U o U' L ({ frames := 0, cells := 1, slots := 1, locals := 0 } : Room).cells ({ frames := 0, cells := 1, slots := 1, locals := 0 } : Room).slots) := by
  refine MetFree.of_bodySF (plainFor_of_name pn_0) hisR ?_
  intro p e s m args below meth c s₁ Bd hml0 hP hK
  obtain ⟨rfl, hZ, hh⟩ := hP
  have hx := Bd.exec
  have hby := Bd.bytes
  have hml : c.maxLocals = 1 := hml0
  have hown : s.vm.findClass "java/lang/StringLatin1" = some m.cls := findClass_of_methodNamed Bd.named
  have hnm := (name_of_methodNamed Bd.named Bd.method).1
  have X0 : Stand p l e ({ frames := 0, cells := 1, slots := 1, locals := 0 } : Room) s m #[(.int p1)] below meth c s₁ [] 0 0 := Stand.of_body Bd
  have e0 : s₁.heap = h0 := by rw [← hh, Bd.state]; rfl
  have N0 := Fr.nil n0
  have pre0 : ∀ t, Steps p.tables e below (s₁.setTop (mkF m 0 #[.val (.int p1)] [])) t → Steps p.tables e below (s₁.setTop (entryFrame m #[(.int p1)] 1)) t := fun t k => castTop (ef_rm3_4 m p1) k
  obtain ⟨T2, h2, k2, X2, e2, E2, A2, Ex2, st2⟩ := newPE X0 hx hZ (hw _ (gw 15 rfl)) e0 (g := (mkF m 1 #[.val (.int p1)] [(.int (1 : Int32))])) rfl (hb hby d3_1) rfl (by decide +kernel) (cap := 1) (by decide +kernel) (by decide) (by decide) (by decide) (ad := "[B") (by decide +kernel)
  obtain ⟨b2, g2⟩ : ∃ z, z = h0.size := ⟨_, rfl⟩
  rw [← g2] at A2 Ex2 st2
  have O2 : Old Z n0 h2 := O0.ext E2
  have bd_b2 : h0.size ≤ b2 := Nat.le_of_eq g2.symm
  have g_b2 : n0 ≤ b2 := Nat.le_trans (own_z O0) bd_b2
  have sz_b2 : h0.size ≤ b2 := Nat.le_trans (Nat.le_refl _) bd_b2
  have lt_b2 : b2 < h2.size := A2.lt
  have V2 : Arv Z h2 b2 k2 .byte (1 : Int32) [] (.int (0 : Int32)) := Arv.new A2 (by decide +kernel)
  obtain ⟨i3, hi3⟩ : ∃ z, z = (p1.toInt8.toInt32) := ⟨_, rfl⟩
  have Vp4 : Arv Z h2 b2 k2 .byte (1 : Int32) [(.int (0 : Int32))] (.int (0 : Int32)) := V2.pad (pad_rep [] (.int (0 : Int32)) 1)
  obtain ⟨cl5, Ar5, qk5, Sz5, Nn5, Hh5, Gg5⟩ := id Vp4
  have hin5 : ¬ ((0 : Int32) < 0 ∨ cl5.slots.size ≤ ((0 : Int32)).toNatClampNeg) := inb_of Sz5 ⟨by decide +kernel, by decide +kernel⟩
  obtain ⟨T6, h6, X6, e6, W6, st6⟩ := stB X2 hx hZ e2 Ar5 (j := (0 : Int32)) hin5 (g := (mkF m 7 #[.val (.int p1)] [(.int i3), (.int (0 : Int32)), (.ref b2), (.ref b2)])) rfl rfl (hb hby d3_7)
  rw [show nar .byte i3 = i3 from (own_i2b2 hi3 : (i3.toInt8.toInt32) = i3)] at W6
  have O6 : Old Z n0 h6 := O2.wr W6 g_b2
  have V6 : Arv Z h6 b2 k2 .byte (1 : Int32) [(.int i3)] (.int (0 : Int32)) := Arv.set Ar5 qk5 Sz5 Nn5 Hh5 Gg5 ((own_i2b2 hi3 : (i3.toInt8.toInt32) = i3) ▸ fits_nar_byte _) W6 0 rfl (Nat.le_of_ble_eq_true rfl)
  have N6 := Fr.snoc X6 N0 g_b2
  obtain ⟨fs, hr, hrun, hended, hW, hsame⟩ := X6.leave (v := some (.ref b2)) (fun h => by rw [Bd.returns] at h; cases h)
  have f7 : Exa Z h6 b2 "[B" := (Exa.wr W6 Ex2)
  refine ⟨_, _, pre0 _ ?_, hrun, hended, _, _, rfl, ?_, ⟨_, rfl⟩, hW, hsame.mono (by decide) (by decide)⟩
  · show Steps p.tables e below (s₁.setTop (mkF m 0 #[.val (.int p1)] [])) _
    refine XS.iconst X0.here hx rfl (hb hby d3_0) ?_
    show Steps p.tables e below (s₁.setTop (mkF m 1 #[.val (.int p1)] [(.int (1 : Int32))])) _
    refine st2 _ ?_
    show Steps p.tables e below (T2.setTop (mkF m 3 #[.val (.int p1)] [(.ref b2)])) _
    refine XS.dup X2.here hx rfl (hb hby d3_3) rfl rfl ?_
    show Steps p.tables e below (T2.setTop (mkF m 4 #[.val (.int p1)] [(.ref b2), (.ref b2)])) _
    refine XS.iconst X2.here hx rfl (hb hby d3_4) ?_
    show Steps p.tables e below (T2.setTop (mkF m 5 #[.val (.int p1)] [(.int (0 : Int32)), (.ref b2), (.ref b2)])) _
    refine XS.iloadN X2.here hx rfl (hb hby d3_5) rfl ?_
    show Steps p.tables e below (T2.setTop (mkF m 6 #[.val (.int p1)] [(.int p1), (.int (0 : Int32)), (.ref b2), (.ref b2)])) _
    refine XS.i2b X2.here hx rfl (hb hby d3_6) rfl ?_
    show Steps p.tables e below (T2.setTop (mkF m 7 #[.val (.int p1)] [(.int (p1.toInt8.toInt32)), (.int (0 : Int32)), (.ref b2), (.ref b2)])) _
    rw [← hi3]
    show Steps p.tables e below (T2.setTop (mkF m 7 #[.val (.int p1)] [(.int i3), (.int (0 : Int32)), (.ref b2), (.ref b2)])) _
    refine st6 _ ?_
    show Steps p.tables e below (T6.setTop (mkF m 8 #[.val (.int p1)] [(.ref b2)])) _
    jvm_step X6.here [X6.here.top, hx, (hb hby d3_8), X6.method', Bd.returns, Value.isRef, FieldType.isReference]
    first | (intro acts; rw [hr _ acts rfl rfl rfl]) | rw [hr _ _ rfl rfl rfl]
    exact Steps.refl _
  · show Q3_4 Z _ h0 n0 _ T6.heap _
    rw [e6]
    exact ⟨i3, b2, k2, hi3, rfl, N6, sz_b2, (Nat.lt_of_lt_of_le lt_b2 (Keep.of_wr W6).1), (((Keep.refl h0 []).ext E2).wr W6 (Or.inr sz_b2)), f7, V6⟩
theorem ef_rm4_5 (m : MethodId) (x0 : Addr) (x1 : Addr) : entryFrame m #[(.ref x0), (.ref x1), (.int (0 : Int32))] 3 = mkF m 0 #[.val (.ref x0), .val (.ref x1), .val (.int (0 : Int32))] [] := by first | (simp [entryFrame, mkF, argsToLocals, Value.category]; done) | rfl
def Q4_5 (Z : State) (a1 : Addr) (a2 : Addr) (h0 : Heap) (n0 : Nat) (v : Option Value) (h : Heap) (L : List Loc) : Prop := (v = none ∧ Fr n0 L ∧ Keep h0 h [a1] ∧ Exa Z h a1 "java/lang/String" ∧ Fld Z h a1 "java/lang/String" "coder" "B" (.int (0 : Int32)) ∧ Fld Z h a1 "java/lang/String" "value" "[B" (.ref a2))
set_option maxRecDepth 65536 in
set_option maxHeartbeats 40000000 in
theorem rm4_5 (l : Launch) (Z : State) (a0 : Array Value) (hw : ∀ d ∈ own_ws, d.before a0 Z = true) (ws : List Jvm.Cond) (a1 : Addr) (a2 : Addr) (h0 : Heap) (n0 : Nat) (O0 : Old Z n0 h0) (E_4 : Exa Z h0 a1 "java/lang/String") (F5 : Fld Z h0 a1 "java/lang/String" "coder" "B" (.int (0 : Int32))) (F6 : Fld Z h0 a1 "java/lang/String" "value" "[B" .null) (g_a1 : n0 ≤ a1) :
    MetFree l M_2 (head1 (Jvm.Cond.code M_2 jdk_42_method_151_code 3 none :: ws) ({ frames := 1, cells := 0, slots := 0, locals := 12 } : Room)) (fun a U => a = #[(.ref a1), (.ref a2), (.int (0 : Int32))] ∧ Z.Warmed39 U.vm ∧ U.heap = h0) (fun _ _ _ _ _ => True) (fun _ U o U' => ∃ v L, o = .returned v ∧ Q4_5 Z a1 a2 h0 n0 v U'.heap L ∧ FrameEnd U o U' L ({ frames := 1, cells := 0, slots := 0, locals := 12 } : Room).cells ({ frames := 1, cells := 0, slots := 0, locals := 12 } : Room).slots) := by
  refine MetFree.of_bodySF (plainFor_of_name pn_1) hisR ?_
  intro p e s m args below meth c s₁ Bd hml0 hP hK
  obtain ⟨rfl, hZ, hh⟩ := hP
  have hx := Bd.exec
  have hby := Bd.bytes
  have hml : c.maxLocals = 3 := hml0
  have hown : s.vm.findClass "java/lang/String" = some m.cls := findClass_of_methodNamed Bd.named
  have hnm := (name_of_methodNamed Bd.named Bd.method).1
  have X0 : Stand p l e ({ frames := 1, cells := 0, slots := 0, locals := 12 } : Room) s m #[(.ref a1), (.ref a2), (.int (0 : Int32))] below meth c s₁ [] 0 0 := Stand.of_body Bd
  have e0 : s₁.heap = h0 := by rw [← hh, Bd.state]; rfl
  have N0 := Fr.nil n0
  have pre0 : ∀ t, Steps p.tables e below (s₁.setTop (mkF m 0 #[.val (.ref a1), .val (.ref a2), .val (.int (0 : Int32))] [])) t → Steps p.tables e below (s₁.setTop (entryFrame m #[(.ref a1), (.ref a2), (.int (0 : Int32))] 3)) t := fun t k => castTop (ef_rm4_5 m a1 a2) k
  obtain ⟨T3, X3, e3, st3⟩ := initO X0 hx hZ hown (hw _ (gw 20 rfl)) (hw _ (gw 21 rfl)) (hw _ (gw 22 rfl)) e0 (g := (mkF m 1 #[.val (.ref a1), .val (.ref a2), .val (.int (0 : Int32))] [(.ref a1)])) rfl (by rw [hml]; rfl) rfl (hb hby d4_1) (by decide) (W := 0) (by show 2 * 0 + _ ≤ _; exact Nat.le_of_eq rfl) (by decide)
  obtain ⟨T7, h7, X7, e7, W7, st7⟩ := putF X3 hx hZ hown (host := "") (Or.inl (hw _ (gw 23 rfl))) Via.refl e3 F6 E_4 (Or.inr ⟨(hw _ (gw 24 rfl)), rfl, hnm⟩) (hw _ (gw 11 rfl)) (ty := (.array .byte)) (by decide) rfl rfl (g := (mkF m 6 #[.val (.ref a1), .val (.ref a2), .val (.int (0 : Int32))] [(.ref a2), (.ref a1)])) rfl rfl (hb hby d4_6)
  have O7 : Old Z n0 h7 := O0.wr W7 g_a1
  have Fw7 : Fld Z h7 a1 "java/lang/String" "value" "[B" (.ref a2) := Fld.same W7 F6
  have N7 := Fr.snoc X7 N0 g_a1
  have f8 : Fld Z h7 a1 "java/lang/String" "coder" "B" (.int (0 : Int32)) := (Fld.other W7 F5 (Or.inr (slot_ne (Or.inr (hw _ (gw 26 rfl))) (Or.inr (hw _ (gw 24 rfl))) (by decide) (t := .byte) (t' := (.array .byte)) (by decide) (by decide))))
  have f9 : Exa Z h7 a1 "java/lang/String" := (Exa.wr W7 E_4)
  obtain ⟨T10, h10, X10, e10, W10, st10⟩ := putFN X7 hx hZ hown (hw _ (gw 25 rfl)) Via.refl e7 f8 f9 (Or.inr ⟨(hw _ (gw 26 rfl)), rfl, hnm⟩) (hw _ (gw 11 rfl)) (ty := .byte) (v' := (.int (0 : Int32))) (by decide) (by exact congrArg Value.int (by decide +kernel : (nar .byte (0 : Int32)) = (0 : Int32))) ((by decide +kernel : (nar .byte (0 : Int32)) = (0 : Int32)) ▸ fits_nar_byte _) (g := (mkF m 11 #[.val (.ref a1), .val (.ref a2), .val (.int (0 : Int32))] [(.int (0 : Int32)), (.ref a1)])) rfl rfl (hb hby d4_11)
  have O10 : Old Z n0 h10 := O7.wr W10 g_a1
  have Fw10 : Fld Z h10 a1 "java/lang/String" "coder" "B" (.int (0 : Int32)) := Fld.same W10 f8
  have N10 := Fr.snoc X10 N7 g_a1
  obtain ⟨fs, hr, hrun, hended, hW, hsame⟩ := X10.leave (v := none) (fun _ => rfl)
  have f11 : Exa Z h10 a1 "java/lang/String" := (Exa.wr W10 f9)
  have f12 : Fld Z h10 a1 "java/lang/String" "value" "[B" (.ref a2) := (Fld.other W10 Fw7 (Or.inr (slot_ne (Or.inr (hw _ (gw 24 rfl))) (Or.inr (hw _ (gw 26 rfl))) (by decide) (t := (.array .byte)) (t' := .byte) (by decide) (by decide))))
  refine ⟨_, _, pre0 _ ?_, hrun, hended, _, _, rfl, ?_, ⟨_, rfl⟩, hW, hsame.mono (by decide) (by decide)⟩
  · show Steps p.tables e below (s₁.setTop (mkF m 0 #[.val (.ref a1), .val (.ref a2), .val (.int (0 : Int32))] [])) _
    refine XS.aloadN X0.here hx rfl (hb hby d4_0) rfl rfl ?_
    show Steps p.tables e below (s₁.setTop (mkF m 1 #[.val (.ref a1), .val (.ref a2), .val (.int (0 : Int32))] [(.ref a1)])) _
    refine st3 _ ?_
    show Steps p.tables e below (T3.setTop (mkF m 4 #[.val (.ref a1), .val (.ref a2), .val (.int (0 : Int32))] [])) _
    refine XS.aloadN X3.here hx rfl (hb hby d4_4) rfl rfl ?_
    show Steps p.tables e below (T3.setTop (mkF m 5 #[.val (.ref a1), .val (.ref a2), .val (.int (0 : Int32))] [(.ref a1)])) _
    refine XS.aloadN X3.here hx rfl (hb hby d4_5) rfl rfl ?_
    show Steps p.tables e below (T3.setTop (mkF m 6 #[.val (.ref a1), .val (.ref a2), .val (.int (0 : Int32))] [(.ref a2), (.ref a1)])) _
    refine st7 _ ?_
    show Steps p.tables e below (T7.setTop (mkF m 9 #[.val (.ref a1), .val (.ref a2), .val (.int (0 : Int32))] [])) _
    refine XS.aloadN X7.here hx rfl (hb hby d4_9) rfl rfl ?_
    show Steps p.tables e below (T7.setTop (mkF m 10 #[.val (.ref a1), .val (.ref a2), .val (.int (0 : Int32))] [(.ref a1)])) _
    refine XS.iloadN X7.here hx rfl (hb hby d4_10) rfl ?_
    show Steps p.tables e below (T7.setTop (mkF m 11 #[.val (.ref a1), .val (.ref a2), .val (.int (0 : Int32))] [(.int (0 : Int32)), (.ref a1)])) _
    refine st10 _ ?_
    show Steps p.tables e below (T10.setTop (mkF m 14 #[.val (.ref a1), .val (.ref a2), .val (.int (0 : Int32))] [])) _
    exact X10.returnOut hx Bd.returns (hb hby d4_14) hr
  · show Q4_5 Z _ _ h0 n0 _ T10.heap _
    rw [e10]
    exact ⟨rfl, N10, (((Keep.refl h0 [a1]).wr W7 (Or.inl (List.mem_of_getElem? (i := 0) rfl))).wr W10 (Or.inl (List.mem_of_getElem? (i := 0) rfl))), f11, Fw10, f12⟩
theorem ef_rm1_2 (m : MethodId) (x0 : Int32) : entryFrame m #[(.int x0)] 1 = mkF m 0 #[.val (.int x0)] [] := by first | (simp [entryFrame, mkF, argsToLocals, Value.category]; done) | rfl
def Q1_2 (Z : State) (p1 : Int32) (p2 : Int32) (h0 : Heap) (n0 : Nat) (v : Option Value) (h : Heap) (L : List Loc) : Prop := (∃ (i13 : Int32) (b11 : Addr) (b14 : Addr) (k15 : ClassId), i13 = (p1.toInt8.toInt32) ∧ v = some (.ref b11) ∧ Fr n0 L ∧ h0.size ≤ b11 ∧ b11 < h.size ∧ h0.size ≤ b14 ∧ b14 < h.size ∧ b11 ≠ b14 ∧ Keep h0 h [] ∧ Exa Z h b11 "java/lang/String" ∧ Fld Z h b11 "java/lang/String" "coder" "B" (.int (0 : Int32)) ∧ Fld Z h b11 "java/lang/String" "value" "[B" (.ref b14) ∧ Exa Z h b14 "[B" ∧ Arv Z h b14 k15 .byte (1 : Int32) [(.int i13)] (.int (0 : Int32)))
set_option maxRecDepth 65536 in
set_option maxHeartbeats 40000000 in
theorem rm1_2 (l : Launch) (Z : State) (a0 : Array Value) (hw : ∀ d ∈ own_ws, d.before a0 Z = true) (ws : List Jvm.Cond) (p1 : Int32) (p2 : Int32) (h0 : Heap) (n0 : Nat) (O0 : Old Z n0 h0) (S_3 : Sta Z Z.heap "java/lang/String" "COMPACT_STRINGS" "Z" (.int p2)) (hk5 : ¬ (p2 = (0 : Int32))) (hk6 : ¬ ((255 : Int32) < p1)) :
    MetFree l M_3 (head1 (Jvm.Cond.code M_3 jdk_42_method_139_code 1 (some (.object "java/lang/String")) :: ws) ({ frames := 2, cells := 2, slots := 5, locals := 27 } : Room)) (fun a U => a = #[(.int p1)] ∧ Z.Warmed39 U.vm ∧ U.heap = h0) (fun _ _ _ _ _ => True) (fun _ U o U' => ∃ v L, o = .returned v ∧ Q1_2 Z p1 p2 h0 n0 v U'.heap L ∧ FrameEnd U o U' L ({ frames := 2, cells := 2, slots := 5, locals := 27 } : Room).cells ({ frames := 2, cells := 2, slots := 5, locals := 27 } : Room).slots) := by
  refine MetFree.of_bodySF (plainFor_of_name pn_1) hisR ?_
  intro p e s m args below meth c s₁ Bd hml0 hP hK
  obtain ⟨rfl, hZ, hh⟩ := hP
  have hx := Bd.exec
  have hby := Bd.bytes
  have hml : c.maxLocals = 1 := hml0
  have hown : s.vm.findClass "java/lang/String" = some m.cls := findClass_of_methodNamed Bd.named
  have hnm := (name_of_methodNamed Bd.named Bd.method).1
  have X0 : Stand p l e ({ frames := 2, cells := 2, slots := 5, locals := 27 } : Room) s m #[(.int p1)] below meth c s₁ [] 0 0 := Stand.of_body Bd
  have e0 : s₁.heap = h0 := by rw [← hh, Bd.state]; rfl
  have N0 := Fr.nil n0
  have pre0 : ∀ t, Steps p.tables e below (s₁.setTop (mkF m 0 #[.val (.int p1)] [])) t → Steps p.tables e below (s₁.setTop (entryFrame m #[(.int p1)] 1)) t := fun t k => castTop (ef_rm1_2 m p1) k
  obtain ⟨T4, X4, e4, st4⟩ := getS2 X0 hx hZ hown (host := "") (Or.inl (hw _ (gw 5 rfl))) Via.refl e0 (Sta.ext O0.2 S_3) (g := (mkF m 0 #[.val (.int p1)] [])) rfl (hb hby d1_0)
  obtain ⟨_, _, ⟨T7, L7, k7, n7⟩, -, X7, ⟨Lc7, hQ7, l7, y7, z7⟩, st7⟩ := Jvm.LawKit.callS X4 hx (y := M_0) hown (mvT hZ (hw _ (gw 6 rfl))) (mvT hZ (hw _ (gw 7 rfl))) (mvT hZ (hw _ (gw 8 rfl))) (mvT hZ (hw _ (gw 9 rfl))) (by decide) (backOf (W := 0) (rm2_3 l Z a0 hw [] p1 h0 n0  O0 hk6) hZ (hw _ (gw 9 rfl)) (hw _ (gw 8 rfl)) (by decide) (by decide)) (g := (mkF m 7 #[.val (.int p1)] [(.int p1)])) rfl (by rw [hml]; rfl) (argsL := [(.int p1)]) (rest := []) (lenOf pd_0 rfl) rfl (by show 2 * 0 + _ ≤ _; exact Nat.le_of_eq rfl) (hb hby d1_7) (fun _ _ => ⟨rfl, e4, (by decide : 0 + 0 ≤ _), (by decide : 0 + 0 ≤ _)⟩)
  dsimp only [Pt.U, Pt.locs, Pt.cells, Pt.slots] at X7 l7 y7 z7 st7 hQ7
  subst l7 y7 z7
  obtain ⟨rfl, u9, u10⟩ := hQ7
  have N7 := Fr.app N0 u9
  obtain ⟨T11, h11, X11, e11, E11, A11, D11, -, st11⟩ := newO X7 hx hZ hown (hw _ (gw 10 rfl)) (hw _ (gw 11 rfl)) (hw _ (gw 3 rfl)) u10 (g := (mkF m 13 #[.val (.int p1)] [])) rfl (hb hby d1_13) (by decide) (by decide)
  obtain ⟨b11, g11⟩ : ∃ z, z = h0.size := ⟨_, rfl⟩
  rw [← g11] at A11 D11 st11
  have O11 : Old Z n0 h11 := O0.ext E11
  have bd_b11 : h0.size ≤ b11 := Nat.le_of_eq g11.symm
  have g_b11 : n0 ≤ b11 := Nat.le_trans (own_z O0) bd_b11
  have sz_b11 : h0.size ≤ b11 := Nat.le_trans (Nat.le_refl _) bd_b11
  have lt_b11 : b11 < h11.size := A11.lt
  have D11_24 : Fld Z h11 b11 "java/lang/String" "value" "[B" .null := D11 (Or.inr (hw _ (gw 24 rfl))) (ty := (.array .byte)) (by decide)
  have D11_26 : Fld Z h11 b11 "java/lang/String" "coder" "B" (.int (0 : Int32)) := D11 (Or.inr (hw _ (gw 26 rfl))) (ty := .byte) (by decide)
  obtain ⟨_, _, ⟨T12, L12, k12, n12⟩, -, X12, ⟨Lc12, hQ12, l12, y12, z12⟩, st12⟩ := Jvm.LawKit.callS X11 hx (y := M_1) hown (mvT hZ (hw _ (gw 12 rfl))) (mvT hZ (hw _ (gw 13 rfl))) (mvT hZ (hw _ (gw 8 rfl))) (mvT hZ (hw _ (gw 14 rfl))) (by decide) (backOf (W := 2) (rm3_4 l Z a0 hw [] p1 h11 n0  O11) hZ (hw _ (gw 14 rfl)) (hw _ (gw 8 rfl)) (by decide) (by decide)) (g := (mkF m 18 #[.val (.int p1)] [(.int p1), (.ref b11), (.ref b11)])) rfl (by rw [hml]; rfl) (argsL := [(.int p1)]) (rest := [(.ref b11), (.ref b11)]) (lenOf pd_1 rfl) rfl (by show 2 * 0 + _ ≤ _; exact Nat.le_of_eq rfl) (hb hby d1_18) (fun _ _ => ⟨rfl, e11, (by decide : 1 + 1 ≤ _), (by decide : 4 + 1 ≤ _)⟩)
  dsimp only [Pt.U, Pt.locs, Pt.cells, Pt.slots] at X12 l12 y12 z12 st12 hQ12
  subst l12 y12 z12
  obtain ⟨i13, b14, k15, u16, rfl, u18, u19, u20, Ku21, u22, u23⟩ := hQ12
  have Ou21 : Old Z n0 T12.heap := O11.keep Ku21 all0
  have g_b14 : n0 ≤ b14 := Nat.le_trans (own_z O11) u19
  have sz_b14 : h0.size ≤ b14 := Nat.le_trans E11.1 u19
  have N12 := Fr.app N7 u18
  have f24 : Exa Z T12.heap b11 "java/lang/String" := (A11.keep Ku21)
  have f25 : Fld Z T12.heap b11 "java/lang/String" "coder" "B" (.int (0 : Int32)) := (D11_26.keep Ku21 nin0)
  have f26 : Fld Z T12.heap b11 "java/lang/String" "value" "[B" .null := (D11_24.keep Ku21 nin0)
  obtain ⟨_, _, ⟨T27, L27, k27, n27⟩, -, X27, ⟨Lc27, hQ27, l27, y27, z27⟩, st27⟩ := X12.specialBack hx (y := M_2) rfl hown (mvT hZ (hw _ (gw 16 rfl))) (mvT hZ (hw _ (gw 17 rfl))) (mvT hZ (hw _ (gw 19 rfl))) (by decide) (backOf (W := 1) (rm4_5 l Z a0 hw [] b11 b14 T12.heap n0  Ou21 f24 f25 f26 g_b11) hZ (hw _ (gw 19 rfl)) (hw _ (gw 3 rfl)) (by decide) (by decide)) (g := (mkF m 22 #[.val (.int p1)] [(.int (0 : Int32)), (.ref b14), (.ref b11), (.ref b11)])) rfl (by rw [hml]; rfl) (Steps.refl _) (a := b11) (argsL := [(.ref b14), (.int (0 : Int32))]) (rest := [(.ref b11)]) (lenOf pd_2 rfl) rfl (by show 2 * 0 + _ ≤ _; exact Nat.le_of_eq rfl) (hb hby d1_22) (fun _ _ => ⟨rfl, rfl, (by decide : 2 + 0 ≤ _), (by decide : 5 + 0 ≤ _)⟩)
  dsimp only [Pt.U, Pt.locs, Pt.cells, Pt.slots] at X27 l27 y27 z27 st27 hQ27
  subst l27 y27 z27
  obtain ⟨rfl, u29, Ku30, u31, u32, u33⟩ := hQ27
  have Ou30 : Old Z n0 T27.heap := Ou21.keep Ku30 (allS g_b11 all0)
  have N27 := Fr.app N12 u29
  obtain ⟨fs, hr, hrun, hended, hW, hsame⟩ := X27.leave (v := some (.ref b11)) (fun h => by rw [Bd.returns] at h; cases h)
  have f34 : Exa Z T27.heap b14 "[B" := (u22.keep Ku30)
  have f35 : Arv Z T27.heap b14 k15 .byte (1 : Int32) [(.int i13)] (.int (0 : Int32)) := (u23.keep Ku30 (ninS (Ne.symm (Nat.ne_of_lt (Nat.lt_of_lt_of_le lt_b11 u19))) nin0))
  refine ⟨_, _, pre0 _ ?_, hrun, hended, _, _, rfl, ?_, ⟨_, rfl⟩, hW, hsame.mono (by decide) (by decide)⟩
  · show Steps p.tables e below (s₁.setTop (mkF m 0 #[.val (.int p1)] [])) _
    refine st4 _ ?_
    show Steps p.tables e below (T4.setTop (mkF m 3 #[.val (.int p1)] [(.int p2)])) _
    refine XS.ifNo X4.here hx rfl (hb hby d1_3) rfl ((if0 _ _).trans (feq hk5).1) ?_
    show Steps p.tables e below (T4.setTop (mkF m 6 #[.val (.int p1)] [])) _
    refine XS.iloadN X4.here hx rfl (hb hby d1_6) rfl ?_
    show Steps p.tables e below (T4.setTop (mkF m 7 #[.val (.int p1)] [(.int p1)])) _
    refine st7 _ ?_
    show Steps p.tables e below (T7.setTop (mkF m 10 #[.val (.int p1)] [(.int (1 : Int32))])) _
    refine XS.ifNo X7.here hx rfl (hb hby d1_10) rfl ((if0 _ _).trans (feq (by decide +kernel : ¬ ((1 : Int32) = (0 : Int32)))).1) ?_
    show Steps p.tables e below (T7.setTop (mkF m 13 #[.val (.int p1)] [])) _
    refine st11 _ ?_
    show Steps p.tables e below (T11.setTop (mkF m 16 #[.val (.int p1)] [(.ref b11)])) _
    refine XS.dup X11.here hx rfl (hb hby d1_16) rfl rfl ?_
    show Steps p.tables e below (T11.setTop (mkF m 17 #[.val (.int p1)] [(.ref b11), (.ref b11)])) _
    refine XS.iloadN X11.here hx rfl (hb hby d1_17) rfl ?_
    show Steps p.tables e below (T11.setTop (mkF m 18 #[.val (.int p1)] [(.int p1), (.ref b11), (.ref b11)])) _
    refine st12 _ ?_
    show Steps p.tables e below (T12.setTop (mkF m 21 #[.val (.int p1)] [(.ref b14), (.ref b11), (.ref b11)])) _
    refine XS.iconst X12.here hx rfl (hb hby d1_21) ?_
    show Steps p.tables e below (T12.setTop (mkF m 22 #[.val (.int p1)] [(.int (0 : Int32)), (.ref b14), (.ref b11), (.ref b11)])) _
    refine st27.trans ?_
    show Steps p.tables e below (T27.setTop (mkF m 25 #[.val (.int p1)] [(.ref b11)])) _
    jvm_step X27.here [X27.here.top, hx, (hb hby d1_25), X27.method', Bd.returns, Value.isRef, FieldType.isReference]
    first | (intro acts; rw [hr _ acts rfl rfl rfl]) | rw [hr _ _ rfl rfl rfl]
    exact Steps.refl _
  · show Q1_2 Z _ _ h0 n0 _ T27.heap _
    exact ⟨i13, b11, b14, k15, u16, rfl, N27, sz_b11, (Nat.lt_of_lt_of_le (Nat.lt_of_lt_of_le lt_b11 Ku21.1) Ku30.1), sz_b14, (Nat.lt_of_lt_of_le u20 Ku30.1), (Nat.ne_of_lt (Nat.lt_of_lt_of_le lt_b11 u19)), ((((Keep.refl h0 []).ext E11).trans Ku21 all0).trans Ku30 (allS (Or.inr sz_b11) all0)), u31, u32, u33, f34, f35⟩
theorem ef_rm6_6 (m : MethodId)  : entryFrame m #[(.int (0 : Int32))] 1 = mkF m 0 #[.val (.int (0 : Int32))] [] := by first | (simp [entryFrame, mkF, argsToLocals, Value.category]; done) | rfl
def Q6_6 (Z : State) (a1 : Addr) (h0 : Heap) (n0 : Nat) (v : Option Value) (h : Heap) (L : List Loc) : Prop := (v = some (.ref a1) ∧ Fr n0 L ∧ h = h0)
set_option maxRecDepth 65536 in
set_option maxHeartbeats 40000000 in
theorem rm6_6 (l : Launch) (Z : State) (a0 : Array Value) (hw : ∀ d ∈ own_ws, d.before a0 Z = true) (ws : List Jvm.Cond) (a1 : Addr) (h0 : Heap) (n0 : Nat) (O0 : Old Z n0 h0) (S_2 : Sta Z Z.heap "com/example/stemline/stemline/dialect/clickhouse/ClickHouseLexer$Kind" "WORD" "Lcom/example/stemline/stemline/dialect/clickhouse/ClickHouseLexer$Kind;" (.ref a1)) :
    MetFree l M_4 (head1 (Jvm.Cond.code M_4 method_2_code 1 (some (.object "com/example/stemline/stemline/dialect/clickhouse/ClickHouseLexer$Kind")) :: ws) ({ frames := 0, cells := 0, slots := 0, locals := 0 } : Room)) (fun a U => a = #[(.int (0 : Int32))] ∧ Z.Warmed39 U.vm ∧ U.heap = h0) (fun _ _ _ _ _ => True) (fun _ U o U' => ∃ v L, o = .returned v ∧ Q6_6 Z a1 h0 n0 v U'.heap L ∧ FrameEnd U o U' L ({ frames := 0, cells := 0, slots := 0, locals := 0 } : Room).cells ({ frames := 0, cells := 0, slots := 0, locals := 0 } : Room).slots) := by
  refine MetFree.of_bodySF (plainFor_of_name pn_2) hisR ?_
  intro p e s m args below meth c s₁ Bd hml0 hP hK
  obtain ⟨rfl, hZ, hh⟩ := hP
  have hx := Bd.exec
  have hby := Bd.bytes
  have hml : c.maxLocals = 1 := hml0
  have hown : s.vm.findClass "com/example/stemline/stemline/dialect/clickhouse/TokenIsNamePinLaw" = some m.cls := findClass_of_methodNamed Bd.named
  have hnm := (name_of_methodNamed Bd.named Bd.method).1
  have X0 : Stand p l e ({ frames := 0, cells := 0, slots := 0, locals := 0 } : Room) s m #[(.int (0 : Int32))] below meth c s₁ [] 0 0 := Stand.of_body Bd
  have e0 : s₁.heap = h0 := by rw [← hh, Bd.state]; rfl
  have N0 := Fr.nil n0
  have pre0 : ∀ t, Steps p.tables e below (s₁.setTop (mkF m 0 #[.val (.int (0 : Int32))] [])) t → Steps p.tables e below (s₁.setTop (entryFrame m #[(.int (0 : Int32))] 1)) t := fun t k => castTop (ef_rm6_6 m ) k
  obtain ⟨T3, X3, e3, st3⟩ := getS2 X0 hx hZ hown (host := "") (Or.inl (hw _ (gw 34 rfl))) Via.refl e0 (Sta.ext O0.2 S_2) (g := (mkF m 4 #[.val (.int (0 : Int32))] [])) rfl (hb hby d6_4)
  obtain ⟨fs, hr, hrun, hended, hW, hsame⟩ := X3.leave (v := some (.ref a1)) (fun h => by rw [Bd.returns] at h; cases h)
  refine ⟨_, _, pre0 _ ?_, hrun, hended, _, _, rfl, ?_, ⟨_, rfl⟩, hW, hsame.mono (by decide) (by decide)⟩
  · show Steps p.tables e below (s₁.setTop (mkF m 0 #[.val (.int (0 : Int32))] [])) _
    refine XS.iloadN X0.here hx rfl (hb hby d6_0) rfl ?_
    show Steps p.tables e below (s₁.setTop (mkF m 1 #[.val (.int (0 : Int32))] [(.int (0 : Int32))])) _
    refine XS.ifNo X0.here hx rfl (hb hby d6_1) rfl ((if0 _ _).trans (teq (by decide +kernel : (0 : Int32) = (0 : Int32))).2) ?_
    show Steps p.tables e below (s₁.setTop (mkF m 4 #[.val (.int (0 : Int32))] [])) _
    refine st3 _ ?_
    show Steps p.tables e below (T3.setTop (mkF m 7 #[.val (.int (0 : Int32))] [(.ref a1)])) _
    jvm_step X3.here [X3.here.top, hx, (hb hby d6_7), X3.method', Bd.returns, Value.isRef, FieldType.isReference]
    first | (intro acts; rw [hr _ acts rfl rfl rfl]) | rw [hr _ _ rfl rfl rfl]
    exact Steps.refl _
  · show Q6_6 Z _ h0 n0 _ T3.heap _
    rw [e3]
    exact ⟨rfl, N0, rfl⟩
theorem ef_rm8_8 (m : MethodId) (x0 : Addr) : entryFrame m #[(.ref x0)] 1 = mkF m 0 #[.val (.ref x0)] [] := by first | (simp [entryFrame, mkF, argsToLocals, Value.category]; done) | rfl
def Q8_8 (Z : State) (a1 : Addr) (h0 : Heap) (n0 : Nat) (v : Option Value) (h : Heap) (L : List Loc) : Prop := (v = none ∧ Fr n0 L ∧ h = h0)
set_option maxRecDepth 65536 in
set_option maxHeartbeats 40000000 in
theorem rm8_8 (l : Launch) (Z : State) (a0 : Array Value) (hw : ∀ d ∈ own_ws, d.before a0 Z = true) (ws : List Jvm.Cond) (a1 : Addr) (h0 : Heap) (n0 : Nat) (O0 : Old Z n0 h0) :
    MetFree l M_5 (head1 (Jvm.Cond.code M_5 jdk_30_method_1_code 1 none :: ws) ({ frames := 1, cells := 0, slots := 0, locals := 12 } : Room)) (fun a U => a = #[(.ref a1)] ∧ Z.Warmed39 U.vm ∧ U.heap = h0) (fun _ _ _ _ _ => True) (fun _ U o U' => ∃ v L, o = .returned v ∧ Q8_8 Z a1 h0 n0 v U'.heap L ∧ FrameEnd U o U' L ({ frames := 1, cells := 0, slots := 0, locals := 12 } : Room).cells ({ frames := 1, cells := 0, slots := 0, locals := 12 } : Room).slots) := by
  refine MetFree.of_bodySF (plainFor_of_name pn_3) hisR ?_
  intro p e s m args below meth c s₁ Bd hml0 hP hK
  obtain ⟨rfl, hZ, hh⟩ := hP
  have hx := Bd.exec
  have hby := Bd.bytes
  have hml : c.maxLocals = 1 := hml0
  have hown : s.vm.findClass "java/lang/Record" = some m.cls := findClass_of_methodNamed Bd.named
  have hnm := (name_of_methodNamed Bd.named Bd.method).1
  have X0 : Stand p l e ({ frames := 1, cells := 0, slots := 0, locals := 12 } : Room) s m #[(.ref a1)] below meth c s₁ [] 0 0 := Stand.of_body Bd
  have e0 : s₁.heap = h0 := by rw [← hh, Bd.state]; rfl
  have N0 := Fr.nil n0
  have pre0 : ∀ t, Steps p.tables e below (s₁.setTop (mkF m 0 #[.val (.ref a1)] [])) t → Steps p.tables e below (s₁.setTop (entryFrame m #[(.ref a1)] 1)) t := fun t k => castTop (ef_rm8_8 m a1) k
  obtain ⟨T2, X2, e2, st2⟩ := initO X0 hx hZ hown (hw _ (gw 45 rfl)) (hw _ (gw 21 rfl)) (hw _ (gw 22 rfl)) e0 (g := (mkF m 1 #[.val (.ref a1)] [(.ref a1)])) rfl (by rw [hml]; rfl) rfl (hb hby d8_1) (by decide) (W := 0) (by show 2 * 0 + _ ≤ _; exact Nat.le_of_eq rfl) (by decide)
  obtain ⟨fs, hr, hrun, hended, hW, hsame⟩ := X2.leave (v := none) (fun _ => rfl)
  refine ⟨_, _, pre0 _ ?_, hrun, hended, _, _, rfl, ?_, ⟨_, rfl⟩, hW, hsame.mono (by decide) (by decide)⟩
  · show Steps p.tables e below (s₁.setTop (mkF m 0 #[.val (.ref a1)] [])) _
    refine XS.aloadN X0.here hx rfl (hb hby d8_0) rfl rfl ?_
    show Steps p.tables e below (s₁.setTop (mkF m 1 #[.val (.ref a1)] [(.ref a1)])) _
    refine st2 _ ?_
    show Steps p.tables e below (T2.setTop (mkF m 4 #[.val (.ref a1)] [])) _
    exact X2.returnOut hx Bd.returns (hb hby d8_4) hr
  · show Q8_8 Z _ h0 n0 _ T2.heap _
    rw [e2]
    exact ⟨rfl, N0, rfl⟩
theorem ef_rm7_7 (m : MethodId) (x0 : Addr) (x1 : Addr) (x2 : Addr) (x3 : Int32) (x4 : Int32) (x5 : Int32) : entryFrame m #[(.ref x0), (.ref x1), (.ref x2), (.int x3), (.int x4), (.int x5)] 6 = mkF m 0 #[.val (.ref x0), .val (.ref x1), .val (.ref x2), .val (.int x3), .val (.int x4), .val (.int x5)] [] := by first | (simp [entryFrame, mkF, argsToLocals, Value.category]; done) | rfl
def Q7_7 (Z : State) (a1 : Addr) (a2 : Addr) (a3 : Addr) (p4 : Int32) (p5 : Int32) (p6 : Int32) (h0 : Heap) (n0 : Nat) (v : Option Value) (h : Heap) (L : List Loc) : Prop := (v = none ∧ Fr n0 L ∧ Keep h0 h [a1] ∧ Exa Z h a1 "com/example/stemline/stemline/dialect/clickhouse/ClickHouseLexer$Token" ∧ Fld Z h a1 "com/example/stemline/stemline/dialect/clickhouse/ClickHouseLexer$Token" "end" "I" (.int p6) ∧ Fld Z h a1 "com/example/stemline/stemline/dialect/clickhouse/ClickHouseLexer$Token" "kind" "Lcom/example/stemline/stemline/dialect/clickhouse/ClickHouseLexer$Kind;" (.ref a2) ∧ Fld Z h a1 "com/example/stemline/stemline/dialect/clickhouse/ClickHouseLexer$Token" "line" "I" (.int p4) ∧ Fld Z h a1 "com/example/stemline/stemline/dialect/clickhouse/ClickHouseLexer$Token" "start" "I" (.int p5) ∧ Fld Z h a1 "com/example/stemline/stemline/dialect/clickhouse/ClickHouseLexer$Token" "value" "Ljava/lang/String;" (.ref a3))
set_option maxRecDepth 65536 in
set_option maxHeartbeats 40000000 in
theorem rm7_7 (l : Launch) (Z : State) (a0 : Array Value) (hw : ∀ d ∈ own_ws, d.before a0 Z = true) (ws : List Jvm.Cond) (a1 : Addr) (a2 : Addr) (a3 : Addr) (p4 : Int32) (p5 : Int32) (p6 : Int32) (h0 : Heap) (n0 : Nat) (O0 : Old Z n0 h0) (E_11 : Exa Z h0 a1 "com/example/stemline/stemline/dialect/clickhouse/ClickHouseLexer$Token") (F12 : Fld Z h0 a1 "com/example/stemline/stemline/dialect/clickhouse/ClickHouseLexer$Token" "end" "I" (.int (0 : Int32))) (F13 : Fld Z h0 a1 "com/example/stemline/stemline/dialect/clickhouse/ClickHouseLexer$Token" "kind" "Lcom/example/stemline/stemline/dialect/clickhouse/ClickHouseLexer$Kind;" .null) (F14 : Fld Z h0 a1 "com/example/stemline/stemline/dialect/clickhouse/ClickHouseLexer$Token" "line" "I" (.int (0 : Int32))) (F15 : Fld Z h0 a1 "com/example/stemline/stemline/dialect/clickhouse/ClickHouseLexer$Token" "start" "I" (.int (0 : Int32))) (F16 : Fld Z h0 a1 "com/example/stemline/stemline/dialect/clickhouse/ClickHouseLexer$Token" "value" "Ljava/lang/String;" .null) (g_a1 : n0 ≤ a1) :
    MetFree l M_6 (head1 (Jvm.Cond.code M_6 prog_17_method_1_code 6 none :: ws) ({ frames := 2, cells := 0, slots := 0, locals := 24 } : Room)) (fun a U => a = #[(.ref a1), (.ref a2), (.ref a3), (.int p4), (.int p5), (.int p6)] ∧ Z.Warmed39 U.vm ∧ U.heap = h0) (fun _ _ _ _ _ => True) (fun _ U o U' => ∃ v L, o = .returned v ∧ Q7_7 Z a1 a2 a3 p4 p5 p6 h0 n0 v U'.heap L ∧ FrameEnd U o U' L ({ frames := 2, cells := 0, slots := 0, locals := 24 } : Room).cells ({ frames := 2, cells := 0, slots := 0, locals := 24 } : Room).slots) := by
  refine MetFree.of_bodySF (plainFor_of_name pn_4) hisR ?_
  intro p e s m args below meth c s₁ Bd hml0 hP hK
  obtain ⟨rfl, hZ, hh⟩ := hP
  have hx := Bd.exec
  have hby := Bd.bytes
  have hml : c.maxLocals = 6 := hml0
  have hown : s.vm.findClass "com/example/stemline/stemline/dialect/clickhouse/ClickHouseLexer$Token" = some m.cls := findClass_of_methodNamed Bd.named
  have hnm := (name_of_methodNamed Bd.named Bd.method).1
  have X0 : Stand p l e ({ frames := 2, cells := 0, slots := 0, locals := 24 } : Room) s m #[(.ref a1), (.ref a2), (.ref a3), (.int p4), (.int p5), (.int p6)] below meth c s₁ [] 0 0 := Stand.of_body Bd
  have e0 : s₁.heap = h0 := by rw [← hh, Bd.state]; rfl
  have N0 := Fr.nil n0
  have pre0 : ∀ t, Steps p.tables e below (s₁.setTop (mkF m 0 #[.val (.ref a1), .val (.ref a2), .val (.ref a3), .val (.int p4), .val (.int p5), .val (.int p6)] [])) t → Steps p.tables e below (s₁.setTop (entryFrame m #[(.ref a1), (.ref a2), (.ref a3), (.int p4), (.int p5), (.int p6)] 6)) t := fun t k => castTop (ef_rm7_7 m a1 a2 a3 p4 p5 p6) k
  obtain ⟨_, _, ⟨T7, L7, k7, n7⟩, -, X7, ⟨Lc7, hQ7, l7, y7, z7⟩, st7⟩ := X0.specialBack hx (y := M_5) rfl hown (mvT hZ (hw _ (gw 40 rfl))) (mvT hZ (hw _ (gw 41 rfl))) (mvT hZ (hw _ (gw 44 rfl))) (by decide) (backOf (W := 0) (rm8_8 l Z a0 hw [] a1 h0 n0  O0) hZ (hw _ (gw 44 rfl)) (hw _ (gw 43 rfl)) (by decide) (by decide)) (g := (mkF m 1 #[.val (.ref a1), .val (.ref a2), .val (.ref a3), .val (.int p4), .val (.int p5), .val (.int p6)] [(.ref a1)])) rfl (by rw [hml]; rfl) (Steps.refl _) (a := a1) (argsL := []) (rest := []) (lenOf pd_5 rfl) rfl (by show 2 * 0 + _ ≤ _; exact Nat.le_of_eq rfl) (hb hby d7_1) (fun _ _ => ⟨rfl, e0, (by decide : 0 + 0 ≤ _), (by decide : 0 + 0 ≤ _)⟩)
  dsimp only [Pt.U, Pt.locs, Pt.cells, Pt.slots] at X7 l7 y7 z7 st7 hQ7
  subst l7 y7 z7
  obtain ⟨rfl, u9, u10⟩ := hQ7
  have N7 := Fr.app N0 u9
  obtain ⟨T17, h17, X17, e17, W17, st17⟩ := putF X7 hx hZ hown (host := "") (Or.inl (hw _ (gw 46 rfl))) Via.refl u10 F13 E_11 (Or.inr ⟨(hw _ (gw 47 rfl)), rfl, hnm⟩) (hw _ (gw 28 rfl)) (ty := (.object "com/example/stemline/stemline/dialect/clickhouse/ClickHouseLexer$Kind")) (by decide) rfl rfl (g := (mkF m 6 #[.val (.ref a1), .val (.ref a2), .val (.ref a3), .val (.int p4), .val (.int p5), .val (.int p6)] [(.ref a2), (.ref a1)])) rfl rfl (hb hby d7_6)
  have O17 : Old Z n0 h17 := O0.wr W17 g_a1
  have Fw17 : Fld Z h17 a1 "com/example/stemline/stemline/dialect/clickhouse/ClickHouseLexer$Token" "kind" "Lcom/example/stemline/stemline/dialect/clickhouse/ClickHouseLexer$Kind;" (.ref a2) := Fld.same W17 F13
  have N17 := Fr.snoc X17 N7 g_a1
  have f18 : Fld Z h17 a1 "com/example/stemline/stemline/dialect/clickhouse/ClickHouseLexer$Token" "value" "Ljava/lang/String;" .null := (Fld.other W17 F16 (Or.inr (slot_ne (Or.inr (hw _ (gw 49 rfl))) (Or.inr (hw _ (gw 47 rfl))) (by decide) (t := (.object "java/lang/String")) (t' := (.object "com/example/stemline/stemline/dialect/clickhouse/ClickHouseLexer$Kind")) (by decide) (by decide))))
  have f19 : Exa Z h17 a1 "com/example/stemline/stemline/dialect/clickhouse/ClickHouseLexer$Token" := (Exa.wr W17 E_11)
  obtain ⟨T20, h20, X20, e20, W20, st20⟩ := putF X17 hx hZ hown (host := "") (Or.inl (hw _ (gw 48 rfl))) Via.refl e17 f18 f19 (Or.inr ⟨(hw _ (gw 49 rfl)), rfl, hnm⟩) (hw _ (gw 28 rfl)) (ty := (.object "java/lang/String")) (by decide) rfl rfl (g := (mkF m 11 #[.val (.ref a1), .val (.ref a2), .val (.ref a3), .val (.int p4), .val (.int p5), .val (.int p6)] [(.ref a3), (.ref a1)])) rfl rfl (hb hby d7_11)
  have O20 : Old Z n0 h20 := O17.wr W20 g_a1
  have Fw20 : Fld Z h20 a1 "com/example/stemline/stemline/dialect/clickhouse/ClickHouseLexer$Token" "value" "Ljava/lang/String;" (.ref a3) := Fld.same W20 f18
  have N20 := Fr.snoc X20 N17 g_a1
  have f21 : Fld Z h20 a1 "com/example/stemline/stemline/dialect/clickhouse/ClickHouseLexer$Token" "line" "I" (.int (0 : Int32)) := (Fld.other W20 (Fld.other W17 F14 (Or.inr (slot_ne (Or.inr (hw _ (gw 51 rfl))) (Or.inr (hw _ (gw 47 rfl))) (by decide) (t := .int) (t' := (.object "com/example/stemline/stemline/dialect/clickhouse/ClickHouseLexer$Kind")) (by decide) (by decide)))) (Or.inr (slot_ne (Or.inr (hw _ (gw 51 rfl))) (Or.inr (hw _ (gw 49 rfl))) (by decide) (t := .int) (t' := (.object "java/lang/String")) (by decide) (by decide))))
  have f22 : Exa Z h20 a1 "com/example/stemline/stemline/dialect/clickhouse/ClickHouseLexer$Token" := (Exa.wr W20 f19)
  obtain ⟨T23, h23, X23, e23, W23, st23⟩ := putF X20 hx hZ hown (host := "") (Or.inl (hw _ (gw 50 rfl))) Via.refl e20 f21 f22 (Or.inr ⟨(hw _ (gw 51 rfl)), rfl, hnm⟩) (hw _ (gw 28 rfl)) (ty := .int) (by decide) rfl rfl (g := (mkF m 16 #[.val (.ref a1), .val (.ref a2), .val (.ref a3), .val (.int p4), .val (.int p5), .val (.int p6)] [(.int p4), (.ref a1)])) rfl rfl (hb hby d7_16)
  have O23 : Old Z n0 h23 := O20.wr W23 g_a1
  have Fw23 : Fld Z h23 a1 "com/example/stemline/stemline/dialect/clickhouse/ClickHouseLexer$Token" "line" "I" (.int p4) := Fld.same W23 f21
  have N23 := Fr.snoc X23 N20 g_a1
  have f24 : Fld Z h23 a1 "com/example/stemline/stemline/dialect/clickhouse/ClickHouseLexer$Token" "start" "I" (.int (0 : Int32)) := (Fld.other W23 (Fld.other W20 (Fld.other W17 F15 (Or.inr (slot_ne (Or.inr (hw _ (gw 53 rfl))) (Or.inr (hw _ (gw 47 rfl))) (by decide) (t := .int) (t' := (.object "com/example/stemline/stemline/dialect/clickhouse/ClickHouseLexer$Kind")) (by decide) (by decide)))) (Or.inr (slot_ne (Or.inr (hw _ (gw 53 rfl))) (Or.inr (hw _ (gw 49 rfl))) (by decide) (t := .int) (t' := (.object "java/lang/String")) (by decide) (by decide)))) (Or.inr (slot_ne (Or.inr (hw _ (gw 53 rfl))) (Or.inr (hw _ (gw 51 rfl))) (by decide) (t := .int) (t' := .int) (by decide) (by decide))))
  have f25 : Exa Z h23 a1 "com/example/stemline/stemline/dialect/clickhouse/ClickHouseLexer$Token" := (Exa.wr W23 f22)
  obtain ⟨T26, h26, X26, e26, W26, st26⟩ := putF X23 hx hZ hown (host := "") (Or.inl (hw _ (gw 52 rfl))) Via.refl e23 f24 f25 (Or.inr ⟨(hw _ (gw 53 rfl)), rfl, hnm⟩) (hw _ (gw 28 rfl)) (ty := .int) (by decide) rfl rfl (g := (mkF m 22 #[.val (.ref a1), .val (.ref a2), .val (.ref a3), .val (.int p4), .val (.int p5), .val (.int p6)] [(.int p5), (.ref a1)])) rfl rfl (hb hby d7_22)
  have O26 : Old Z n0 h26 := O23.wr W26 g_a1
  have Fw26 : Fld Z h26 a1 "com/example/stemline/stemline/dialect/clickhouse/ClickHouseLexer$Token" "start" "I" (.int p5) := Fld.same W26 f24
  have N26 := Fr.snoc X26 N23 g_a1
  have f27 : Fld Z h26 a1 "com/example/stemline/stemline/dialect/clickhouse/ClickHouseLexer$Token" "end" "I" (.int (0 : Int32)) := (Fld.other W26 (Fld.other W23 (Fld.other W20 (Fld.other W17 F12 (Or.inr (slot_ne (Or.inr (hw _ (gw 55 rfl))) (Or.inr (hw _ (gw 47 rfl))) (by decide) (t := .int) (t' := (.object "com/example/stemline/stemline/dialect/clickhouse/ClickHouseLexer$Kind")) (by decide) (by decide)))) (Or.inr (slot_ne (Or.inr (hw _ (gw 55 rfl))) (Or.inr (hw _ (gw 49 rfl))) (by decide) (t := .int) (t' := (.object "java/lang/String")) (by decide) (by decide)))) (Or.inr (slot_ne (Or.inr (hw _ (gw 55 rfl))) (Or.inr (hw _ (gw 51 rfl))) (by decide) (t := .int) (t' := .int) (by decide) (by decide)))) (Or.inr (slot_ne (Or.inr (hw _ (gw 55 rfl))) (Or.inr (hw _ (gw 53 rfl))) (by decide) (t := .int) (t' := .int) (by decide) (by decide))))
  have f28 : Exa Z h26 a1 "com/example/stemline/stemline/dialect/clickhouse/ClickHouseLexer$Token" := (Exa.wr W26 f25)
  obtain ⟨T29, h29, X29, e29, W29, st29⟩ := putF X26 hx hZ hown (host := "") (Or.inl (hw _ (gw 54 rfl))) Via.refl e26 f27 f28 (Or.inr ⟨(hw _ (gw 55 rfl)), rfl, hnm⟩) (hw _ (gw 28 rfl)) (ty := .int) (by decide) rfl rfl (g := (mkF m 28 #[.val (.ref a1), .val (.ref a2), .val (.ref a3), .val (.int p4), .val (.int p5), .val (.int p6)] [(.int p6), (.ref a1)])) rfl rfl (hb hby d7_28)
  have O29 : Old Z n0 h29 := O26.wr W29 g_a1
  have Fw29 : Fld Z h29 a1 "com/example/stemline/stemline/dialect/clickhouse/ClickHouseLexer$Token" "end" "I" (.int p6) := Fld.same W29 f27
  have N29 := Fr.snoc X29 N26 g_a1
  obtain ⟨fs, hr, hrun, hended, hW, hsame⟩ := X29.leave (v := none) (fun _ => rfl)
  have f30 : Exa Z h29 a1 "com/example/stemline/stemline/dialect/clickhouse/ClickHouseLexer$Token" := (Exa.wr W29 f28)
  have f31 : Fld Z h29 a1 "com/example/stemline/stemline/dialect/clickhouse/ClickHouseLexer$Token" "kind" "Lcom/example/stemline/stemline/dialect/clickhouse/ClickHouseLexer$Kind;" (.ref a2) := (Fld.other W29 (Fld.other W26 (Fld.other W23 (Fld.other W20 Fw17 (Or.inr (slot_ne (Or.inr (hw _ (gw 47 rfl))) (Or.inr (hw _ (gw 49 rfl))) (by decide) (t := (.object "com/example/stemline/stemline/dialect/clickhouse/ClickHouseLexer$Kind")) (t' := (.object "java/lang/String")) (by decide) (by decide)))) (Or.inr (slot_ne (Or.inr (hw _ (gw 47 rfl))) (Or.inr (hw _ (gw 51 rfl))) (by decide) (t := (.object "com/example/stemline/stemline/dialect/clickhouse/ClickHouseLexer$Kind")) (t' := .int) (by decide) (by decide)))) (Or.inr (slot_ne (Or.inr (hw _ (gw 47 rfl))) (Or.inr (hw _ (gw 53 rfl))) (by decide) (t := (.object "com/example/stemline/stemline/dialect/clickhouse/ClickHouseLexer$Kind")) (t' := .int) (by decide) (by decide)))) (Or.inr (slot_ne (Or.inr (hw _ (gw 47 rfl))) (Or.inr (hw _ (gw 55 rfl))) (by decide) (t := (.object "com/example/stemline/stemline/dialect/clickhouse/ClickHouseLexer$Kind")) (t' := .int) (by decide) (by decide))))
  have f32 : Fld Z h29 a1 "com/example/stemline/stemline/dialect/clickhouse/ClickHouseLexer$Token" "line" "I" (.int p4) := (Fld.other W29 (Fld.other W26 Fw23 (Or.inr (slot_ne (Or.inr (hw _ (gw 51 rfl))) (Or.inr (hw _ (gw 53 rfl))) (by decide) (t := .int) (t' := .int) (by decide) (by decide)))) (Or.inr (slot_ne (Or.inr (hw _ (gw 51 rfl))) (Or.inr (hw _ (gw 55 rfl))) (by decide) (t := .int) (t' := .int) (by decide) (by decide))))
  have f33 : Fld Z h29 a1 "com/example/stemline/stemline/dialect/clickhouse/ClickHouseLexer$Token" "start" "I" (.int p5) := (Fld.other W29 Fw26 (Or.inr (slot_ne (Or.inr (hw _ (gw 53 rfl))) (Or.inr (hw _ (gw 55 rfl))) (by decide) (t := .int) (t' := .int) (by decide) (by decide))))
  have f34 : Fld Z h29 a1 "com/example/stemline/stemline/dialect/clickhouse/ClickHouseLexer$Token" "value" "Ljava/lang/String;" (.ref a3) := (Fld.other W29 (Fld.other W26 (Fld.other W23 Fw20 (Or.inr (slot_ne (Or.inr (hw _ (gw 49 rfl))) (Or.inr (hw _ (gw 51 rfl))) (by decide) (t := (.object "java/lang/String")) (t' := .int) (by decide) (by decide)))) (Or.inr (slot_ne (Or.inr (hw _ (gw 49 rfl))) (Or.inr (hw _ (gw 53 rfl))) (by decide) (t := (.object "java/lang/String")) (t' := .int) (by decide) (by decide)))) (Or.inr (slot_ne (Or.inr (hw _ (gw 49 rfl))) (Or.inr (hw _ (gw 55 rfl))) (by decide) (t := (.object "java/lang/String")) (t' := .int) (by decide) (by decide))))
  refine ⟨_, _, pre0 _ ?_, hrun, hended, _, _, rfl, ?_, ⟨_, rfl⟩, hW, hsame.mono (by decide) (by decide)⟩
  · show Steps p.tables e below (s₁.setTop (mkF m 0 #[.val (.ref a1), .val (.ref a2), .val (.ref a3), .val (.int p4), .val (.int p5), .val (.int p6)] [])) _
    refine XS.aloadN X0.here hx rfl (hb hby d7_0) rfl rfl ?_
    show Steps p.tables e below (s₁.setTop (mkF m 1 #[.val (.ref a1), .val (.ref a2), .val (.ref a3), .val (.int p4), .val (.int p5), .val (.int p6)] [(.ref a1)])) _
    refine st7.trans ?_
    show Steps p.tables e below (T7.setTop (mkF m 4 #[.val (.ref a1), .val (.ref a2), .val (.ref a3), .val (.int p4), .val (.int p5), .val (.int p6)] [])) _
    refine XS.aloadN X7.here hx rfl (hb hby d7_4) rfl rfl ?_
    show Steps p.tables e below (T7.setTop (mkF m 5 #[.val (.ref a1), .val (.ref a2), .val (.ref a3), .val (.int p4), .val (.int p5), .val (.int p6)] [(.ref a1)])) _
    refine XS.aloadN X7.here hx rfl (hb hby d7_5) rfl rfl ?_
    show Steps p.tables e below (T7.setTop (mkF m 6 #[.val (.ref a1), .val (.ref a2), .val (.ref a3), .val (.int p4), .val (.int p5), .val (.int p6)] [(.ref a2), (.ref a1)])) _
    refine st17 _ ?_
    show Steps p.tables e below (T17.setTop (mkF m 9 #[.val (.ref a1), .val (.ref a2), .val (.ref a3), .val (.int p4), .val (.int p5), .val (.int p6)] [])) _
    refine XS.aloadN X17.here hx rfl (hb hby d7_9) rfl rfl ?_
    show Steps p.tables e below (T17.setTop (mkF m 10 #[.val (.ref a1), .val (.ref a2), .val (.ref a3), .val (.int p4), .val (.int p5), .val (.int p6)] [(.ref a1)])) _
    refine XS.aloadN X17.here hx rfl (hb hby d7_10) rfl rfl ?_
    show Steps p.tables e below (T17.setTop (mkF m 11 #[.val (.ref a1), .val (.ref a2), .val (.ref a3), .val (.int p4), .val (.int p5), .val (.int p6)] [(.ref a3), (.ref a1)])) _
    refine st20 _ ?_
    show Steps p.tables e below (T20.setTop (mkF m 14 #[.val (.ref a1), .val (.ref a2), .val (.ref a3), .val (.int p4), .val (.int p5), .val (.int p6)] [])) _
    refine XS.aloadN X20.here hx rfl (hb hby d7_14) rfl rfl ?_
    show Steps p.tables e below (T20.setTop (mkF m 15 #[.val (.ref a1), .val (.ref a2), .val (.ref a3), .val (.int p4), .val (.int p5), .val (.int p6)] [(.ref a1)])) _
    refine XS.iloadN X20.here hx rfl (hb hby d7_15) rfl ?_
    show Steps p.tables e below (T20.setTop (mkF m 16 #[.val (.ref a1), .val (.ref a2), .val (.ref a3), .val (.int p4), .val (.int p5), .val (.int p6)] [(.int p4), (.ref a1)])) _
    refine st23 _ ?_
    show Steps p.tables e below (T23.setTop (mkF m 19 #[.val (.ref a1), .val (.ref a2), .val (.ref a3), .val (.int p4), .val (.int p5), .val (.int p6)] [])) _
    refine XS.aloadN X23.here hx rfl (hb hby d7_19) rfl rfl ?_
    show Steps p.tables e below (T23.setTop (mkF m 20 #[.val (.ref a1), .val (.ref a2), .val (.ref a3), .val (.int p4), .val (.int p5), .val (.int p6)] [(.ref a1)])) _
    refine XS.iload X23.here hx rfl (hb hby d7_20) rfl ?_
    show Steps p.tables e below (T23.setTop (mkF m 22 #[.val (.ref a1), .val (.ref a2), .val (.ref a3), .val (.int p4), .val (.int p5), .val (.int p6)] [(.int p5), (.ref a1)])) _
    refine st26 _ ?_
    show Steps p.tables e below (T26.setTop (mkF m 25 #[.val (.ref a1), .val (.ref a2), .val (.ref a3), .val (.int p4), .val (.int p5), .val (.int p6)] [])) _
    refine XS.aloadN X26.here hx rfl (hb hby d7_25) rfl rfl ?_
    show Steps p.tables e below (T26.setTop (mkF m 26 #[.val (.ref a1), .val (.ref a2), .val (.ref a3), .val (.int p4), .val (.int p5), .val (.int p6)] [(.ref a1)])) _
    refine XS.iload X26.here hx rfl (hb hby d7_26) rfl ?_
    show Steps p.tables e below (T26.setTop (mkF m 28 #[.val (.ref a1), .val (.ref a2), .val (.ref a3), .val (.int p4), .val (.int p5), .val (.int p6)] [(.int p6), (.ref a1)])) _
    refine st29 _ ?_
    show Steps p.tables e below (T29.setTop (mkF m 31 #[.val (.ref a1), .val (.ref a2), .val (.ref a3), .val (.int p4), .val (.int p5), .val (.int p6)] [])) _
    exact X29.returnOut hx Bd.returns (hb hby d7_31) hr
  · show Q7_7 Z _ _ _ _ _ _ h0 n0 _ T29.heap _
    rw [e29]
    exact ⟨rfl, N29, ((((((Keep.refl h0 [a1]).wr W17 (Or.inl (List.mem_of_getElem? (i := 0) rfl))).wr W20 (Or.inl (List.mem_of_getElem? (i := 0) rfl))).wr W23 (Or.inl (List.mem_of_getElem? (i := 0) rfl))).wr W26 (Or.inl (List.mem_of_getElem? (i := 0) rfl))).wr W29 (Or.inl (List.mem_of_getElem? (i := 0) rfl))), f30, Fw29, f31, f32, f33, f34⟩
theorem ef_rm9_9 (m : MethodId) (x0 : Addr) : entryFrame m #[(.ref x0)] 1 = mkF m 0 #[.val (.ref x0)] [] := by first | (simp [entryFrame, mkF, argsToLocals, Value.category]; done) | rfl
def Q9_9 (Z : State) (a1 : Addr) (a2 : Addr) (h0 : Heap) (n0 : Nat) (v : Option Value) (h : Heap) (L : List Loc) : Prop := (v = some (.int (1 : Int32)) ∧ Fr n0 L ∧ h = h0)
set_option maxRecDepth 65536 in
set_option maxHeartbeats 40000000 in
theorem rm9_9 (l : Launch) (Z : State) (a0 : Array Value) (hw : ∀ d ∈ own_ws, d.before a0 Z = true) (ws : List Jvm.Cond) (a1 : Addr) (a2 : Addr) (h0 : Heap) (n0 : Nat) (O0 : Old Z n0 h0) (F3 : Fld Z h0 a1 "com/example/stemline/stemline/dialect/clickhouse/ClickHouseLexer$Token" "kind" "Lcom/example/stemline/stemline/dialect/clickhouse/ClickHouseLexer$Kind;" (.ref a2)) (S_5 : Sta Z Z.heap "com/example/stemline/stemline/dialect/clickhouse/ClickHouseLexer$Kind" "WORD" "Lcom/example/stemline/stemline/dialect/clickhouse/ClickHouseLexer$Kind;" (.ref a2)) :
    MetFree l M_7 (head1 (Jvm.Cond.code M_7 prog_17_method_4_code 1 (some .boolean) :: ws) ({ frames := 0, cells := 0, slots := 0, locals := 0 } : Room)) (fun a U => a = #[(.ref a1)] ∧ Z.Warmed39 U.vm ∧ U.heap = h0) (fun _ _ _ _ _ => True) (fun _ U o U' => ∃ v L, o = .returned v ∧ Q9_9 Z a1 a2 h0 n0 v U'.heap L ∧ FrameEnd U o U' L ({ frames := 0, cells := 0, slots := 0, locals := 0 } : Room).cells ({ frames := 0, cells := 0, slots := 0, locals := 0 } : Room).slots) := by
  refine MetFree.of_bodySF (plainFor_of_name pn_4) hisR ?_
  intro p e s m args below meth c s₁ Bd hml0 hP hK
  obtain ⟨rfl, hZ, hh⟩ := hP
  have hx := Bd.exec
  have hby := Bd.bytes
  have hml : c.maxLocals = 1 := hml0
  have hown : s.vm.findClass "com/example/stemline/stemline/dialect/clickhouse/ClickHouseLexer$Token" = some m.cls := findClass_of_methodNamed Bd.named
  have hnm := (name_of_methodNamed Bd.named Bd.method).1
  have X0 : Stand p l e ({ frames := 0, cells := 0, slots := 0, locals := 0 } : Room) s m #[(.ref a1)] below meth c s₁ [] 0 0 := Stand.of_body Bd
  have e0 : s₁.heap = h0 := by rw [← hh, Bd.state]; rfl
  have N0 := Fr.nil n0
  have pre0 : ∀ t, Steps p.tables e below (s₁.setTop (mkF m 0 #[.val (.ref a1)] [])) t → Steps p.tables e below (s₁.setTop (entryFrame m #[(.ref a1)] 1)) t := fun t k => castTop (ef_rm9_9 m a1) k
  obtain ⟨T4, X4, e4, st4⟩ := getF X0 hx hZ hown (host := "") (Or.inl (hw _ (gw 46 rfl))) Via.refl e0 F3 (g := (mkF m 1 #[.val (.ref a1)] [(.ref a1)])) rfl rfl (hb hby d9_1)
  obtain ⟨T6, X6, e6, st6⟩ := getS2 X4 hx hZ hown (host := "") (Or.inl (hw _ (gw 61 rfl))) Via.refl e4 (Sta.ext O0.2 S_5) (g := (mkF m 4 #[.val (.ref a1)] [(.ref a2)])) rfl (hb hby d9_4)
  obtain ⟨fs, hr, hrun, hended, hW, hsame⟩ := X6.leave (v := some (.int (1 : Int32))) (fun h => by rw [Bd.returns] at h; cases h)
  refine ⟨_, _, pre0 _ ?_, hrun, hended, _, _, rfl, ?_, ⟨_, rfl⟩, hW, hsame.mono (by decide) (by decide)⟩
  · show Steps p.tables e below (s₁.setTop (mkF m 0 #[.val (.ref a1)] [])) _
    refine XS.aloadN X0.here hx rfl (hb hby d9_0) rfl rfl ?_
    show Steps p.tables e below (s₁.setTop (mkF m 1 #[.val (.ref a1)] [(.ref a1)])) _
    refine st4 _ ?_
    show Steps p.tables e below (T4.setTop (mkF m 4 #[.val (.ref a1)] [(.ref a2)])) _
    refine st6 _ ?_
    show Steps p.tables e below (T6.setTop (mkF m 7 #[.val (.ref a1)] [(.ref a2), (.ref a2)])) _
    refine Jvm.RoadKit.acmp (g := (mkF m 7 #[.val (.ref a1)] [(.ref a2), (.ref a2)])) X6 hx rfl rfl rfl (pc0 := 7) (pc' := 20) (same := true) rfl (hb hby d9_7) rfl (decide_eq_true rfl) (by decide) (by decide) ?_
    show Steps p.tables e below (T6.setTop (mkF m 20 #[.val (.ref a1)] [])) _
    refine XS.iconst X6.here hx rfl (hb hby d9_20) ?_
    show Steps p.tables e below (T6.setTop (mkF m 21 #[.val (.ref a1)] [(.int (1 : Int32))])) _
    refine XS.goto X6.here hx rfl (pc0 := 21) (pc' := 25) rfl (hb hby d9_21) (by decide) (by decide) ?_
    show Steps p.tables e below (T6.setTop (mkF m 25 #[.val (.ref a1)] [(.int (1 : Int32))])) _
    exact retN X6 hx (t := .boolean) Bd.returns (by simp) (hb hby d9_25) hr
  · show Q9_9 Z _ _ h0 n0 _ T6.heap _
    rw [e6]
    exact ⟨rfl, N0, rfl⟩
theorem ef_rm6_10 (m : MethodId)  : entryFrame m #[(.int (1 : Int32))] 1 = mkF m 0 #[.val (.int (1 : Int32))] [] := by first | (simp [entryFrame, mkF, argsToLocals, Value.category]; done) | rfl
def Q6_10 (Z : State) (a1 : Addr) (h0 : Heap) (n0 : Nat) (v : Option Value) (h : Heap) (L : List Loc) : Prop := (v = some (.ref a1) ∧ Fr n0 L ∧ h = h0)
set_option maxRecDepth 65536 in
set_option maxHeartbeats 40000000 in
theorem rm6_10 (l : Launch) (Z : State) (a0 : Array Value) (hw : ∀ d ∈ own_ws, d.before a0 Z = true) (ws : List Jvm.Cond) (a1 : Addr) (h0 : Heap) (n0 : Nat) (O0 : Old Z n0 h0) (S_2 : Sta Z Z.heap "com/example/stemline/stemline/dialect/clickhouse/ClickHouseLexer$Kind" "QUOTED" "Lcom/example/stemline/stemline/dialect/clickhouse/ClickHouseLexer$Kind;" (.ref a1)) :
    MetFree l M_4 (head1 (Jvm.Cond.code M_4 method_2_code 1 (some (.object "com/example/stemline/stemline/dialect/clickhouse/ClickHouseLexer$Kind")) :: ws) ({ frames := 0, cells := 0, slots := 0, locals := 0 } : Room)) (fun a U => a = #[(.int (1 : Int32))] ∧ Z.Warmed39 U.vm ∧ U.heap = h0) (fun _ _ _ _ _ => True) (fun _ U o U' => ∃ v L, o = .returned v ∧ Q6_10 Z a1 h0 n0 v U'.heap L ∧ FrameEnd U o U' L ({ frames := 0, cells := 0, slots := 0, locals := 0 } : Room).cells ({ frames := 0, cells := 0, slots := 0, locals := 0 } : Room).slots) := by
  refine MetFree.of_bodySF (plainFor_of_name pn_2) hisR ?_
  intro p e s m args below meth c s₁ Bd hml0 hP hK
  obtain ⟨rfl, hZ, hh⟩ := hP
  have hx := Bd.exec
  have hby := Bd.bytes
  have hml : c.maxLocals = 1 := hml0
  have hown : s.vm.findClass "com/example/stemline/stemline/dialect/clickhouse/TokenIsNamePinLaw" = some m.cls := findClass_of_methodNamed Bd.named
  have hnm := (name_of_methodNamed Bd.named Bd.method).1
  have X0 : Stand p l e ({ frames := 0, cells := 0, slots := 0, locals := 0 } : Room) s m #[(.int (1 : Int32))] below meth c s₁ [] 0 0 := Stand.of_body Bd
  have e0 : s₁.heap = h0 := by rw [← hh, Bd.state]; rfl
  have N0 := Fr.nil n0
  have pre0 : ∀ t, Steps p.tables e below (s₁.setTop (mkF m 0 #[.val (.int (1 : Int32))] [])) t → Steps p.tables e below (s₁.setTop (entryFrame m #[(.int (1 : Int32))] 1)) t := fun t k => castTop (ef_rm6_10 m ) k
  obtain ⟨T3, X3, e3, st3⟩ := getS2 X0 hx hZ hown (host := "") (Or.inl (hw _ (gw 70 rfl))) Via.refl e0 (Sta.ext O0.2 S_2) (g := (mkF m 13 #[.val (.int (1 : Int32))] [])) rfl (hb hby d6_13)
  obtain ⟨fs, hr, hrun, hended, hW, hsame⟩ := X3.leave (v := some (.ref a1)) (fun h => by rw [Bd.returns] at h; cases h)
  refine ⟨_, _, pre0 _ ?_, hrun, hended, _, _, rfl, ?_, ⟨_, rfl⟩, hW, hsame.mono (by decide) (by decide)⟩
  · show Steps p.tables e below (s₁.setTop (mkF m 0 #[.val (.int (1 : Int32))] [])) _
    refine XS.iloadN X0.here hx rfl (hb hby d6_0) rfl ?_
    show Steps p.tables e below (s₁.setTop (mkF m 1 #[.val (.int (1 : Int32))] [(.int (1 : Int32))])) _
    refine XS.ifYes X0.here hx rfl (pc0 := 1) (pc' := 8) rfl (hb hby d6_1) rfl ((if0 _ _).trans (feq (by decide +kernel : ¬ ((1 : Int32) = (0 : Int32)))).2) (by decide) (by decide) ?_
    show Steps p.tables e below (s₁.setTop (mkF m 8 #[.val (.int (1 : Int32))] [])) _
    refine XS.iloadN X0.here hx rfl (hb hby d6_8) rfl ?_
    show Steps p.tables e below (s₁.setTop (mkF m 9 #[.val (.int (1 : Int32))] [(.int (1 : Int32))])) _
    refine XS.iconst X0.here hx rfl (hb hby d6_9) ?_
    show Steps p.tables e below (s₁.setTop (mkF m 10 #[.val (.int (1 : Int32))] [(.int (1 : Int32)), (.int (1 : Int32))])) _
    refine XS.icmpNo X0.here hx rfl (hb hby d6_10) rfl (teq (by decide +kernel : (1 : Int32) = (1 : Int32))).2 ?_
    show Steps p.tables e below (s₁.setTop (mkF m 13 #[.val (.int (1 : Int32))] [])) _
    refine st3 _ ?_
    show Steps p.tables e below (T3.setTop (mkF m 16 #[.val (.int (1 : Int32))] [(.ref a1)])) _
    jvm_step X3.here [X3.here.top, hx, (hb hby d6_16), X3.method', Bd.returns, Value.isRef, FieldType.isReference]
    first | (intro acts; rw [hr _ acts rfl rfl rfl]) | rw [hr _ _ rfl rfl rfl]
    exact Steps.refl _
  · show Q6_10 Z _ h0 n0 _ T3.heap _
    rw [e3]
    exact ⟨rfl, N0, rfl⟩
theorem ef_rm9_11 (m : MethodId) (x0 : Addr) : entryFrame m #[(.ref x0)] 1 = mkF m 0 #[.val (.ref x0)] [] := by first | (simp [entryFrame, mkF, argsToLocals, Value.category]; done) | rfl
def Q9_11 (Z : State) (a1 : Addr) (a2 : Addr) (a5 : Addr) (h0 : Heap) (n0 : Nat) (v : Option Value) (h : Heap) (L : List Loc) : Prop := (v = some (.int (1 : Int32)) ∧ Fr n0 L ∧ h = h0)
set_option maxRecDepth 65536 in
set_option maxHeartbeats 40000000 in
theorem rm9_11 (l : Launch) (Z : State) (a0 : Array Value) (hw : ∀ d ∈ own_ws, d.before a0 Z = true) (ws : List Jvm.Cond) (a1 : Addr) (a2 : Addr) (a5 : Addr) (h0 : Heap) (n0 : Nat) (O0 : Old Z n0 h0) (F3 : Fld Z h0 a1 "com/example/stemline/stemline/dialect/clickhouse/ClickHouseLexer$Token" "kind" "Lcom/example/stemline/stemline/dialect/clickhouse/ClickHouseLexer$Kind;" (.ref a2)) (S_6 : Sta Z Z.heap "com/example/stemline/stemline/dialect/clickhouse/ClickHouseLexer$Kind" "WORD" "Lcom/example/stemline/stemline/dialect/clickhouse/ClickHouseLexer$Kind;" (.ref a5)) (hne8 : a2 ≠ a5) (S_10 : Sta Z Z.heap "com/example/stemline/stemline/dialect/clickhouse/ClickHouseLexer$Kind" "QUOTED" "Lcom/example/stemline/stemline/dialect/clickhouse/ClickHouseLexer$Kind;" (.ref a2)) :
    MetFree l M_7 (head1 (Jvm.Cond.code M_7 prog_17_method_4_code 1 (some .boolean) :: ws) ({ frames := 0, cells := 0, slots := 0, locals := 0 } : Room)) (fun a U => a = #[(.ref a1)] ∧ Z.Warmed39 U.vm ∧ U.heap = h0) (fun _ _ _ _ _ => True) (fun _ U o U' => ∃ v L, o = .returned v ∧ Q9_11 Z a1 a2 a5 h0 n0 v U'.heap L ∧ FrameEnd U o U' L ({ frames := 0, cells := 0, slots := 0, locals := 0 } : Room).cells ({ frames := 0, cells := 0, slots := 0, locals := 0 } : Room).slots) := by
  refine MetFree.of_bodySF (plainFor_of_name pn_4) hisR ?_
  intro p e s m args below meth c s₁ Bd hml0 hP hK
  obtain ⟨rfl, hZ, hh⟩ := hP
  have hx := Bd.exec
  have hby := Bd.bytes
  have hml : c.maxLocals = 1 := hml0
  have hown : s.vm.findClass "com/example/stemline/stemline/dialect/clickhouse/ClickHouseLexer$Token" = some m.cls := findClass_of_methodNamed Bd.named
  have hnm := (name_of_methodNamed Bd.named Bd.method).1
  have X0 : Stand p l e ({ frames := 0, cells := 0, slots := 0, locals := 0 } : Room) s m #[(.ref a1)] below meth c s₁ [] 0 0 := Stand.of_body Bd
  have e0 : s₁.heap = h0 := by rw [← hh, Bd.state]; rfl
  have N0 := Fr.nil n0
  have pre0 : ∀ t, Steps p.tables e below (s₁.setTop (mkF m 0 #[.val (.ref a1)] [])) t → Steps p.tables e below (s₁.setTop (entryFrame m #[(.ref a1)] 1)) t := fun t k => castTop (ef_rm9_11 m a1) k
  obtain ⟨T4, X4, e4, st4⟩ := getF X0 hx hZ hown (host := "") (Or.inl (hw _ (gw 46 rfl))) Via.refl e0 F3 (g := (mkF m 1 #[.val (.ref a1)] [(.ref a1)])) rfl rfl (hb hby d9_1)
  obtain ⟨T7, X7, e7, st7⟩ := getS2 X4 hx hZ hown (host := "") (Or.inl (hw _ (gw 61 rfl))) Via.refl e4 (Sta.ext O0.2 S_6) (g := (mkF m 4 #[.val (.ref a1)] [(.ref a2)])) rfl (hb hby d9_4)
  obtain ⟨T9, X9, e9, st9⟩ := getF X7 hx hZ hown (host := "") (Or.inl (hw _ (gw 46 rfl))) Via.refl e7 F3 (g := (mkF m 11 #[.val (.ref a1)] [(.ref a1)])) rfl rfl (hb hby d9_11)
  obtain ⟨T11, X11, e11, st11⟩ := getS2 X9 hx hZ hown (host := "") (Or.inl (hw _ (gw 64 rfl))) Via.refl e9 (Sta.ext O0.2 S_10) (g := (mkF m 14 #[.val (.ref a1)] [(.ref a2)])) rfl (hb hby d9_14)
  obtain ⟨fs, hr, hrun, hended, hW, hsame⟩ := X11.leave (v := some (.int (1 : Int32))) (fun h => by rw [Bd.returns] at h; cases h)
  refine ⟨_, _, pre0 _ ?_, hrun, hended, _, _, rfl, ?_, ⟨_, rfl⟩, hW, hsame.mono (by decide) (by decide)⟩
  · show Steps p.tables e below (s₁.setTop (mkF m 0 #[.val (.ref a1)] [])) _
    refine XS.aloadN X0.here hx rfl (hb hby d9_0) rfl rfl ?_
    show Steps p.tables e below (s₁.setTop (mkF m 1 #[.val (.ref a1)] [(.ref a1)])) _
    refine st4 _ ?_
    show Steps p.tables e below (T4.setTop (mkF m 4 #[.val (.ref a1)] [(.ref a2)])) _
    refine st7 _ ?_
    show Steps p.tables e below (T7.setTop (mkF m 7 #[.val (.ref a1)] [(.ref a5), (.ref a2)])) _
    refine Jvm.RoadKit.acmp (g := (mkF m 7 #[.val (.ref a1)] [(.ref a5), (.ref a2)])) X7 hx rfl rfl rfl (pc0 := 7) (pc' := 10) (same := false) rfl (hb hby d9_7) rfl (decide_eq_false fun q => hne8 (Value.ref.inj q)) (by decide) (by decide) ?_
    show Steps p.tables e below (T7.setTop (mkF m 10 #[.val (.ref a1)] [])) _
    refine XS.aloadN X7.here hx rfl (hb hby d9_10) rfl rfl ?_
    show Steps p.tables e below (T7.setTop (mkF m 11 #[.val (.ref a1)] [(.ref a1)])) _
    refine st9 _ ?_
    show Steps p.tables e below (T9.setTop (mkF m 14 #[.val (.ref a1)] [(.ref a2)])) _
    refine st11 _ ?_
    show Steps p.tables e below (T11.setTop (mkF m 17 #[.val (.ref a1)] [(.ref a2), (.ref a2)])) _
    refine Jvm.RoadKit.acmp (g := (mkF m 17 #[.val (.ref a1)] [(.ref a2), (.ref a2)])) X11 hx rfl rfl rfl (pc0 := 17) (pc' := 20) (same := true) rfl (hb hby d9_17) rfl (decide_eq_true rfl) (by decide) (by decide) ?_
    show Steps p.tables e below (T11.setTop (mkF m 20 #[.val (.ref a1)] [])) _
    refine XS.iconst X11.here hx rfl (hb hby d9_20) ?_
    show Steps p.tables e below (T11.setTop (mkF m 21 #[.val (.ref a1)] [(.int (1 : Int32))])) _
    refine XS.goto X11.here hx rfl (pc0 := 21) (pc' := 25) rfl (hb hby d9_21) (by decide) (by decide) ?_
    show Steps p.tables e below (T11.setTop (mkF m 25 #[.val (.ref a1)] [(.int (1 : Int32))])) _
    exact retN X11 hx (t := .boolean) Bd.returns (by simp) (hb hby d9_25) hr
  · show Q9_11 Z _ _ _ h0 n0 _ T11.heap _
    rw [e11]
    exact ⟨rfl, N0, rfl⟩
theorem ef_rm6_12 (m : MethodId)  : entryFrame m #[(.int (2 : Int32))] 1 = mkF m 0 #[.val (.int (2 : Int32))] [] := by first | (simp [entryFrame, mkF, argsToLocals, Value.category]; done) | rfl
def Q6_12 (Z : State) (a1 : Addr) (h0 : Heap) (n0 : Nat) (v : Option Value) (h : Heap) (L : List Loc) : Prop := (v = some (.ref a1) ∧ Fr n0 L ∧ h = h0)
set_option maxRecDepth 65536 in
set_option maxHeartbeats 40000000 in
theorem rm6_12 (l : Launch) (Z : State) (a0 : Array Value) (hw : ∀ d ∈ own_ws, d.before a0 Z = true) (ws : List Jvm.Cond) (a1 : Addr) (h0 : Heap) (n0 : Nat) (O0 : Old Z n0 h0) (S_2 : Sta Z Z.heap "com/example/stemline/stemline/dialect/clickhouse/ClickHouseLexer$Kind" "STRING" "Lcom/example/stemline/stemline/dialect/clickhouse/ClickHouseLexer$Kind;" (.ref a1)) :
    MetFree l M_4 (head1 (Jvm.Cond.code M_4 method_2_code 1 (some (.object "com/example/stemline/stemline/dialect/clickhouse/ClickHouseLexer$Kind")) :: ws) ({ frames := 0, cells := 0, slots := 0, locals := 0 } : Room)) (fun a U => a = #[(.int (2 : Int32))] ∧ Z.Warmed39 U.vm ∧ U.heap = h0) (fun _ _ _ _ _ => True) (fun _ U o U' => ∃ v L, o = .returned v ∧ Q6_12 Z a1 h0 n0 v U'.heap L ∧ FrameEnd U o U' L ({ frames := 0, cells := 0, slots := 0, locals := 0 } : Room).cells ({ frames := 0, cells := 0, slots := 0, locals := 0 } : Room).slots) := by
  refine MetFree.of_bodySF (plainFor_of_name pn_2) hisR ?_
  intro p e s m args below meth c s₁ Bd hml0 hP hK
  obtain ⟨rfl, hZ, hh⟩ := hP
  have hx := Bd.exec
  have hby := Bd.bytes
  have hml : c.maxLocals = 1 := hml0
  have hown : s.vm.findClass "com/example/stemline/stemline/dialect/clickhouse/TokenIsNamePinLaw" = some m.cls := findClass_of_methodNamed Bd.named
  have hnm := (name_of_methodNamed Bd.named Bd.method).1
  have X0 : Stand p l e ({ frames := 0, cells := 0, slots := 0, locals := 0 } : Room) s m #[(.int (2 : Int32))] below meth c s₁ [] 0 0 := Stand.of_body Bd
  have e0 : s₁.heap = h0 := by rw [← hh, Bd.state]; rfl
  have N0 := Fr.nil n0
  have pre0 : ∀ t, Steps p.tables e below (s₁.setTop (mkF m 0 #[.val (.int (2 : Int32))] [])) t → Steps p.tables e below (s₁.setTop (entryFrame m #[(.int (2 : Int32))] 1)) t := fun t k => castTop (ef_rm6_12 m ) k
  obtain ⟨T3, X3, e3, st3⟩ := getS2 X0 hx hZ hown (host := "") (Or.inl (hw _ (gw 66 rfl))) Via.refl e0 (Sta.ext O0.2 S_2) (g := (mkF m 22 #[.val (.int (2 : Int32))] [])) rfl (hb hby d6_22)
  obtain ⟨fs, hr, hrun, hended, hW, hsame⟩ := X3.leave (v := some (.ref a1)) (fun h => by rw [Bd.returns] at h; cases h)
  refine ⟨_, _, pre0 _ ?_, hrun, hended, _, _, rfl, ?_, ⟨_, rfl⟩, hW, hsame.mono (by decide) (by decide)⟩
  · show Steps p.tables e below (s₁.setTop (mkF m 0 #[.val (.int (2 : Int32))] [])) _
    refine XS.iloadN X0.here hx rfl (hb hby d6_0) rfl ?_
    show Steps p.tables e below (s₁.setTop (mkF m 1 #[.val (.int (2 : Int32))] [(.int (2 : Int32))])) _
    refine XS.ifYes X0.here hx rfl (pc0 := 1) (pc' := 8) rfl (hb hby d6_1) rfl ((if0 _ _).trans (feq (by decide +kernel : ¬ ((2 : Int32) = (0 : Int32)))).2) (by decide) (by decide) ?_
    show Steps p.tables e below (s₁.setTop (mkF m 8 #[.val (.int (2 : Int32))] [])) _
    refine XS.iloadN X0.here hx rfl (hb hby d6_8) rfl ?_
    show Steps p.tables e below (s₁.setTop (mkF m 9 #[.val (.int (2 : Int32))] [(.int (2 : Int32))])) _
    refine XS.iconst X0.here hx rfl (hb hby d6_9) ?_
    show Steps p.tables e below (s₁.setTop (mkF m 10 #[.val (.int (2 : Int32))] [(.int (1 : Int32)), (.int (2 : Int32))])) _
    refine XS.icmpYes X0.here hx rfl (pc0 := 10) (pc' := 17) rfl (hb hby d6_10) rfl (feq (by decide +kernel : ¬ ((2 : Int32) = (1 : Int32)))).2 (by decide) (by decide) ?_
    show Steps p.tables e below (s₁.setTop (mkF m 17 #[.val (.int (2 : Int32))] [])) _
    refine XS.iloadN X0.here hx rfl (hb hby d6_17) rfl ?_
    show Steps p.tables e below (s₁.setTop (mkF m 18 #[.val (.int (2 : Int32))] [(.int (2 : Int32))])) _
    refine XS.iconst X0.here hx rfl (hb hby d6_18) ?_
    show Steps p.tables e below (s₁.setTop (mkF m 19 #[.val (.int (2 : Int32))] [(.int (2 : Int32)), (.int (2 : Int32))])) _
    refine XS.icmpNo X0.here hx rfl (hb hby d6_19) rfl (teq (by decide +kernel : (2 : Int32) = (2 : Int32))).2 ?_
    show Steps p.tables e below (s₁.setTop (mkF m 22 #[.val (.int (2 : Int32))] [])) _
    refine st3 _ ?_
    show Steps p.tables e below (T3.setTop (mkF m 25 #[.val (.int (2 : Int32))] [(.ref a1)])) _
    jvm_step X3.here [X3.here.top, hx, (hb hby d6_25), X3.method', Bd.returns, Value.isRef, FieldType.isReference]
    first | (intro acts; rw [hr _ acts rfl rfl rfl]) | rw [hr _ _ rfl rfl rfl]
    exact Steps.refl _
  · show Q6_12 Z _ h0 n0 _ T3.heap _
    rw [e3]
    exact ⟨rfl, N0, rfl⟩
theorem ef_rm9_13 (m : MethodId) (x0 : Addr) : entryFrame m #[(.ref x0)] 1 = mkF m 0 #[.val (.ref x0)] [] := by first | (simp [entryFrame, mkF, argsToLocals, Value.category]; done) | rfl
def Q9_13 (Z : State) (a1 : Addr) (a2 : Addr) (a5 : Addr) (a10 : Addr) (h0 : Heap) (n0 : Nat) (v : Option Value) (h : Heap) (L : List Loc) : Prop := (v = some (.int (0 : Int32)) ∧ Fr n0 L ∧ h = h0)
set_option maxRecDepth 65536 in
set_option maxHeartbeats 40000000 in
theorem rm9_13 (l : Launch) (Z : State) (a0 : Array Value) (hw : ∀ d ∈ own_ws, d.before a0 Z = true) (ws : List Jvm.Cond) (a1 : Addr) (a2 : Addr) (a5 : Addr) (a10 : Addr) (h0 : Heap) (n0 : Nat) (O0 : Old Z n0 h0) (F3 : Fld Z h0 a1 "com/example/stemline/stemline/dialect/clickhouse/ClickHouseLexer$Token" "kind" "Lcom/example/stemline/stemline/dialect/clickhouse/ClickHouseLexer$Kind;" (.ref a2)) (S_6 : Sta Z Z.heap "com/example/stemline/stemline/dialect/clickhouse/ClickHouseLexer$Kind" "WORD" "Lcom/example/stemline/stemline/dialect/clickhouse/ClickHouseLexer$Kind;" (.ref a5)) (hne8 : a2 ≠ a5) (S_11 : Sta Z Z.heap "com/example/stemline/stemline/dialect/clickhouse/ClickHouseLexer$Kind" "QUOTED" "Lcom/example/stemline/stemline/dialect/clickhouse/ClickHouseLexer$Kind;" (.ref a10)) (hne13 : a2 ≠ a10) :
    MetFree l M_7 (head1 (Jvm.Cond.code M_7 prog_17_method_4_code 1 (some .boolean) :: ws) ({ frames := 0, cells := 0, slots := 0, locals := 0 } : Room)) (fun a U => a = #[(.ref a1)] ∧ Z.Warmed39 U.vm ∧ U.heap = h0) (fun _ _ _ _ _ => True) (fun _ U o U' => ∃ v L, o = .returned v ∧ Q9_13 Z a1 a2 a5 a10 h0 n0 v U'.heap L ∧ FrameEnd U o U' L ({ frames := 0, cells := 0, slots := 0, locals := 0 } : Room).cells ({ frames := 0, cells := 0, slots := 0, locals := 0 } : Room).slots) := by
  refine MetFree.of_bodySF (plainFor_of_name pn_4) hisR ?_
  intro p e s m args below meth c s₁ Bd hml0 hP hK
  obtain ⟨rfl, hZ, hh⟩ := hP
  have hx := Bd.exec
  have hby := Bd.bytes
  have hml : c.maxLocals = 1 := hml0
  have hown : s.vm.findClass "com/example/stemline/stemline/dialect/clickhouse/ClickHouseLexer$Token" = some m.cls := findClass_of_methodNamed Bd.named
  have hnm := (name_of_methodNamed Bd.named Bd.method).1
  have X0 : Stand p l e ({ frames := 0, cells := 0, slots := 0, locals := 0 } : Room) s m #[(.ref a1)] below meth c s₁ [] 0 0 := Stand.of_body Bd
  have e0 : s₁.heap = h0 := by rw [← hh, Bd.state]; rfl
  have N0 := Fr.nil n0
  have pre0 : ∀ t, Steps p.tables e below (s₁.setTop (mkF m 0 #[.val (.ref a1)] [])) t → Steps p.tables e below (s₁.setTop (entryFrame m #[(.ref a1)] 1)) t := fun t k => castTop (ef_rm9_13 m a1) k
  obtain ⟨T4, X4, e4, st4⟩ := getF X0 hx hZ hown (host := "") (Or.inl (hw _ (gw 46 rfl))) Via.refl e0 F3 (g := (mkF m 1 #[.val (.ref a1)] [(.ref a1)])) rfl rfl (hb hby d9_1)
  obtain ⟨T7, X7, e7, st7⟩ := getS2 X4 hx hZ hown (host := "") (Or.inl (hw _ (gw 61 rfl))) Via.refl e4 (Sta.ext O0.2 S_6) (g := (mkF m 4 #[.val (.ref a1)] [(.ref a2)])) rfl (hb hby d9_4)
  obtain ⟨T9, X9, e9, st9⟩ := getF X7 hx hZ hown (host := "") (Or.inl (hw _ (gw 46 rfl))) Via.refl e7 F3 (g := (mkF m 11 #[.val (.ref a1)] [(.ref a1)])) rfl rfl (hb hby d9_11)
  obtain ⟨T12, X12, e12, st12⟩ := getS2 X9 hx hZ hown (host := "") (Or.inl (hw _ (gw 64 rfl))) Via.refl e9 (Sta.ext O0.2 S_11) (g := (mkF m 14 #[.val (.ref a1)] [(.ref a2)])) rfl (hb hby d9_14)
  obtain ⟨fs, hr, hrun, hended, hW, hsame⟩ := X12.leave (v := some (.int (0 : Int32))) (fun h => by rw [Bd.returns] at h; cases h)
  refine ⟨_, _, pre0 _ ?_, hrun, hended, _, _, rfl, ?_, ⟨_, rfl⟩, hW, hsame.mono (by decide) (by decide)⟩
  · show Steps p.tables e below (s₁.setTop (mkF m 0 #[.val (.ref a1)] [])) _
    refine XS.aloadN X0.here hx rfl (hb hby d9_0) rfl rfl ?_
    show Steps p.tables e below (s₁.setTop (mkF m 1 #[.val (.ref a1)] [(.ref a1)])) _
    refine st4 _ ?_
    show Steps p.tables e below (T4.setTop (mkF m 4 #[.val (.ref a1)] [(.ref a2)])) _
    refine st7 _ ?_
    show Steps p.tables e below (T7.setTop (mkF m 7 #[.val (.ref a1)] [(.ref a5), (.ref a2)])) _
    refine Jvm.RoadKit.acmp (g := (mkF m 7 #[.val (.ref a1)] [(.ref a5), (.ref a2)])) X7 hx rfl rfl rfl (pc0 := 7) (pc' := 10) (same := false) rfl (hb hby d9_7) rfl (decide_eq_false fun q => hne8 (Value.ref.inj q)) (by decide) (by decide) ?_
    show Steps p.tables e below (T7.setTop (mkF m 10 #[.val (.ref a1)] [])) _
    refine XS.aloadN X7.here hx rfl (hb hby d9_10) rfl rfl ?_
    show Steps p.tables e below (T7.setTop (mkF m 11 #[.val (.ref a1)] [(.ref a1)])) _
    refine st9 _ ?_
    show Steps p.tables e below (T9.setTop (mkF m 14 #[.val (.ref a1)] [(.ref a2)])) _
    refine st12 _ ?_
    show Steps p.tables e below (T12.setTop (mkF m 17 #[.val (.ref a1)] [(.ref a10), (.ref a2)])) _
    refine Jvm.RoadKit.acmp (g := (mkF m 17 #[.val (.ref a1)] [(.ref a10), (.ref a2)])) X12 hx rfl rfl rfl (pc0 := 17) (pc' := 24) (same := false) rfl (hb hby d9_17) rfl (decide_eq_false fun q => hne13 (Value.ref.inj q)) (by decide) (by decide) ?_
    show Steps p.tables e below (T12.setTop (mkF m 24 #[.val (.ref a1)] [])) _
    refine XS.iconst X12.here hx rfl (hb hby d9_24) ?_
    show Steps p.tables e below (T12.setTop (mkF m 25 #[.val (.ref a1)] [(.int (0 : Int32))])) _
    exact retN X12 hx (t := .boolean) Bd.returns (by simp) (hb hby d9_25) hr
  · show Q9_13 Z _ _ _ _ h0 n0 _ T12.heap _
    rw [e12]
    exact ⟨rfl, N0, rfl⟩
theorem ef_rm6_14 (m : MethodId)  : entryFrame m #[(.int (3 : Int32))] 1 = mkF m 0 #[.val (.int (3 : Int32))] [] := by first | (simp [entryFrame, mkF, argsToLocals, Value.category]; done) | rfl
def Q6_14 (Z : State) (a1 : Addr) (h0 : Heap) (n0 : Nat) (v : Option Value) (h : Heap) (L : List Loc) : Prop := (v = some (.ref a1) ∧ Fr n0 L ∧ h = h0)
set_option maxRecDepth 65536 in
set_option maxHeartbeats 40000000 in
theorem rm6_14 (l : Launch) (Z : State) (a0 : Array Value) (hw : ∀ d ∈ own_ws, d.before a0 Z = true) (ws : List Jvm.Cond) (a1 : Addr) (h0 : Heap) (n0 : Nat) (O0 : Old Z n0 h0) (S_2 : Sta Z Z.heap "com/example/stemline/stemline/dialect/clickhouse/ClickHouseLexer$Kind" "NUMBER" "Lcom/example/stemline/stemline/dialect/clickhouse/ClickHouseLexer$Kind;" (.ref a1)) :
    MetFree l M_4 (head1 (Jvm.Cond.code M_4 method_2_code 1 (some (.object "com/example/stemline/stemline/dialect/clickhouse/ClickHouseLexer$Kind")) :: ws) ({ frames := 0, cells := 0, slots := 0, locals := 0 } : Room)) (fun a U => a = #[(.int (3 : Int32))] ∧ Z.Warmed39 U.vm ∧ U.heap = h0) (fun _ _ _ _ _ => True) (fun _ U o U' => ∃ v L, o = .returned v ∧ Q6_14 Z a1 h0 n0 v U'.heap L ∧ FrameEnd U o U' L ({ frames := 0, cells := 0, slots := 0, locals := 0 } : Room).cells ({ frames := 0, cells := 0, slots := 0, locals := 0 } : Room).slots) := by
  refine MetFree.of_bodySF (plainFor_of_name pn_2) hisR ?_
  intro p e s m args below meth c s₁ Bd hml0 hP hK
  obtain ⟨rfl, hZ, hh⟩ := hP
  have hx := Bd.exec
  have hby := Bd.bytes
  have hml : c.maxLocals = 1 := hml0
  have hown : s.vm.findClass "com/example/stemline/stemline/dialect/clickhouse/TokenIsNamePinLaw" = some m.cls := findClass_of_methodNamed Bd.named
  have hnm := (name_of_methodNamed Bd.named Bd.method).1
  have X0 : Stand p l e ({ frames := 0, cells := 0, slots := 0, locals := 0 } : Room) s m #[(.int (3 : Int32))] below meth c s₁ [] 0 0 := Stand.of_body Bd
  have e0 : s₁.heap = h0 := by rw [← hh, Bd.state]; rfl
  have N0 := Fr.nil n0
  have pre0 : ∀ t, Steps p.tables e below (s₁.setTop (mkF m 0 #[.val (.int (3 : Int32))] [])) t → Steps p.tables e below (s₁.setTop (entryFrame m #[(.int (3 : Int32))] 1)) t := fun t k => castTop (ef_rm6_14 m ) k
  obtain ⟨T3, X3, e3, st3⟩ := getS2 X0 hx hZ hown (host := "") (Or.inl (hw _ (gw 62 rfl))) Via.refl e0 (Sta.ext O0.2 S_2) (g := (mkF m 31 #[.val (.int (3 : Int32))] [])) rfl (hb hby d6_31)
  obtain ⟨fs, hr, hrun, hended, hW, hsame⟩ := X3.leave (v := some (.ref a1)) (fun h => by rw [Bd.returns] at h; cases h)
  refine ⟨_, _, pre0 _ ?_, hrun, hended, _, _, rfl, ?_, ⟨_, rfl⟩, hW, hsame.mono (by decide) (by decide)⟩
  · show Steps p.tables e below (s₁.setTop (mkF m 0 #[.val (.int (3 : Int32))] [])) _
    refine XS.iloadN X0.here hx rfl (hb hby d6_0) rfl ?_
    show Steps p.tables e below (s₁.setTop (mkF m 1 #[.val (.int (3 : Int32))] [(.int (3 : Int32))])) _
    refine XS.ifYes X0.here hx rfl (pc0 := 1) (pc' := 8) rfl (hb hby d6_1) rfl ((if0 _ _).trans (feq (by decide +kernel : ¬ ((3 : Int32) = (0 : Int32)))).2) (by decide) (by decide) ?_
    show Steps p.tables e below (s₁.setTop (mkF m 8 #[.val (.int (3 : Int32))] [])) _
    refine XS.iloadN X0.here hx rfl (hb hby d6_8) rfl ?_
    show Steps p.tables e below (s₁.setTop (mkF m 9 #[.val (.int (3 : Int32))] [(.int (3 : Int32))])) _
    refine XS.iconst X0.here hx rfl (hb hby d6_9) ?_
    show Steps p.tables e below (s₁.setTop (mkF m 10 #[.val (.int (3 : Int32))] [(.int (1 : Int32)), (.int (3 : Int32))])) _
    refine XS.icmpYes X0.here hx rfl (pc0 := 10) (pc' := 17) rfl (hb hby d6_10) rfl (feq (by decide +kernel : ¬ ((3 : Int32) = (1 : Int32)))).2 (by decide) (by decide) ?_
    show Steps p.tables e below (s₁.setTop (mkF m 17 #[.val (.int (3 : Int32))] [])) _
    refine XS.iloadN X0.here hx rfl (hb hby d6_17) rfl ?_
    show Steps p.tables e below (s₁.setTop (mkF m 18 #[.val (.int (3 : Int32))] [(.int (3 : Int32))])) _
    refine XS.iconst X0.here hx rfl (hb hby d6_18) ?_
    show Steps p.tables e below (s₁.setTop (mkF m 19 #[.val (.int (3 : Int32))] [(.int (2 : Int32)), (.int (3 : Int32))])) _
    refine XS.icmpYes X0.here hx rfl (pc0 := 19) (pc' := 26) rfl (hb hby d6_19) rfl (feq (by decide +kernel : ¬ ((3 : Int32) = (2 : Int32)))).2 (by decide) (by decide) ?_
    show Steps p.tables e below (s₁.setTop (mkF m 26 #[.val (.int (3 : Int32))] [])) _
    refine XS.iloadN X0.here hx rfl (hb hby d6_26) rfl ?_
    show Steps p.tables e below (s₁.setTop (mkF m 27 #[.val (.int (3 : Int32))] [(.int (3 : Int32))])) _
    refine XS.iconst X0.here hx rfl (hb hby d6_27) ?_
    show Steps p.tables e below (s₁.setTop (mkF m 28 #[.val (.int (3 : Int32))] [(.int (3 : Int32)), (.int (3 : Int32))])) _
    refine XS.icmpNo X0.here hx rfl (hb hby d6_28) rfl (teq (by decide +kernel : (3 : Int32) = (3 : Int32))).2 ?_
    show Steps p.tables e below (s₁.setTop (mkF m 31 #[.val (.int (3 : Int32))] [])) _
    refine st3 _ ?_
    show Steps p.tables e below (T3.setTop (mkF m 34 #[.val (.int (3 : Int32))] [(.ref a1)])) _
    jvm_step X3.here [X3.here.top, hx, (hb hby d6_34), X3.method', Bd.returns, Value.isRef, FieldType.isReference]
    first | (intro acts; rw [hr _ acts rfl rfl rfl]) | rw [hr _ _ rfl rfl rfl]
    exact Steps.refl _
  · show Q6_14 Z _ h0 n0 _ T3.heap _
    rw [e3]
    exact ⟨rfl, N0, rfl⟩
theorem ef_rm6_15 (m : MethodId)  : entryFrame m #[(.int (4 : Int32))] 1 = mkF m 0 #[.val (.int (4 : Int32))] [] := by first | (simp [entryFrame, mkF, argsToLocals, Value.category]; done) | rfl
def Q6_15 (Z : State) (a1 : Addr) (h0 : Heap) (n0 : Nat) (v : Option Value) (h : Heap) (L : List Loc) : Prop := (v = some (.ref a1) ∧ Fr n0 L ∧ h = h0)
set_option maxRecDepth 65536 in
set_option maxHeartbeats 40000000 in
theorem rm6_15 (l : Launch) (Z : State) (a0 : Array Value) (hw : ∀ d ∈ own_ws, d.before a0 Z = true) (ws : List Jvm.Cond) (a1 : Addr) (h0 : Heap) (n0 : Nat) (O0 : Old Z n0 h0) (S_2 : Sta Z Z.heap "com/example/stemline/stemline/dialect/clickhouse/ClickHouseLexer$Kind" "SYMBOL" "Lcom/example/stemline/stemline/dialect/clickhouse/ClickHouseLexer$Kind;" (.ref a1)) :
    MetFree l M_4 (head1 (Jvm.Cond.code M_4 method_2_code 1 (some (.object "com/example/stemline/stemline/dialect/clickhouse/ClickHouseLexer$Kind")) :: ws) ({ frames := 0, cells := 0, slots := 0, locals := 0 } : Room)) (fun a U => a = #[(.int (4 : Int32))] ∧ Z.Warmed39 U.vm ∧ U.heap = h0) (fun _ _ _ _ _ => True) (fun _ U o U' => ∃ v L, o = .returned v ∧ Q6_15 Z a1 h0 n0 v U'.heap L ∧ FrameEnd U o U' L ({ frames := 0, cells := 0, slots := 0, locals := 0 } : Room).cells ({ frames := 0, cells := 0, slots := 0, locals := 0 } : Room).slots) := by
  refine MetFree.of_bodySF (plainFor_of_name pn_2) hisR ?_
  intro p e s m args below meth c s₁ Bd hml0 hP hK
  obtain ⟨rfl, hZ, hh⟩ := hP
  have hx := Bd.exec
  have hby := Bd.bytes
  have hml : c.maxLocals = 1 := hml0
  have hown : s.vm.findClass "com/example/stemline/stemline/dialect/clickhouse/TokenIsNamePinLaw" = some m.cls := findClass_of_methodNamed Bd.named
  have hnm := (name_of_methodNamed Bd.named Bd.method).1
  have X0 : Stand p l e ({ frames := 0, cells := 0, slots := 0, locals := 0 } : Room) s m #[(.int (4 : Int32))] below meth c s₁ [] 0 0 := Stand.of_body Bd
  have e0 : s₁.heap = h0 := by rw [← hh, Bd.state]; rfl
  have N0 := Fr.nil n0
  have pre0 : ∀ t, Steps p.tables e below (s₁.setTop (mkF m 0 #[.val (.int (4 : Int32))] [])) t → Steps p.tables e below (s₁.setTop (entryFrame m #[(.int (4 : Int32))] 1)) t := fun t k => castTop (ef_rm6_15 m ) k
  obtain ⟨T3, X3, e3, st3⟩ := getS2 X0 hx hZ hown (host := "") (Or.inl (hw _ (gw 68 rfl))) Via.refl e0 (Sta.ext O0.2 S_2) (g := (mkF m 40 #[.val (.int (4 : Int32))] [])) rfl (hb hby d6_40)
  obtain ⟨fs, hr, hrun, hended, hW, hsame⟩ := X3.leave (v := some (.ref a1)) (fun h => by rw [Bd.returns] at h; cases h)
  refine ⟨_, _, pre0 _ ?_, hrun, hended, _, _, rfl, ?_, ⟨_, rfl⟩, hW, hsame.mono (by decide) (by decide)⟩
  · show Steps p.tables e below (s₁.setTop (mkF m 0 #[.val (.int (4 : Int32))] [])) _
    refine XS.iloadN X0.here hx rfl (hb hby d6_0) rfl ?_
    show Steps p.tables e below (s₁.setTop (mkF m 1 #[.val (.int (4 : Int32))] [(.int (4 : Int32))])) _
    refine XS.ifYes X0.here hx rfl (pc0 := 1) (pc' := 8) rfl (hb hby d6_1) rfl ((if0 _ _).trans (feq (by decide +kernel : ¬ ((4 : Int32) = (0 : Int32)))).2) (by decide) (by decide) ?_
    show Steps p.tables e below (s₁.setTop (mkF m 8 #[.val (.int (4 : Int32))] [])) _
    refine XS.iloadN X0.here hx rfl (hb hby d6_8) rfl ?_
    show Steps p.tables e below (s₁.setTop (mkF m 9 #[.val (.int (4 : Int32))] [(.int (4 : Int32))])) _
    refine XS.iconst X0.here hx rfl (hb hby d6_9) ?_
    show Steps p.tables e below (s₁.setTop (mkF m 10 #[.val (.int (4 : Int32))] [(.int (1 : Int32)), (.int (4 : Int32))])) _
    refine XS.icmpYes X0.here hx rfl (pc0 := 10) (pc' := 17) rfl (hb hby d6_10) rfl (feq (by decide +kernel : ¬ ((4 : Int32) = (1 : Int32)))).2 (by decide) (by decide) ?_
    show Steps p.tables e below (s₁.setTop (mkF m 17 #[.val (.int (4 : Int32))] [])) _
    refine XS.iloadN X0.here hx rfl (hb hby d6_17) rfl ?_
    show Steps p.tables e below (s₁.setTop (mkF m 18 #[.val (.int (4 : Int32))] [(.int (4 : Int32))])) _
    refine XS.iconst X0.here hx rfl (hb hby d6_18) ?_
    show Steps p.tables e below (s₁.setTop (mkF m 19 #[.val (.int (4 : Int32))] [(.int (2 : Int32)), (.int (4 : Int32))])) _
    refine XS.icmpYes X0.here hx rfl (pc0 := 19) (pc' := 26) rfl (hb hby d6_19) rfl (feq (by decide +kernel : ¬ ((4 : Int32) = (2 : Int32)))).2 (by decide) (by decide) ?_
    show Steps p.tables e below (s₁.setTop (mkF m 26 #[.val (.int (4 : Int32))] [])) _
    refine XS.iloadN X0.here hx rfl (hb hby d6_26) rfl ?_
    show Steps p.tables e below (s₁.setTop (mkF m 27 #[.val (.int (4 : Int32))] [(.int (4 : Int32))])) _
    refine XS.iconst X0.here hx rfl (hb hby d6_27) ?_
    show Steps p.tables e below (s₁.setTop (mkF m 28 #[.val (.int (4 : Int32))] [(.int (3 : Int32)), (.int (4 : Int32))])) _
    refine XS.icmpYes X0.here hx rfl (pc0 := 28) (pc' := 35) rfl (hb hby d6_28) rfl (feq (by decide +kernel : ¬ ((4 : Int32) = (3 : Int32)))).2 (by decide) (by decide) ?_
    show Steps p.tables e below (s₁.setTop (mkF m 35 #[.val (.int (4 : Int32))] [])) _
    refine XS.iloadN X0.here hx rfl (hb hby d6_35) rfl ?_
    show Steps p.tables e below (s₁.setTop (mkF m 36 #[.val (.int (4 : Int32))] [(.int (4 : Int32))])) _
    refine XS.iconst X0.here hx rfl (hb hby d6_36) ?_
    show Steps p.tables e below (s₁.setTop (mkF m 37 #[.val (.int (4 : Int32))] [(.int (4 : Int32)), (.int (4 : Int32))])) _
    refine XS.icmpNo X0.here hx rfl (hb hby d6_37) rfl (teq (by decide +kernel : (4 : Int32) = (4 : Int32))).2 ?_
    show Steps p.tables e below (s₁.setTop (mkF m 40 #[.val (.int (4 : Int32))] [])) _
    refine st3 _ ?_
    show Steps p.tables e below (T3.setTop (mkF m 43 #[.val (.int (4 : Int32))] [(.ref a1)])) _
    jvm_step X3.here [X3.here.top, hx, (hb hby d6_43), X3.method', Bd.returns, Value.isRef, FieldType.isReference]
    first | (intro acts; rw [hr _ acts rfl rfl rfl]) | rw [hr _ _ rfl rfl rfl]
    exact Steps.refl _
  · show Q6_15 Z _ h0 n0 _ T3.heap _
    rw [e3]
    exact ⟨rfl, N0, rfl⟩
theorem ef_rm6_16 (m : MethodId)  : entryFrame m #[(.int (5 : Int32))] 1 = mkF m 0 #[.val (.int (5 : Int32))] [] := by first | (simp [entryFrame, mkF, argsToLocals, Value.category]; done) | rfl
def Q6_16 (Z : State) (a1 : Addr) (h0 : Heap) (n0 : Nat) (v : Option Value) (h : Heap) (L : List Loc) : Prop := (v = some (.ref a1) ∧ Fr n0 L ∧ h = h0)
set_option maxRecDepth 65536 in
set_option maxHeartbeats 40000000 in
theorem rm6_16 (l : Launch) (Z : State) (a0 : Array Value) (hw : ∀ d ∈ own_ws, d.before a0 Z = true) (ws : List Jvm.Cond) (a1 : Addr) (h0 : Heap) (n0 : Nat) (O0 : Old Z n0 h0) (S_2 : Sta Z Z.heap "com/example/stemline/stemline/dialect/clickhouse/ClickHouseLexer$Kind" "COMMENT" "Lcom/example/stemline/stemline/dialect/clickhouse/ClickHouseLexer$Kind;" (.ref a1)) :
    MetFree l M_4 (head1 (Jvm.Cond.code M_4 method_2_code 1 (some (.object "com/example/stemline/stemline/dialect/clickhouse/ClickHouseLexer$Kind")) :: ws) ({ frames := 0, cells := 0, slots := 0, locals := 0 } : Room)) (fun a U => a = #[(.int (5 : Int32))] ∧ Z.Warmed39 U.vm ∧ U.heap = h0) (fun _ _ _ _ _ => True) (fun _ U o U' => ∃ v L, o = .returned v ∧ Q6_16 Z a1 h0 n0 v U'.heap L ∧ FrameEnd U o U' L ({ frames := 0, cells := 0, slots := 0, locals := 0 } : Room).cells ({ frames := 0, cells := 0, slots := 0, locals := 0 } : Room).slots) := by
  refine MetFree.of_bodySF (plainFor_of_name pn_2) hisR ?_
  intro p e s m args below meth c s₁ Bd hml0 hP hK
  obtain ⟨rfl, hZ, hh⟩ := hP
  have hx := Bd.exec
  have hby := Bd.bytes
  have hml : c.maxLocals = 1 := hml0
  have hown : s.vm.findClass "com/example/stemline/stemline/dialect/clickhouse/TokenIsNamePinLaw" = some m.cls := findClass_of_methodNamed Bd.named
  have hnm := (name_of_methodNamed Bd.named Bd.method).1
  have X0 : Stand p l e ({ frames := 0, cells := 0, slots := 0, locals := 0 } : Room) s m #[(.int (5 : Int32))] below meth c s₁ [] 0 0 := Stand.of_body Bd
  have e0 : s₁.heap = h0 := by rw [← hh, Bd.state]; rfl
  have N0 := Fr.nil n0
  have pre0 : ∀ t, Steps p.tables e below (s₁.setTop (mkF m 0 #[.val (.int (5 : Int32))] [])) t → Steps p.tables e below (s₁.setTop (entryFrame m #[(.int (5 : Int32))] 1)) t := fun t k => castTop (ef_rm6_16 m ) k
  obtain ⟨T3, X3, e3, st3⟩ := getS2 X0 hx hZ hown (host := "") (Or.inl (hw _ (gw 71 rfl))) Via.refl e0 (Sta.ext O0.2 S_2) (g := (mkF m 44 #[.val (.int (5 : Int32))] [])) rfl (hb hby d6_44)
  obtain ⟨fs, hr, hrun, hended, hW, hsame⟩ := X3.leave (v := some (.ref a1)) (fun h => by rw [Bd.returns] at h; cases h)
  refine ⟨_, _, pre0 _ ?_, hrun, hended, _, _, rfl, ?_, ⟨_, rfl⟩, hW, hsame.mono (by decide) (by decide)⟩
  · show Steps p.tables e below (s₁.setTop (mkF m 0 #[.val (.int (5 : Int32))] [])) _
    refine XS.iloadN X0.here hx rfl (hb hby d6_0) rfl ?_
    show Steps p.tables e below (s₁.setTop (mkF m 1 #[.val (.int (5 : Int32))] [(.int (5 : Int32))])) _
    refine XS.ifYes X0.here hx rfl (pc0 := 1) (pc' := 8) rfl (hb hby d6_1) rfl ((if0 _ _).trans (feq (by decide +kernel : ¬ ((5 : Int32) = (0 : Int32)))).2) (by decide) (by decide) ?_
    show Steps p.tables e below (s₁.setTop (mkF m 8 #[.val (.int (5 : Int32))] [])) _
    refine XS.iloadN X0.here hx rfl (hb hby d6_8) rfl ?_
    show Steps p.tables e below (s₁.setTop (mkF m 9 #[.val (.int (5 : Int32))] [(.int (5 : Int32))])) _
    refine XS.iconst X0.here hx rfl (hb hby d6_9) ?_
    show Steps p.tables e below (s₁.setTop (mkF m 10 #[.val (.int (5 : Int32))] [(.int (1 : Int32)), (.int (5 : Int32))])) _
    refine XS.icmpYes X0.here hx rfl (pc0 := 10) (pc' := 17) rfl (hb hby d6_10) rfl (feq (by decide +kernel : ¬ ((5 : Int32) = (1 : Int32)))).2 (by decide) (by decide) ?_
    show Steps p.tables e below (s₁.setTop (mkF m 17 #[.val (.int (5 : Int32))] [])) _
    refine XS.iloadN X0.here hx rfl (hb hby d6_17) rfl ?_
    show Steps p.tables e below (s₁.setTop (mkF m 18 #[.val (.int (5 : Int32))] [(.int (5 : Int32))])) _
    refine XS.iconst X0.here hx rfl (hb hby d6_18) ?_
    show Steps p.tables e below (s₁.setTop (mkF m 19 #[.val (.int (5 : Int32))] [(.int (2 : Int32)), (.int (5 : Int32))])) _
    refine XS.icmpYes X0.here hx rfl (pc0 := 19) (pc' := 26) rfl (hb hby d6_19) rfl (feq (by decide +kernel : ¬ ((5 : Int32) = (2 : Int32)))).2 (by decide) (by decide) ?_
    show Steps p.tables e below (s₁.setTop (mkF m 26 #[.val (.int (5 : Int32))] [])) _
    refine XS.iloadN X0.here hx rfl (hb hby d6_26) rfl ?_
    show Steps p.tables e below (s₁.setTop (mkF m 27 #[.val (.int (5 : Int32))] [(.int (5 : Int32))])) _
    refine XS.iconst X0.here hx rfl (hb hby d6_27) ?_
    show Steps p.tables e below (s₁.setTop (mkF m 28 #[.val (.int (5 : Int32))] [(.int (3 : Int32)), (.int (5 : Int32))])) _
    refine XS.icmpYes X0.here hx rfl (pc0 := 28) (pc' := 35) rfl (hb hby d6_28) rfl (feq (by decide +kernel : ¬ ((5 : Int32) = (3 : Int32)))).2 (by decide) (by decide) ?_
    show Steps p.tables e below (s₁.setTop (mkF m 35 #[.val (.int (5 : Int32))] [])) _
    refine XS.iloadN X0.here hx rfl (hb hby d6_35) rfl ?_
    show Steps p.tables e below (s₁.setTop (mkF m 36 #[.val (.int (5 : Int32))] [(.int (5 : Int32))])) _
    refine XS.iconst X0.here hx rfl (hb hby d6_36) ?_
    show Steps p.tables e below (s₁.setTop (mkF m 37 #[.val (.int (5 : Int32))] [(.int (4 : Int32)), (.int (5 : Int32))])) _
    refine XS.icmpYes X0.here hx rfl (pc0 := 37) (pc' := 44) rfl (hb hby d6_37) rfl (feq (by decide +kernel : ¬ ((5 : Int32) = (4 : Int32)))).2 (by decide) (by decide) ?_
    show Steps p.tables e below (s₁.setTop (mkF m 44 #[.val (.int (5 : Int32))] [])) _
    refine st3 _ ?_
    show Steps p.tables e below (T3.setTop (mkF m 47 #[.val (.int (5 : Int32))] [(.ref a1)])) _
    jvm_step X3.here [X3.here.top, hx, (hb hby d6_47), X3.method', Bd.returns, Value.isRef, FieldType.isReference]
    first | (intro acts; rw [hr _ acts rfl rfl rfl]) | rw [hr _ _ rfl rfl rfl]
    exact Steps.refl _
  · show Q6_16 Z _ h0 n0 _ T3.heap _
    rw [e3]
    exact ⟨rfl, N0, rfl⟩
theorem ef_rm0 (m : MethodId) (x0 : Int32) (x1 : Int32) (x2 : Int32) (x3 : Int32) (x4 : Int32) : entryFrame m #[(.int x0), (.int x1), (.int x2), (.int x3), (.int x4)] maxLocals = mkF m 0 #[.val (.int x0), .val (.int x1), .val (.int x2), .val (.int x3), .val (.int x4), .unset, .unset, .unset, .unset] [] := by first | (simp [entryFrame, mkF, argsToLocals, Value.category, maxLocals]; done) | rfl
def Q0 (Z : State) (p1 : Int32) (p2 : Int32) (p3 : Int32) (p4 : Int32) (p5 : Int32) (p10 : Int32) (a33 : Addr) (a74 : Addr) (a116 : Addr) (a159 : Addr) (a202 : Addr) (a245 : Addr) (h0 : Heap) (n0 : Nat) (v : Option Value) (h : Heap) (L : List Loc) : Prop := v = some (.int 1) ∧ Fr n0 L
set_option maxRecDepth 65536 in
set_option maxHeartbeats 40000000 in
theorem rm0 (l : Launch) (Z : State) (a0 : Array Value) (hw : ∀ d ∈ own_ws, d.before a0 Z = true) (ws : List Jvm.Cond) (p1 : Int32) (p2 : Int32) (p3 : Int32) (p4 : Int32) (p5 : Int32) (p10 : Int32) (a33 : Addr) (a74 : Addr) (a116 : Addr) (a159 : Addr) (a202 : Addr) (a245 : Addr) (h0 : Heap) (n0 : Nat) (O0 : Old Z n0 h0) (S_11 : Sta Z Z.heap "java/lang/String" "COMPACT_STRINGS" "Z" (.int p10)) (hk12 : ¬ (p10 = (0 : Int32))) (S_34 : Sta Z Z.heap "com/example/stemline/stemline/dialect/clickhouse/ClickHouseLexer$Kind" "WORD" "Lcom/example/stemline/stemline/dialect/clickhouse/ClickHouseLexer$Kind;" (.ref a33)) (S_75 : Sta Z Z.heap "com/example/stemline/stemline/dialect/clickhouse/ClickHouseLexer$Kind" "QUOTED" "Lcom/example/stemline/stemline/dialect/clickhouse/ClickHouseLexer$Kind;" (.ref a74)) (hne90 : a74 ≠ a33) (S_117 : Sta Z Z.heap "com/example/stemline/stemline/dialect/clickhouse/ClickHouseLexer$Kind" "STRING" "Lcom/example/stemline/stemline/dialect/clickhouse/ClickHouseLexer$Kind;" (.ref a116)) (hne132 : a116 ≠ a33) (hne133 : a116 ≠ a74) (S_160 : Sta Z Z.heap "com/example/stemline/stemline/dialect/clickhouse/ClickHouseLexer$Kind" "NUMBER" "Lcom/example/stemline/stemline/dialect/clickhouse/ClickHouseLexer$Kind;" (.ref a159)) (hne175 : a159 ≠ a33) (hne176 : a159 ≠ a74) (S_203 : Sta Z Z.heap "com/example/stemline/stemline/dialect/clickhouse/ClickHouseLexer$Kind" "SYMBOL" "Lcom/example/stemline/stemline/dialect/clickhouse/ClickHouseLexer$Kind;" (.ref a202)) (hne218 : a202 ≠ a33) (hne219 : a202 ≠ a74) (S_246 : Sta Z Z.heap "com/example/stemline/stemline/dialect/clickhouse/ClickHouseLexer$Kind" "COMMENT" "Lcom/example/stemline/stemline/dialect/clickhouse/ClickHouseLexer$Kind;" (.ref a245)) (hne261 : a245 ≠ a33) (hne262 : a245 ≠ a74) :
    MetFree l x (head1 (Jvm.Cond.code x code maxLocals ret :: ws) room_1) (fun a U => a = #[(.int p1), (.int p2), (.int p3), (.int p4), (.int p5)] ∧ Z.Warmed39 U.vm ∧ U.heap = h0) (fun _ _ _ _ _ => True) (fun _ U o U' => ∃ v L, o = .returned v ∧ Q0 Z p1 p2 p3 p4 p5 p10 a33 a74 a116 a159 a202 a245 h0 n0 v U'.heap L ∧ FrameEnd U o U' L room_1.cells room_1.slots) := by
  refine MetFree.of_bodySF (plainFor_of_name pn_2) hisR ?_
  intro p e s m args below meth c s₁ Bd hml0 hP hK
  obtain ⟨rfl, hZ, hh⟩ := hP
  have hx := Bd.exec
  have hby := Bd.bytes
  have hml : c.maxLocals = 9 := hml0
  have hown : s.vm.findClass "com/example/stemline/stemline/dialect/clickhouse/TokenIsNamePinLaw" = some m.cls := findClass_of_methodNamed Bd.named
  have hnm := (name_of_methodNamed Bd.named Bd.method).1
  have X0 : Stand p l e room_1 s m #[(.int p1), (.int p2), (.int p3), (.int p4), (.int p5)] below meth c s₁ [] 0 0 := Stand.of_body Bd
  have e0 : s₁.heap = h0 := by rw [← hh, Bd.state]; rfl
  have N0 := Fr.nil n0
  have pre0 : ∀ t, Steps p.tables e below (s₁.setTop (mkF m 0 #[.val (.int p1), .val (.int p2), .val (.int p3), .val (.int p4), .val (.int p5), .unset, .unset, .unset, .unset] [])) t → Steps p.tables e below (s₁.setTop (entryFrame m #[(.int p1), (.int p2), (.int p3), (.int p4), (.int p5)] maxLocals)) t := fun t k => castTop (ef_rm0 m p1 p2 p3 p4 p5) k
  obtain ⟨i6, hi6⟩ : ∃ z, z = (p1 &&& (2147483647 : Int32)) := ⟨_, rfl⟩
  have pre8 : ∀ t, Steps p.tables e below (s₁.setTop (mkF m 6 #[.val (.int p1), .val (.int p2), .val (.int p3), .val (.int p4), .val (.int p5), .unset, .unset, .unset, .unset] [(.int (6 : Int32)), (.int i6)])) t → Steps p.tables e below (s₁.setTop (entryFrame m #[(.int p1), (.int p2), (.int p3), (.int p4), (.int p5)] maxLocals)) t := by
    intro t kt
    refine pre0 t ?_
    show Steps p.tables e below (s₁.setTop (mkF m 0 #[.val (.int p1), .val (.int p2), .val (.int p3), .val (.int p4), .val (.int p5), .unset, .unset, .unset, .unset] [])) _
    refine XS.iloadN X0.here hx rfl (hb hby at_0) rfl ?_
    show Steps p.tables e below (s₁.setTop (mkF m 1 #[.val (.int p1), .val (.int p2), .val (.int p3), .val (.int p4), .val (.int p5), .unset, .unset, .unset, .unset] [(.int p1)])) _
    refine X0.ldcInt hx hown (mvT hZ (hw _ (gw 0 rfl))) (g := (mkF m 1 #[.val (.int p1), .val (.int p2), .val (.int p3), .val (.int p4), .val (.int p5), .unset, .unset, .unset, .unset] [(.int p1)])) rfl (hb hby at_1) _ ?_
    show Steps p.tables e below (s₁.setTop (mkF m 3 #[.val (.int p1), .val (.int p2), .val (.int p3), .val (.int p4), .val (.int p5), .unset, .unset, .unset, .unset] [(.int (2147483647 : Int32)), (.int p1)])) _
    refine XS.iand X0.here hx rfl (hb hby at_3) rfl ?_
    show Steps p.tables e below (s₁.setTop (mkF m 4 #[.val (.int p1), .val (.int p2), .val (.int p3), .val (.int p4), .val (.int p5), .unset, .unset, .unset, .unset] [(.int (p1 &&& (2147483647 : Int32)))])) _
    rw [← hi6]
    show Steps p.tables e below (s₁.setTop (mkF m 4 #[.val (.int p1), .val (.int p2), .val (.int p3), .val (.int p4), .val (.int p5), .unset, .unset, .unset, .unset] [(.int i6)])) _
    refine XS.bipush X0.here hx rfl (hb hby at_4) ?_
    show Steps p.tables e below (s₁.setTop (mkF m 6 #[.val (.int p1), .val (.int p2), .val (.int p3), .val (.int p4), .val (.int p5), .unset, .unset, .unset, .unset] [(.int (6 : Int32)), (.int i6)])) _
    exact kt
  rcases (own_mod6 hi6) with hq7 | hq7 | hq7 | hq7 | hq7 | hq7
  · skip
    obtain ⟨i9, hi9⟩ : ∃ z, z = (p2 &&& (255 : Int32)) := ⟨_, rfl⟩
    obtain ⟨_, _, ⟨T13, L13, k13, n13⟩, -, X13, ⟨Lc13, hQ13, l13, y13, z13⟩, st13⟩ := Jvm.LawKit.callS X0 hx (y := M_3) hown (mvT hZ (hw _ (gw 1 rfl))) (mvT hZ (hw _ (gw 2 rfl))) (mvT hZ (hw _ (gw 3 rfl))) (mvT hZ (hw _ (gw 4 rfl))) (by decide) (backOf (W := 0) (rm1_2 l Z a0 hw [] i9 p10 h0 n0  O0 S_11 hk12 (own_lt255 hi9)) hZ (hw _ (gw 4 rfl)) (hw _ (gw 3 rfl)) (by decide) (by decide)) (g := (mkF m 15 #[.val (.int p1), .val (.int p2), .val (.int p3), .val (.int p4), .val (.int p5), .val (.int (0 : Int32)), .unset, .unset, .unset] [(.int i9)])) rfl (by rw [hml]; rfl) (argsL := [(.int i9)]) (rest := []) (lenOf pd_3 rfl) rfl (by show 2 * 0 + _ ≤ _; exact Nat.le_of_eq rfl) (hb hby at_15) (fun _ _ => ⟨rfl, e0, (by decide : 0 + 2 ≤ _), (by decide : 0 + 5 ≤ _)⟩)
    dsimp only [Pt.U, Pt.locs, Pt.cells, Pt.slots] at X13 l13 y13 z13 st13 hQ13
    subst l13 y13 z13
    obtain ⟨i14, b15, b16, k17, u18, rfl, u20, u21, u22, u23, u24, u25, Ku26, u27, u28, u29, u30, u31⟩ := hQ13
    have Ou26 : Old Z n0 T13.heap := O0.keep Ku26 all0
    have g_b15 : n0 ≤ b15 := Nat.le_trans (own_z O0) u21
    have sz_b15 : h0.size ≤ b15 := Nat.le_trans (Nat.le_refl _) u21
    have g_b16 : n0 ≤ b16 := Nat.le_trans (own_z O0) u23
    have sz_b16 : h0.size ≤ b16 := Nat.le_trans (Nat.le_refl _) u23
    have N13 := Fr.app N0 u20
    obtain ⟨T32, h32, X32, e32, E32, A32, D32, -, st32⟩ := newO X13 hx hZ hown (hw _ (gw 27 rfl)) (hw _ (gw 28 rfl)) (hw _ (gw 29 rfl)) rfl (g := (mkF m 20 #[.val (.int p1), .val (.int p2), .val (.int p3), .val (.int p4), .val (.int p5), .val (.int (0 : Int32)), .val (.ref b15), .unset, .unset] [])) rfl (hb hby at_20) (by decide) (by decide)
    obtain ⟨b32, g32⟩ : ∃ z, z = T13.heap.size := ⟨_, rfl⟩
    rw [← g32] at A32 D32 st32
    have O32 : Old Z n0 h32 := Ou26.ext E32
    have bd_b32 : T13.heap.size ≤ b32 := Nat.le_of_eq g32.symm
    have g_b32 : n0 ≤ b32 := Nat.le_trans (own_z Ou26) bd_b32
    have sz_b32 : h0.size ≤ b32 := Nat.le_trans Ku26.1 bd_b32
    have lt_b32 : b32 < h32.size := A32.lt
    have D32_47 : Fld Z h32 b32 "com/example/stemline/stemline/dialect/clickhouse/ClickHouseLexer$Token" "kind" "Lcom/example/stemline/stemline/dialect/clickhouse/ClickHouseLexer$Kind;" .null := D32 (Or.inr (hw _ (gw 47 rfl))) (ty := (.object "com/example/stemline/stemline/dialect/clickhouse/ClickHouseLexer$Kind")) (by decide)
    have D32_49 : Fld Z h32 b32 "com/example/stemline/stemline/dialect/clickhouse/ClickHouseLexer$Token" "value" "Ljava/lang/String;" .null := D32 (Or.inr (hw _ (gw 49 rfl))) (ty := (.object "java/lang/String")) (by decide)
    have D32_51 : Fld Z h32 b32 "com/example/stemline/stemline/dialect/clickhouse/ClickHouseLexer$Token" "line" "I" (.int (0 : Int32)) := D32 (Or.inr (hw _ (gw 51 rfl))) (ty := .int) (by decide)
    have D32_53 : Fld Z h32 b32 "com/example/stemline/stemline/dialect/clickhouse/ClickHouseLexer$Token" "start" "I" (.int (0 : Int32)) := D32 (Or.inr (hw _ (gw 53 rfl))) (ty := .int) (by decide)
    have D32_55 : Fld Z h32 b32 "com/example/stemline/stemline/dialect/clickhouse/ClickHouseLexer$Token" "end" "I" (.int (0 : Int32)) := D32 (Or.inr (hw _ (gw 55 rfl))) (ty := .int) (by decide)
    obtain ⟨_, _, ⟨T35, L35, k35, n35⟩, -, X35, ⟨Lc35, hQ35, l35, y35, z35⟩, st35⟩ := Jvm.LawKit.callS X32 hx (y := M_4) hown (mvT hZ (hw _ (gw 30 rfl))) (mvT hZ (hw _ (gw 31 rfl))) (mvT hZ (hw _ (gw 32 rfl))) (mvT hZ (hw _ (gw 33 rfl))) (by decide) (backOf (W := 2) (rm6_6 l Z a0 hw [] a33 h32 n0  O32 S_34) hZ (hw _ (gw 33 rfl)) (hw _ (gw 32 rfl)) (by decide) (by decide)) (g := (mkF m 26 #[.val (.int p1), .val (.int p2), .val (.int p3), .val (.int p4), .val (.int p5), .val (.int (0 : Int32)), .val (.ref b15), .unset, .unset] [(.int (0 : Int32)), (.ref b32), (.ref b32)])) rfl (by rw [hml]; rfl) (argsL := [(.int (0 : Int32))]) (rest := [(.ref b32), (.ref b32)]) (lenOf pd_4 rfl) rfl (by show 2 * 0 + _ ≤ _; exact Nat.le_of_eq rfl) (hb hby at_26) (fun _ _ => ⟨rfl, e32, (by decide : 3 + 0 ≤ _), (by decide : 10 + 0 ≤ _)⟩)
    dsimp only [Pt.U, Pt.locs, Pt.cells, Pt.slots] at X35 l35 y35 z35 st35 hQ35
    subst l35 y35 z35
    obtain ⟨rfl, u37, u38⟩ := hQ35
    have N35 := Fr.app N13 u37
    obtain ⟨_, _, ⟨T39, L39, k39, n39⟩, -, X39, ⟨Lc39, hQ39, l39, y39, z39⟩, st39⟩ := X35.specialBack hx (y := M_6) rfl hown (mvT hZ (hw _ (gw 37 rfl))) (mvT hZ (hw _ (gw 38 rfl))) (mvT hZ (hw _ (gw 39 rfl))) (by decide) (backOf (W := 1) (rm7_7 l Z a0 hw [] b32 a33 b15 p3 p4 p5 h32 n0  O32 A32 D32_55 D32_47 D32_51 D32_53 D32_49 g_b32) hZ (hw _ (gw 39 rfl)) (hw _ (gw 29 rfl)) (by decide) (by decide)) (g := (mkF m 35 #[.val (.int p1), .val (.int p2), .val (.int p3), .val (.int p4), .val (.int p5), .val (.int (0 : Int32)), .val (.ref b15), .unset, .unset] [(.int p5), (.int p4), (.int p3), (.ref b15), (.ref a33), (.ref b32), (.ref b32)])) rfl (by rw [hml]; rfl) (Steps.refl _) (a := b32) (argsL := [(.ref a33), (.ref b15), (.int p3), (.int p4), (.int p5)]) (rest := [(.ref b32)]) (lenOf pd_6 rfl) rfl (by show 2 * 0 + _ ≤ _; exact Nat.le_of_eq rfl) (hb hby at_35) (fun _ _ => ⟨rfl, u38, (by decide : 3 + 0 ≤ _), (by decide : 10 + 0 ≤ _)⟩)
    dsimp only [Pt.U, Pt.locs, Pt.cells, Pt.slots] at X39 l39 y39 z39 st39 hQ39
    subst l39 y39 z39
    obtain ⟨rfl, u41, Ku42, u43, u44, u45, u46, u47, u48⟩ := hQ39
    have Ou42 : Old Z n0 T39.heap := O32.keep Ku42 (allS g_b32 all0)
    have N39 := Fr.app N35 u41
    obtain ⟨cq49, kq49, q49a, q49b, q49c⟩ := isOf hZ rfl u43
    obtain ⟨_, _, ⟨T49, L49, k49, n49⟩, -, X49, ⟨Lc49, hQ49, l49, y49, z49⟩, st49⟩ := X39.virtualBack hx (y := M_7) (z := M_7) hown (mvT hZ (hw _ (gw 56 rfl))) (mvT hZ (hw _ (gw 57 rfl))) (notFace_of_selects (args := #[]) (mvT hZ (hw _ (gw 59 rfl)))) (mvT hZ (hw _ (gw 59 rfl))) (mvT hZ (hw _ (gw 58 rfl))) (by decide) (backOf (W := 0) (rm9_9 l Z a0 hw [] b32 a33 T39.heap n0  Ou42 u45 S_34) hZ (hw _ (gw 60 rfl)) (hw _ (gw 29 rfl)) (by decide) (by decide)) q49a q49c (g := (mkF m 55 #[.val (.int p1), .val (.int p2), .val (.int p3), .val (.int p4), .val (.int p5), .val (.int (0 : Int32)), .val (.ref b15), .val (.ref b32), .val (.int (1 : Int32))] [(.ref b32)])) rfl (by rw [hml]; rfl) (Steps.refl _) (argsL := []) (rest := []) (lenOf pd_7 rfl) rfl (by show 2 * 0 + _ ≤ _; exact Nat.le_of_eq rfl) (hb hby at_55) (fun _ _ => ⟨rfl, rfl, (by decide : 3 + 0 ≤ _), (by decide : 10 + 0 ≤ _)⟩)
    dsimp only [Pt.U, Pt.locs, Pt.cells, Pt.slots] at X49 l49 y49 z49 st49 hQ49
    subst l49 y49 z49
    obtain ⟨rfl, u51, u52⟩ := hQ49
    have N49 := Fr.app N39 u51
    obtain ⟨fs, hr, hrun, hended, hW, hsame⟩ := X49.leave (v := some (.int (1 : Int32))) (fun h => by rw [Bd.returns] at h; cases h)
    refine ⟨_, _, pre8 _ ?_, hrun, hended, _, _, rfl, ?_, ⟨_, rfl⟩, hW, hsame.mono (by decide) (by decide)⟩
    · show Steps p.tables e below (s₁.setTop (mkF m 6 #[.val (.int p1), .val (.int p2), .val (.int p3), .val (.int p4), .val (.int p5), .unset, .unset, .unset, .unset] [(.int (6 : Int32)), (.int i6)])) _
      refine Jvm.RoadKit.iremM (g := (mkF m 6 #[.val (.int p1), .val (.int p2), .val (.int p3), .val (.int p4), .val (.int p5), .unset, .unset, .unset, .unset] [(.int (6 : Int32)), (.int i6)])) X0 hx rfl (hb hby at_6) rfl (by decide +kernel : ¬ ((6 : Int32) = (0 : Int32))) ?_
      show Steps p.tables e below (s₁.setTop (mkF m 7 #[.val (.int p1), .val (.int p2), .val (.int p3), .val (.int p4), .val (.int p5), .unset, .unset, .unset, .unset] [(.int (i6 % (6 : Int32)))])) _
      rw [hq7]
      show Steps p.tables e below (s₁.setTop (mkF m 7 #[.val (.int p1), .val (.int p2), .val (.int p3), .val (.int p4), .val (.int p5), .unset, .unset, .unset, .unset] [(.int (0 : Int32))])) _
      refine XS.istore X0.here hx rfl (hb hby at_7) rfl (l' := #[.val (.int p1), .val (.int p2), .val (.int p3), .val (.int p4), .val (.int p5), .val (.int (0 : Int32)), .unset, .unset, .unset]) rfl ?_
      show Steps p.tables e below (s₁.setTop (mkF m 9 #[.val (.int p1), .val (.int p2), .val (.int p3), .val (.int p4), .val (.int p5), .val (.int (0 : Int32)), .unset, .unset, .unset] [])) _
      refine XS.iloadN X0.here hx rfl (hb hby at_9) rfl ?_
      show Steps p.tables e below (s₁.setTop (mkF m 10 #[.val (.int p1), .val (.int p2), .val (.int p3), .val (.int p4), .val (.int p5), .val (.int (0 : Int32)), .unset, .unset, .unset] [(.int p2)])) _
      refine XS.sipush X0.here hx rfl (hb hby at_10) ?_
      show Steps p.tables e below (s₁.setTop (mkF m 13 #[.val (.int p1), .val (.int p2), .val (.int p3), .val (.int p4), .val (.int p5), .val (.int (0 : Int32)), .unset, .unset, .unset] [(.int (255 : Int32)), (.int p2)])) _
      refine XS.iand X0.here hx rfl (hb hby at_13) rfl ?_
      show Steps p.tables e below (s₁.setTop (mkF m 14 #[.val (.int p1), .val (.int p2), .val (.int p3), .val (.int p4), .val (.int p5), .val (.int (0 : Int32)), .unset, .unset, .unset] [(.int (p2 &&& (255 : Int32)))])) _
      rw [← hi9]
      show Steps p.tables e below (s₁.setTop (mkF m 14 #[.val (.int p1), .val (.int p2), .val (.int p3), .val (.int p4), .val (.int p5), .val (.int (0 : Int32)), .unset, .unset, .unset] [(.int i9)])) _
      refine XS.i2c X0.here hx rfl (hb hby at_14) rfl ?_
      show Steps p.tables e below (s₁.setTop (mkF m 15 #[.val (.int p1), .val (.int p2), .val (.int p3), .val (.int p4), .val (.int p5), .val (.int (0 : Int32)), .unset, .unset, .unset] [(.int (i9.toUInt32.toUInt16.toUInt32.toInt32))])) _
      rw [(own_i2c255 hi9)]
      show Steps p.tables e below (s₁.setTop (mkF m 15 #[.val (.int p1), .val (.int p2), .val (.int p3), .val (.int p4), .val (.int p5), .val (.int (0 : Int32)), .unset, .unset, .unset] [(.int i9)])) _
      refine st13 _ ?_
      show Steps p.tables e below (T13.setTop (mkF m 18 #[.val (.int p1), .val (.int p2), .val (.int p3), .val (.int p4), .val (.int p5), .val (.int (0 : Int32)), .unset, .unset, .unset] [(.ref b15)])) _
      refine XS.astore X13.here hx rfl (hb hby at_18) rfl rfl (l' := #[.val (.int p1), .val (.int p2), .val (.int p3), .val (.int p4), .val (.int p5), .val (.int (0 : Int32)), .val (.ref b15), .unset, .unset]) rfl ?_
      show Steps p.tables e below (T13.setTop (mkF m 20 #[.val (.int p1), .val (.int p2), .val (.int p3), .val (.int p4), .val (.int p5), .val (.int (0 : Int32)), .val (.ref b15), .unset, .unset] [])) _
      refine st32 _ ?_
      show Steps p.tables e below (T32.setTop (mkF m 23 #[.val (.int p1), .val (.int p2), .val (.int p3), .val (.int p4), .val (.int p5), .val (.int (0 : Int32)), .val (.ref b15), .unset, .unset] [(.ref b32)])) _
      refine XS.dup X32.here hx rfl (hb hby at_23) rfl rfl ?_
      show Steps p.tables e below (T32.setTop (mkF m 24 #[.val (.int p1), .val (.int p2), .val (.int p3), .val (.int p4), .val (.int p5), .val (.int (0 : Int32)), .val (.ref b15), .unset, .unset] [(.ref b32), (.ref b32)])) _
      refine XS.iload X32.here hx rfl (hb hby at_24) rfl ?_
      show Steps p.tables e below (T32.setTop (mkF m 26 #[.val (.int p1), .val (.int p2), .val (.int p3), .val (.int p4), .val (.int p5), .val (.int (0 : Int32)), .val (.ref b15), .unset, .unset] [(.int (0 : Int32)), (.ref b32), (.ref b32)])) _
      refine st35 _ ?_
      show Steps p.tables e below (T35.setTop (mkF m 29 #[.val (.int p1), .val (.int p2), .val (.int p3), .val (.int p4), .val (.int p5), .val (.int (0 : Int32)), .val (.ref b15), .unset, .unset] [(.ref a33), (.ref b32), (.ref b32)])) _
      refine XS.aload X35.here hx rfl (hb hby at_29) rfl rfl ?_
      show Steps p.tables e below (T35.setTop (mkF m 31 #[.val (.int p1), .val (.int p2), .val (.int p3), .val (.int p4), .val (.int p5), .val (.int (0 : Int32)), .val (.ref b15), .unset, .unset] [(.ref b15), (.ref a33), (.ref b32), (.ref b32)])) _
      refine XS.iloadN X35.here hx rfl (hb hby at_31) rfl ?_
      show Steps p.tables e below (T35.setTop (mkF m 32 #[.val (.int p1), .val (.int p2), .val (.int p3), .val (.int p4), .val (.int p5), .val (.int (0 : Int32)), .val (.ref b15), .unset, .unset] [(.int p3), (.ref b15), (.ref a33), (.ref b32), (.ref b32)])) _
      refine XS.iloadN X35.here hx rfl (hb hby at_32) rfl ?_
      show Steps p.tables e below (T35.setTop (mkF m 33 #[.val (.int p1), .val (.int p2), .val (.int p3), .val (.int p4), .val (.int p5), .val (.int (0 : Int32)), .val (.ref b15), .unset, .unset] [(.int p4), (.int p3), (.ref b15), (.ref a33), (.ref b32), (.ref b32)])) _
      refine XS.iload X35.here hx rfl (hb hby at_33) rfl ?_
      show Steps p.tables e below (T35.setTop (mkF m 35 #[.val (.int p1), .val (.int p2), .val (.int p3), .val (.int p4), .val (.int p5), .val (.int (0 : Int32)), .val (.ref b15), .unset, .unset] [(.int p5), (.int p4), (.int p3), (.ref b15), (.ref a33), (.ref b32), (.ref b32)])) _
      refine st39.trans ?_
      show Steps p.tables e below (T39.setTop (mkF m 38 #[.val (.int p1), .val (.int p2), .val (.int p3), .val (.int p4), .val (.int p5), .val (.int (0 : Int32)), .val (.ref b15), .unset, .unset] [(.ref b32)])) _
      refine XS.astore X39.here hx rfl (hb hby at_38) rfl rfl (l' := #[.val (.int p1), .val (.int p2), .val (.int p3), .val (.int p4), .val (.int p5), .val (.int (0 : Int32)), .val (.ref b15), .val (.ref b32), .unset]) rfl ?_
      show Steps p.tables e below (T39.setTop (mkF m 40 #[.val (.int p1), .val (.int p2), .val (.int p3), .val (.int p4), .val (.int p5), .val (.int (0 : Int32)), .val (.ref b15), .val (.ref b32), .unset] [])) _
      refine XS.iload X39.here hx rfl (hb hby at_40) rfl ?_
      show Steps p.tables e below (T39.setTop (mkF m 42 #[.val (.int p1), .val (.int p2), .val (.int p3), .val (.int p4), .val (.int p5), .val (.int (0 : Int32)), .val (.ref b15), .val (.ref b32), .unset] [(.int (0 : Int32))])) _
      refine XS.iconst X39.here hx rfl (hb hby at_42) ?_
      show Steps p.tables e below (T39.setTop (mkF m 43 #[.val (.int p1), .val (.int p2), .val (.int p3), .val (.int p4), .val (.int p5), .val (.int (0 : Int32)), .val (.ref b15), .val (.ref b32), .unset] [(.int (1 : Int32)), (.int (0 : Int32))])) _
      refine XS.icmpNo X39.here hx rfl (hb hby at_43) rfl (flt (by decide +kernel : ¬ ((1 : Int32) < (0 : Int32)))).2.2.1 ?_
      show Steps p.tables e below (T39.setTop (mkF m 46 #[.val (.int p1), .val (.int p2), .val (.int p3), .val (.int p4), .val (.int p5), .val (.int (0 : Int32)), .val (.ref b15), .val (.ref b32), .unset] [])) _
      refine XS.iconst X39.here hx rfl (hb hby at_46) ?_
      show Steps p.tables e below (T39.setTop (mkF m 47 #[.val (.int p1), .val (.int p2), .val (.int p3), .val (.int p4), .val (.int p5), .val (.int (0 : Int32)), .val (.ref b15), .val (.ref b32), .unset] [(.int (1 : Int32))])) _
      refine XS.goto X39.here hx rfl (pc0 := 47) (pc' := 51) rfl (hb hby at_47) (by decide) (by decide) ?_
      show Steps p.tables e below (T39.setTop (mkF m 51 #[.val (.int p1), .val (.int p2), .val (.int p3), .val (.int p4), .val (.int p5), .val (.int (0 : Int32)), .val (.ref b15), .val (.ref b32), .unset] [(.int (1 : Int32))])) _
      refine XS.istore X39.here hx rfl (hb hby at_51) rfl (l' := #[.val (.int p1), .val (.int p2), .val (.int p3), .val (.int p4), .val (.int p5), .val (.int (0 : Int32)), .val (.ref b15), .val (.ref b32), .val (.int (1 : Int32))]) rfl ?_
      show Steps p.tables e below (T39.setTop (mkF m 53 #[.val (.int p1), .val (.int p2), .val (.int p3), .val (.int p4), .val (.int p5), .val (.int (0 : Int32)), .val (.ref b15), .val (.ref b32), .val (.int (1 : Int32))] [])) _
      refine XS.aload X39.here hx rfl (hb hby at_53) rfl rfl ?_
      show Steps p.tables e below (T39.setTop (mkF m 55 #[.val (.int p1), .val (.int p2), .val (.int p3), .val (.int p4), .val (.int p5), .val (.int (0 : Int32)), .val (.ref b15), .val (.ref b32), .val (.int (1 : Int32))] [(.ref b32)])) _
      refine st49.trans ?_
      show Steps p.tables e below (T49.setTop (mkF m 58 #[.val (.int p1), .val (.int p2), .val (.int p3), .val (.int p4), .val (.int p5), .val (.int (0 : Int32)), .val (.ref b15), .val (.ref b32), .val (.int (1 : Int32))] [(.int (1 : Int32))])) _
      refine XS.iload X49.here hx rfl (hb hby at_58) rfl ?_
      show Steps p.tables e below (T49.setTop (mkF m 60 #[.val (.int p1), .val (.int p2), .val (.int p3), .val (.int p4), .val (.int p5), .val (.int (0 : Int32)), .val (.ref b15), .val (.ref b32), .val (.int (1 : Int32))] [(.int (1 : Int32)), (.int (1 : Int32))])) _
      refine XS.icmpNo X49.here hx rfl (hb hby at_60) rfl (teq (by decide +kernel : (1 : Int32) = (1 : Int32))).2 ?_
      show Steps p.tables e below (T49.setTop (mkF m 63 #[.val (.int p1), .val (.int p2), .val (.int p3), .val (.int p4), .val (.int p5), .val (.int (0 : Int32)), .val (.ref b15), .val (.ref b32), .val (.int (1 : Int32))] [])) _
      refine XS.iconst X49.here hx rfl (hb hby at_63) ?_
      show Steps p.tables e below (T49.setTop (mkF m 64 #[.val (.int p1), .val (.int p2), .val (.int p3), .val (.int p4), .val (.int p5), .val (.int (0 : Int32)), .val (.ref b15), .val (.ref b32), .val (.int (1 : Int32))] [(.int (1 : Int32))])) _
      refine XS.goto X49.here hx rfl (pc0 := 64) (pc' := 68) rfl (hb hby at_64) (by decide) (by decide) ?_
      show Steps p.tables e below (T49.setTop (mkF m 68 #[.val (.int p1), .val (.int p2), .val (.int p3), .val (.int p4), .val (.int p5), .val (.int (0 : Int32)), .val (.ref b15), .val (.ref b32), .val (.int (1 : Int32))] [(.int (1 : Int32))])) _
      exact retN X49 hx (t := .boolean) Bd.returns (by simp) (hb hby at_68) hr
    · show Q0 Z _ _ _ _ _ _ _ _ _ _ _ _ h0 n0 _ T49.heap _
      rw [u52]
      exact ⟨rfl, N49⟩
  · skip
    obtain ⟨i53, hi53⟩ : ∃ z, z = (p2 &&& (255 : Int32)) := ⟨_, rfl⟩
    obtain ⟨_, _, ⟨T54, L54, k54, n54⟩, -, X54, ⟨Lc54, hQ54, l54, y54, z54⟩, st54⟩ := Jvm.LawKit.callS X0 hx (y := M_3) hown (mvT hZ (hw _ (gw 1 rfl))) (mvT hZ (hw _ (gw 2 rfl))) (mvT hZ (hw _ (gw 3 rfl))) (mvT hZ (hw _ (gw 4 rfl))) (by decide) (backOf (W := 0) (rm1_2 l Z a0 hw [] i53 p10 h0 n0  O0 S_11 hk12 (own_lt255 hi53)) hZ (hw _ (gw 4 rfl)) (hw _ (gw 3 rfl)) (by decide) (by decide)) (g := (mkF m 15 #[.val (.int p1), .val (.int p2), .val (.int p3), .val (.int p4), .val (.int p5), .val (.int (1 : Int32)), .unset, .unset, .unset] [(.int i53)])) rfl (by rw [hml]; rfl) (argsL := [(.int i53)]) (rest := []) (lenOf pd_3 rfl) rfl (by show 2 * 0 + _ ≤ _; exact Nat.le_of_eq rfl) (hb hby at_15) (fun _ _ => ⟨rfl, e0, (by decide : 0 + 2 ≤ _), (by decide : 0 + 5 ≤ _)⟩)
    dsimp only [Pt.U, Pt.locs, Pt.cells, Pt.slots] at X54 l54 y54 z54 st54 hQ54
    subst l54 y54 z54
    obtain ⟨i55, b56, b57, k58, u59, rfl, u61, u62, u63, u64, u65, u66, Ku67, u68, u69, u70, u71, u72⟩ := hQ54
    have Ou67 : Old Z n0 T54.heap := O0.keep Ku67 all0
    have g_b56 : n0 ≤ b56 := Nat.le_trans (own_z O0) u62
    have sz_b56 : h0.size ≤ b56 := Nat.le_trans (Nat.le_refl _) u62
    have g_b57 : n0 ≤ b57 := Nat.le_trans (own_z O0) u64
    have sz_b57 : h0.size ≤ b57 := Nat.le_trans (Nat.le_refl _) u64
    have N54 := Fr.app N0 u61
    obtain ⟨T73, h73, X73, e73, E73, A73, D73, -, st73⟩ := newO X54 hx hZ hown (hw _ (gw 27 rfl)) (hw _ (gw 28 rfl)) (hw _ (gw 29 rfl)) rfl (g := (mkF m 20 #[.val (.int p1), .val (.int p2), .val (.int p3), .val (.int p4), .val (.int p5), .val (.int (1 : Int32)), .val (.ref b56), .unset, .unset] [])) rfl (hb hby at_20) (by decide) (by decide)
    obtain ⟨b73, g73⟩ : ∃ z, z = T54.heap.size := ⟨_, rfl⟩
    rw [← g73] at A73 D73 st73
    have O73 : Old Z n0 h73 := Ou67.ext E73
    have bd_b73 : T54.heap.size ≤ b73 := Nat.le_of_eq g73.symm
    have g_b73 : n0 ≤ b73 := Nat.le_trans (own_z Ou67) bd_b73
    have sz_b73 : h0.size ≤ b73 := Nat.le_trans Ku67.1 bd_b73
    have lt_b73 : b73 < h73.size := A73.lt
    have D73_47 : Fld Z h73 b73 "com/example/stemline/stemline/dialect/clickhouse/ClickHouseLexer$Token" "kind" "Lcom/example/stemline/stemline/dialect/clickhouse/ClickHouseLexer$Kind;" .null := D73 (Or.inr (hw _ (gw 47 rfl))) (ty := (.object "com/example/stemline/stemline/dialect/clickhouse/ClickHouseLexer$Kind")) (by decide)
    have D73_49 : Fld Z h73 b73 "com/example/stemline/stemline/dialect/clickhouse/ClickHouseLexer$Token" "value" "Ljava/lang/String;" .null := D73 (Or.inr (hw _ (gw 49 rfl))) (ty := (.object "java/lang/String")) (by decide)
    have D73_51 : Fld Z h73 b73 "com/example/stemline/stemline/dialect/clickhouse/ClickHouseLexer$Token" "line" "I" (.int (0 : Int32)) := D73 (Or.inr (hw _ (gw 51 rfl))) (ty := .int) (by decide)
    have D73_53 : Fld Z h73 b73 "com/example/stemline/stemline/dialect/clickhouse/ClickHouseLexer$Token" "start" "I" (.int (0 : Int32)) := D73 (Or.inr (hw _ (gw 53 rfl))) (ty := .int) (by decide)
    have D73_55 : Fld Z h73 b73 "com/example/stemline/stemline/dialect/clickhouse/ClickHouseLexer$Token" "end" "I" (.int (0 : Int32)) := D73 (Or.inr (hw _ (gw 55 rfl))) (ty := .int) (by decide)
    obtain ⟨_, _, ⟨T76, L76, k76, n76⟩, -, X76, ⟨Lc76, hQ76, l76, y76, z76⟩, st76⟩ := Jvm.LawKit.callS X73 hx (y := M_4) hown (mvT hZ (hw _ (gw 30 rfl))) (mvT hZ (hw _ (gw 31 rfl))) (mvT hZ (hw _ (gw 32 rfl))) (mvT hZ (hw _ (gw 33 rfl))) (by decide) (backOf (W := 2) (rm6_10 l Z a0 hw [] a74 h73 n0  O73 S_75) hZ (hw _ (gw 33 rfl)) (hw _ (gw 32 rfl)) (by decide) (by decide)) (g := (mkF m 26 #[.val (.int p1), .val (.int p2), .val (.int p3), .val (.int p4), .val (.int p5), .val (.int (1 : Int32)), .val (.ref b56), .unset, .unset] [(.int (1 : Int32)), (.ref b73), (.ref b73)])) rfl (by rw [hml]; rfl) (argsL := [(.int (1 : Int32))]) (rest := [(.ref b73), (.ref b73)]) (lenOf pd_4 rfl) rfl (by show 2 * 0 + _ ≤ _; exact Nat.le_of_eq rfl) (hb hby at_26) (fun _ _ => ⟨rfl, e73, (by decide : 3 + 0 ≤ _), (by decide : 10 + 0 ≤ _)⟩)
    dsimp only [Pt.U, Pt.locs, Pt.cells, Pt.slots] at X76 l76 y76 z76 st76 hQ76
    subst l76 y76 z76
    obtain ⟨rfl, u78, u79⟩ := hQ76
    have N76 := Fr.app N54 u78
    obtain ⟨_, _, ⟨T80, L80, k80, n80⟩, -, X80, ⟨Lc80, hQ80, l80, y80, z80⟩, st80⟩ := X76.specialBack hx (y := M_6) rfl hown (mvT hZ (hw _ (gw 37 rfl))) (mvT hZ (hw _ (gw 38 rfl))) (mvT hZ (hw _ (gw 39 rfl))) (by decide) (backOf (W := 1) (rm7_7 l Z a0 hw [] b73 a74 b56 p3 p4 p5 h73 n0  O73 A73 D73_55 D73_47 D73_51 D73_53 D73_49 g_b73) hZ (hw _ (gw 39 rfl)) (hw _ (gw 29 rfl)) (by decide) (by decide)) (g := (mkF m 35 #[.val (.int p1), .val (.int p2), .val (.int p3), .val (.int p4), .val (.int p5), .val (.int (1 : Int32)), .val (.ref b56), .unset, .unset] [(.int p5), (.int p4), (.int p3), (.ref b56), (.ref a74), (.ref b73), (.ref b73)])) rfl (by rw [hml]; rfl) (Steps.refl _) (a := b73) (argsL := [(.ref a74), (.ref b56), (.int p3), (.int p4), (.int p5)]) (rest := [(.ref b73)]) (lenOf pd_6 rfl) rfl (by show 2 * 0 + _ ≤ _; exact Nat.le_of_eq rfl) (hb hby at_35) (fun _ _ => ⟨rfl, u79, (by decide : 3 + 0 ≤ _), (by decide : 10 + 0 ≤ _)⟩)
    dsimp only [Pt.U, Pt.locs, Pt.cells, Pt.slots] at X80 l80 y80 z80 st80 hQ80
    subst l80 y80 z80
    obtain ⟨rfl, u82, Ku83, u84, u85, u86, u87, u88, u89⟩ := hQ80
    have Ou83 : Old Z n0 T80.heap := O73.keep Ku83 (allS g_b73 all0)
    have N80 := Fr.app N76 u82
    obtain ⟨cq91, kq91, q91a, q91b, q91c⟩ := isOf hZ rfl u84
    obtain ⟨_, _, ⟨T91, L91, k91, n91⟩, -, X91, ⟨Lc91, hQ91, l91, y91, z91⟩, st91⟩ := X80.virtualBack hx (y := M_7) (z := M_7) hown (mvT hZ (hw _ (gw 56 rfl))) (mvT hZ (hw _ (gw 57 rfl))) (notFace_of_selects (args := #[]) (mvT hZ (hw _ (gw 59 rfl)))) (mvT hZ (hw _ (gw 59 rfl))) (mvT hZ (hw _ (gw 58 rfl))) (by decide) (backOf (W := 0) (rm9_11 l Z a0 hw [] b73 a74 a33 T80.heap n0  Ou83 u86 S_34 hne90 S_75) hZ (hw _ (gw 60 rfl)) (hw _ (gw 29 rfl)) (by decide) (by decide)) q91a q91c (g := (mkF m 55 #[.val (.int p1), .val (.int p2), .val (.int p3), .val (.int p4), .val (.int p5), .val (.int (1 : Int32)), .val (.ref b56), .val (.ref b73), .val (.int (1 : Int32))] [(.ref b73)])) rfl (by rw [hml]; rfl) (Steps.refl _) (argsL := []) (rest := []) (lenOf pd_7 rfl) rfl (by show 2 * 0 + _ ≤ _; exact Nat.le_of_eq rfl) (hb hby at_55) (fun _ _ => ⟨rfl, rfl, (by decide : 3 + 0 ≤ _), (by decide : 10 + 0 ≤ _)⟩)
    dsimp only [Pt.U, Pt.locs, Pt.cells, Pt.slots] at X91 l91 y91 z91 st91 hQ91
    subst l91 y91 z91
    obtain ⟨rfl, u93, u94⟩ := hQ91
    have N91 := Fr.app N80 u93
    obtain ⟨fs, hr, hrun, hended, hW, hsame⟩ := X91.leave (v := some (.int (1 : Int32))) (fun h => by rw [Bd.returns] at h; cases h)
    refine ⟨_, _, pre8 _ ?_, hrun, hended, _, _, rfl, ?_, ⟨_, rfl⟩, hW, hsame.mono (by decide) (by decide)⟩
    · show Steps p.tables e below (s₁.setTop (mkF m 6 #[.val (.int p1), .val (.int p2), .val (.int p3), .val (.int p4), .val (.int p5), .unset, .unset, .unset, .unset] [(.int (6 : Int32)), (.int i6)])) _
      refine Jvm.RoadKit.iremM (g := (mkF m 6 #[.val (.int p1), .val (.int p2), .val (.int p3), .val (.int p4), .val (.int p5), .unset, .unset, .unset, .unset] [(.int (6 : Int32)), (.int i6)])) X0 hx rfl (hb hby at_6) rfl (by decide +kernel : ¬ ((6 : Int32) = (0 : Int32))) ?_
      show Steps p.tables e below (s₁.setTop (mkF m 7 #[.val (.int p1), .val (.int p2), .val (.int p3), .val (.int p4), .val (.int p5), .unset, .unset, .unset, .unset] [(.int (i6 % (6 : Int32)))])) _
      rw [hq7]
      show Steps p.tables e below (s₁.setTop (mkF m 7 #[.val (.int p1), .val (.int p2), .val (.int p3), .val (.int p4), .val (.int p5), .unset, .unset, .unset, .unset] [(.int (1 : Int32))])) _
      refine XS.istore X0.here hx rfl (hb hby at_7) rfl (l' := #[.val (.int p1), .val (.int p2), .val (.int p3), .val (.int p4), .val (.int p5), .val (.int (1 : Int32)), .unset, .unset, .unset]) rfl ?_
      show Steps p.tables e below (s₁.setTop (mkF m 9 #[.val (.int p1), .val (.int p2), .val (.int p3), .val (.int p4), .val (.int p5), .val (.int (1 : Int32)), .unset, .unset, .unset] [])) _
      refine XS.iloadN X0.here hx rfl (hb hby at_9) rfl ?_
      show Steps p.tables e below (s₁.setTop (mkF m 10 #[.val (.int p1), .val (.int p2), .val (.int p3), .val (.int p4), .val (.int p5), .val (.int (1 : Int32)), .unset, .unset, .unset] [(.int p2)])) _
      refine XS.sipush X0.here hx rfl (hb hby at_10) ?_
      show Steps p.tables e below (s₁.setTop (mkF m 13 #[.val (.int p1), .val (.int p2), .val (.int p3), .val (.int p4), .val (.int p5), .val (.int (1 : Int32)), .unset, .unset, .unset] [(.int (255 : Int32)), (.int p2)])) _
      refine XS.iand X0.here hx rfl (hb hby at_13) rfl ?_
      show Steps p.tables e below (s₁.setTop (mkF m 14 #[.val (.int p1), .val (.int p2), .val (.int p3), .val (.int p4), .val (.int p5), .val (.int (1 : Int32)), .unset, .unset, .unset] [(.int (p2 &&& (255 : Int32)))])) _
      rw [← hi53]
      show Steps p.tables e below (s₁.setTop (mkF m 14 #[.val (.int p1), .val (.int p2), .val (.int p3), .val (.int p4), .val (.int p5), .val (.int (1 : Int32)), .unset, .unset, .unset] [(.int i53)])) _
      refine XS.i2c X0.here hx rfl (hb hby at_14) rfl ?_
      show Steps p.tables e below (s₁.setTop (mkF m 15 #[.val (.int p1), .val (.int p2), .val (.int p3), .val (.int p4), .val (.int p5), .val (.int (1 : Int32)), .unset, .unset, .unset] [(.int (i53.toUInt32.toUInt16.toUInt32.toInt32))])) _
      rw [(own_i2c255 hi53)]
      show Steps p.tables e below (s₁.setTop (mkF m 15 #[.val (.int p1), .val (.int p2), .val (.int p3), .val (.int p4), .val (.int p5), .val (.int (1 : Int32)), .unset, .unset, .unset] [(.int i53)])) _
      refine st54 _ ?_
      show Steps p.tables e below (T54.setTop (mkF m 18 #[.val (.int p1), .val (.int p2), .val (.int p3), .val (.int p4), .val (.int p5), .val (.int (1 : Int32)), .unset, .unset, .unset] [(.ref b56)])) _
      refine XS.astore X54.here hx rfl (hb hby at_18) rfl rfl (l' := #[.val (.int p1), .val (.int p2), .val (.int p3), .val (.int p4), .val (.int p5), .val (.int (1 : Int32)), .val (.ref b56), .unset, .unset]) rfl ?_
      show Steps p.tables e below (T54.setTop (mkF m 20 #[.val (.int p1), .val (.int p2), .val (.int p3), .val (.int p4), .val (.int p5), .val (.int (1 : Int32)), .val (.ref b56), .unset, .unset] [])) _
      refine st73 _ ?_
      show Steps p.tables e below (T73.setTop (mkF m 23 #[.val (.int p1), .val (.int p2), .val (.int p3), .val (.int p4), .val (.int p5), .val (.int (1 : Int32)), .val (.ref b56), .unset, .unset] [(.ref b73)])) _
      refine XS.dup X73.here hx rfl (hb hby at_23) rfl rfl ?_
      show Steps p.tables e below (T73.setTop (mkF m 24 #[.val (.int p1), .val (.int p2), .val (.int p3), .val (.int p4), .val (.int p5), .val (.int (1 : Int32)), .val (.ref b56), .unset, .unset] [(.ref b73), (.ref b73)])) _
      refine XS.iload X73.here hx rfl (hb hby at_24) rfl ?_
      show Steps p.tables e below (T73.setTop (mkF m 26 #[.val (.int p1), .val (.int p2), .val (.int p3), .val (.int p4), .val (.int p5), .val (.int (1 : Int32)), .val (.ref b56), .unset, .unset] [(.int (1 : Int32)), (.ref b73), (.ref b73)])) _
      refine st76 _ ?_
      show Steps p.tables e below (T76.setTop (mkF m 29 #[.val (.int p1), .val (.int p2), .val (.int p3), .val (.int p4), .val (.int p5), .val (.int (1 : Int32)), .val (.ref b56), .unset, .unset] [(.ref a74), (.ref b73), (.ref b73)])) _
      refine XS.aload X76.here hx rfl (hb hby at_29) rfl rfl ?_
      show Steps p.tables e below (T76.setTop (mkF m 31 #[.val (.int p1), .val (.int p2), .val (.int p3), .val (.int p4), .val (.int p5), .val (.int (1 : Int32)), .val (.ref b56), .unset, .unset] [(.ref b56), (.ref a74), (.ref b73), (.ref b73)])) _
      refine XS.iloadN X76.here hx rfl (hb hby at_31) rfl ?_
      show Steps p.tables e below (T76.setTop (mkF m 32 #[.val (.int p1), .val (.int p2), .val (.int p3), .val (.int p4), .val (.int p5), .val (.int (1 : Int32)), .val (.ref b56), .unset, .unset] [(.int p3), (.ref b56), (.ref a74), (.ref b73), (.ref b73)])) _
      refine XS.iloadN X76.here hx rfl (hb hby at_32) rfl ?_
      show Steps p.tables e below (T76.setTop (mkF m 33 #[.val (.int p1), .val (.int p2), .val (.int p3), .val (.int p4), .val (.int p5), .val (.int (1 : Int32)), .val (.ref b56), .unset, .unset] [(.int p4), (.int p3), (.ref b56), (.ref a74), (.ref b73), (.ref b73)])) _
      refine XS.iload X76.here hx rfl (hb hby at_33) rfl ?_
      show Steps p.tables e below (T76.setTop (mkF m 35 #[.val (.int p1), .val (.int p2), .val (.int p3), .val (.int p4), .val (.int p5), .val (.int (1 : Int32)), .val (.ref b56), .unset, .unset] [(.int p5), (.int p4), (.int p3), (.ref b56), (.ref a74), (.ref b73), (.ref b73)])) _
      refine st80.trans ?_
      show Steps p.tables e below (T80.setTop (mkF m 38 #[.val (.int p1), .val (.int p2), .val (.int p3), .val (.int p4), .val (.int p5), .val (.int (1 : Int32)), .val (.ref b56), .unset, .unset] [(.ref b73)])) _
      refine XS.astore X80.here hx rfl (hb hby at_38) rfl rfl (l' := #[.val (.int p1), .val (.int p2), .val (.int p3), .val (.int p4), .val (.int p5), .val (.int (1 : Int32)), .val (.ref b56), .val (.ref b73), .unset]) rfl ?_
      show Steps p.tables e below (T80.setTop (mkF m 40 #[.val (.int p1), .val (.int p2), .val (.int p3), .val (.int p4), .val (.int p5), .val (.int (1 : Int32)), .val (.ref b56), .val (.ref b73), .unset] [])) _
      refine XS.iload X80.here hx rfl (hb hby at_40) rfl ?_
      show Steps p.tables e below (T80.setTop (mkF m 42 #[.val (.int p1), .val (.int p2), .val (.int p3), .val (.int p4), .val (.int p5), .val (.int (1 : Int32)), .val (.ref b56), .val (.ref b73), .unset] [(.int (1 : Int32))])) _
      refine XS.iconst X80.here hx rfl (hb hby at_42) ?_
      show Steps p.tables e below (T80.setTop (mkF m 43 #[.val (.int p1), .val (.int p2), .val (.int p3), .val (.int p4), .val (.int p5), .val (.int (1 : Int32)), .val (.ref b56), .val (.ref b73), .unset] [(.int (1 : Int32)), (.int (1 : Int32))])) _
      refine XS.icmpNo X80.here hx rfl (hb hby at_43) rfl (flt (by decide +kernel : ¬ ((1 : Int32) < (1 : Int32)))).2.2.1 ?_
      show Steps p.tables e below (T80.setTop (mkF m 46 #[.val (.int p1), .val (.int p2), .val (.int p3), .val (.int p4), .val (.int p5), .val (.int (1 : Int32)), .val (.ref b56), .val (.ref b73), .unset] [])) _
      refine XS.iconst X80.here hx rfl (hb hby at_46) ?_
      show Steps p.tables e below (T80.setTop (mkF m 47 #[.val (.int p1), .val (.int p2), .val (.int p3), .val (.int p4), .val (.int p5), .val (.int (1 : Int32)), .val (.ref b56), .val (.ref b73), .unset] [(.int (1 : Int32))])) _
      refine XS.goto X80.here hx rfl (pc0 := 47) (pc' := 51) rfl (hb hby at_47) (by decide) (by decide) ?_
      show Steps p.tables e below (T80.setTop (mkF m 51 #[.val (.int p1), .val (.int p2), .val (.int p3), .val (.int p4), .val (.int p5), .val (.int (1 : Int32)), .val (.ref b56), .val (.ref b73), .unset] [(.int (1 : Int32))])) _
      refine XS.istore X80.here hx rfl (hb hby at_51) rfl (l' := #[.val (.int p1), .val (.int p2), .val (.int p3), .val (.int p4), .val (.int p5), .val (.int (1 : Int32)), .val (.ref b56), .val (.ref b73), .val (.int (1 : Int32))]) rfl ?_
      show Steps p.tables e below (T80.setTop (mkF m 53 #[.val (.int p1), .val (.int p2), .val (.int p3), .val (.int p4), .val (.int p5), .val (.int (1 : Int32)), .val (.ref b56), .val (.ref b73), .val (.int (1 : Int32))] [])) _
      refine XS.aload X80.here hx rfl (hb hby at_53) rfl rfl ?_
      show Steps p.tables e below (T80.setTop (mkF m 55 #[.val (.int p1), .val (.int p2), .val (.int p3), .val (.int p4), .val (.int p5), .val (.int (1 : Int32)), .val (.ref b56), .val (.ref b73), .val (.int (1 : Int32))] [(.ref b73)])) _
      refine st91.trans ?_
      show Steps p.tables e below (T91.setTop (mkF m 58 #[.val (.int p1), .val (.int p2), .val (.int p3), .val (.int p4), .val (.int p5), .val (.int (1 : Int32)), .val (.ref b56), .val (.ref b73), .val (.int (1 : Int32))] [(.int (1 : Int32))])) _
      refine XS.iload X91.here hx rfl (hb hby at_58) rfl ?_
      show Steps p.tables e below (T91.setTop (mkF m 60 #[.val (.int p1), .val (.int p2), .val (.int p3), .val (.int p4), .val (.int p5), .val (.int (1 : Int32)), .val (.ref b56), .val (.ref b73), .val (.int (1 : Int32))] [(.int (1 : Int32)), (.int (1 : Int32))])) _
      refine XS.icmpNo X91.here hx rfl (hb hby at_60) rfl (teq (by decide +kernel : (1 : Int32) = (1 : Int32))).2 ?_
      show Steps p.tables e below (T91.setTop (mkF m 63 #[.val (.int p1), .val (.int p2), .val (.int p3), .val (.int p4), .val (.int p5), .val (.int (1 : Int32)), .val (.ref b56), .val (.ref b73), .val (.int (1 : Int32))] [])) _
      refine XS.iconst X91.here hx rfl (hb hby at_63) ?_
      show Steps p.tables e below (T91.setTop (mkF m 64 #[.val (.int p1), .val (.int p2), .val (.int p3), .val (.int p4), .val (.int p5), .val (.int (1 : Int32)), .val (.ref b56), .val (.ref b73), .val (.int (1 : Int32))] [(.int (1 : Int32))])) _
      refine XS.goto X91.here hx rfl (pc0 := 64) (pc' := 68) rfl (hb hby at_64) (by decide) (by decide) ?_
      show Steps p.tables e below (T91.setTop (mkF m 68 #[.val (.int p1), .val (.int p2), .val (.int p3), .val (.int p4), .val (.int p5), .val (.int (1 : Int32)), .val (.ref b56), .val (.ref b73), .val (.int (1 : Int32))] [(.int (1 : Int32))])) _
      exact retN X91 hx (t := .boolean) Bd.returns (by simp) (hb hby at_68) hr
    · show Q0 Z _ _ _ _ _ _ _ _ _ _ _ _ h0 n0 _ T91.heap _
      rw [u94]
      exact ⟨rfl, N91⟩
  · skip
    obtain ⟨i95, hi95⟩ : ∃ z, z = (p2 &&& (255 : Int32)) := ⟨_, rfl⟩
    obtain ⟨_, _, ⟨T96, L96, k96, n96⟩, -, X96, ⟨Lc96, hQ96, l96, y96, z96⟩, st96⟩ := Jvm.LawKit.callS X0 hx (y := M_3) hown (mvT hZ (hw _ (gw 1 rfl))) (mvT hZ (hw _ (gw 2 rfl))) (mvT hZ (hw _ (gw 3 rfl))) (mvT hZ (hw _ (gw 4 rfl))) (by decide) (backOf (W := 0) (rm1_2 l Z a0 hw [] i95 p10 h0 n0  O0 S_11 hk12 (own_lt255 hi95)) hZ (hw _ (gw 4 rfl)) (hw _ (gw 3 rfl)) (by decide) (by decide)) (g := (mkF m 15 #[.val (.int p1), .val (.int p2), .val (.int p3), .val (.int p4), .val (.int p5), .val (.int (2 : Int32)), .unset, .unset, .unset] [(.int i95)])) rfl (by rw [hml]; rfl) (argsL := [(.int i95)]) (rest := []) (lenOf pd_3 rfl) rfl (by show 2 * 0 + _ ≤ _; exact Nat.le_of_eq rfl) (hb hby at_15) (fun _ _ => ⟨rfl, e0, (by decide : 0 + 2 ≤ _), (by decide : 0 + 5 ≤ _)⟩)
    dsimp only [Pt.U, Pt.locs, Pt.cells, Pt.slots] at X96 l96 y96 z96 st96 hQ96
    subst l96 y96 z96
    obtain ⟨i97, b98, b99, k100, u101, rfl, u103, u104, u105, u106, u107, u108, Ku109, u110, u111, u112, u113, u114⟩ := hQ96
    have Ou109 : Old Z n0 T96.heap := O0.keep Ku109 all0
    have g_b98 : n0 ≤ b98 := Nat.le_trans (own_z O0) u104
    have sz_b98 : h0.size ≤ b98 := Nat.le_trans (Nat.le_refl _) u104
    have g_b99 : n0 ≤ b99 := Nat.le_trans (own_z O0) u106
    have sz_b99 : h0.size ≤ b99 := Nat.le_trans (Nat.le_refl _) u106
    have N96 := Fr.app N0 u103
    obtain ⟨T115, h115, X115, e115, E115, A115, D115, -, st115⟩ := newO X96 hx hZ hown (hw _ (gw 27 rfl)) (hw _ (gw 28 rfl)) (hw _ (gw 29 rfl)) rfl (g := (mkF m 20 #[.val (.int p1), .val (.int p2), .val (.int p3), .val (.int p4), .val (.int p5), .val (.int (2 : Int32)), .val (.ref b98), .unset, .unset] [])) rfl (hb hby at_20) (by decide) (by decide)
    obtain ⟨b115, g115⟩ : ∃ z, z = T96.heap.size := ⟨_, rfl⟩
    rw [← g115] at A115 D115 st115
    have O115 : Old Z n0 h115 := Ou109.ext E115
    have bd_b115 : T96.heap.size ≤ b115 := Nat.le_of_eq g115.symm
    have g_b115 : n0 ≤ b115 := Nat.le_trans (own_z Ou109) bd_b115
    have sz_b115 : h0.size ≤ b115 := Nat.le_trans Ku109.1 bd_b115
    have lt_b115 : b115 < h115.size := A115.lt
    have D115_47 : Fld Z h115 b115 "com/example/stemline/stemline/dialect/clickhouse/ClickHouseLexer$Token" "kind" "Lcom/example/stemline/stemline/dialect/clickhouse/ClickHouseLexer$Kind;" .null := D115 (Or.inr (hw _ (gw 47 rfl))) (ty := (.object "com/example/stemline/stemline/dialect/clickhouse/ClickHouseLexer$Kind")) (by decide)
    have D115_49 : Fld Z h115 b115 "com/example/stemline/stemline/dialect/clickhouse/ClickHouseLexer$Token" "value" "Ljava/lang/String;" .null := D115 (Or.inr (hw _ (gw 49 rfl))) (ty := (.object "java/lang/String")) (by decide)
    have D115_51 : Fld Z h115 b115 "com/example/stemline/stemline/dialect/clickhouse/ClickHouseLexer$Token" "line" "I" (.int (0 : Int32)) := D115 (Or.inr (hw _ (gw 51 rfl))) (ty := .int) (by decide)
    have D115_53 : Fld Z h115 b115 "com/example/stemline/stemline/dialect/clickhouse/ClickHouseLexer$Token" "start" "I" (.int (0 : Int32)) := D115 (Or.inr (hw _ (gw 53 rfl))) (ty := .int) (by decide)
    have D115_55 : Fld Z h115 b115 "com/example/stemline/stemline/dialect/clickhouse/ClickHouseLexer$Token" "end" "I" (.int (0 : Int32)) := D115 (Or.inr (hw _ (gw 55 rfl))) (ty := .int) (by decide)
    obtain ⟨_, _, ⟨T118, L118, k118, n118⟩, -, X118, ⟨Lc118, hQ118, l118, y118, z118⟩, st118⟩ := Jvm.LawKit.callS X115 hx (y := M_4) hown (mvT hZ (hw _ (gw 30 rfl))) (mvT hZ (hw _ (gw 31 rfl))) (mvT hZ (hw _ (gw 32 rfl))) (mvT hZ (hw _ (gw 33 rfl))) (by decide) (backOf (W := 2) (rm6_12 l Z a0 hw [] a116 h115 n0  O115 S_117) hZ (hw _ (gw 33 rfl)) (hw _ (gw 32 rfl)) (by decide) (by decide)) (g := (mkF m 26 #[.val (.int p1), .val (.int p2), .val (.int p3), .val (.int p4), .val (.int p5), .val (.int (2 : Int32)), .val (.ref b98), .unset, .unset] [(.int (2 : Int32)), (.ref b115), (.ref b115)])) rfl (by rw [hml]; rfl) (argsL := [(.int (2 : Int32))]) (rest := [(.ref b115), (.ref b115)]) (lenOf pd_4 rfl) rfl (by show 2 * 0 + _ ≤ _; exact Nat.le_of_eq rfl) (hb hby at_26) (fun _ _ => ⟨rfl, e115, (by decide : 3 + 0 ≤ _), (by decide : 10 + 0 ≤ _)⟩)
    dsimp only [Pt.U, Pt.locs, Pt.cells, Pt.slots] at X118 l118 y118 z118 st118 hQ118
    subst l118 y118 z118
    obtain ⟨rfl, u120, u121⟩ := hQ118
    have N118 := Fr.app N96 u120
    obtain ⟨_, _, ⟨T122, L122, k122, n122⟩, -, X122, ⟨Lc122, hQ122, l122, y122, z122⟩, st122⟩ := X118.specialBack hx (y := M_6) rfl hown (mvT hZ (hw _ (gw 37 rfl))) (mvT hZ (hw _ (gw 38 rfl))) (mvT hZ (hw _ (gw 39 rfl))) (by decide) (backOf (W := 1) (rm7_7 l Z a0 hw [] b115 a116 b98 p3 p4 p5 h115 n0  O115 A115 D115_55 D115_47 D115_51 D115_53 D115_49 g_b115) hZ (hw _ (gw 39 rfl)) (hw _ (gw 29 rfl)) (by decide) (by decide)) (g := (mkF m 35 #[.val (.int p1), .val (.int p2), .val (.int p3), .val (.int p4), .val (.int p5), .val (.int (2 : Int32)), .val (.ref b98), .unset, .unset] [(.int p5), (.int p4), (.int p3), (.ref b98), (.ref a116), (.ref b115), (.ref b115)])) rfl (by rw [hml]; rfl) (Steps.refl _) (a := b115) (argsL := [(.ref a116), (.ref b98), (.int p3), (.int p4), (.int p5)]) (rest := [(.ref b115)]) (lenOf pd_6 rfl) rfl (by show 2 * 0 + _ ≤ _; exact Nat.le_of_eq rfl) (hb hby at_35) (fun _ _ => ⟨rfl, u121, (by decide : 3 + 0 ≤ _), (by decide : 10 + 0 ≤ _)⟩)
    dsimp only [Pt.U, Pt.locs, Pt.cells, Pt.slots] at X122 l122 y122 z122 st122 hQ122
    subst l122 y122 z122
    obtain ⟨rfl, u124, Ku125, u126, u127, u128, u129, u130, u131⟩ := hQ122
    have Ou125 : Old Z n0 T122.heap := O115.keep Ku125 (allS g_b115 all0)
    have N122 := Fr.app N118 u124
    obtain ⟨cq134, kq134, q134a, q134b, q134c⟩ := isOf hZ rfl u126
    obtain ⟨_, _, ⟨T134, L134, k134, n134⟩, -, X134, ⟨Lc134, hQ134, l134, y134, z134⟩, st134⟩ := X122.virtualBack hx (y := M_7) (z := M_7) hown (mvT hZ (hw _ (gw 56 rfl))) (mvT hZ (hw _ (gw 57 rfl))) (notFace_of_selects (args := #[]) (mvT hZ (hw _ (gw 59 rfl)))) (mvT hZ (hw _ (gw 59 rfl))) (mvT hZ (hw _ (gw 58 rfl))) (by decide) (backOf (W := 0) (rm9_13 l Z a0 hw [] b115 a116 a33 a74 T122.heap n0  Ou125 u128 S_34 hne132 S_75 hne133) hZ (hw _ (gw 60 rfl)) (hw _ (gw 29 rfl)) (by decide) (by decide)) q134a q134c (g := (mkF m 55 #[.val (.int p1), .val (.int p2), .val (.int p3), .val (.int p4), .val (.int p5), .val (.int (2 : Int32)), .val (.ref b98), .val (.ref b115), .val (.int (0 : Int32))] [(.ref b115)])) rfl (by rw [hml]; rfl) (Steps.refl _) (argsL := []) (rest := []) (lenOf pd_7 rfl) rfl (by show 2 * 0 + _ ≤ _; exact Nat.le_of_eq rfl) (hb hby at_55) (fun _ _ => ⟨rfl, rfl, (by decide : 3 + 0 ≤ _), (by decide : 10 + 0 ≤ _)⟩)
    dsimp only [Pt.U, Pt.locs, Pt.cells, Pt.slots] at X134 l134 y134 z134 st134 hQ134
    subst l134 y134 z134
    obtain ⟨rfl, u136, u137⟩ := hQ134
    have N134 := Fr.app N122 u136
    obtain ⟨fs, hr, hrun, hended, hW, hsame⟩ := X134.leave (v := some (.int (1 : Int32))) (fun h => by rw [Bd.returns] at h; cases h)
    refine ⟨_, _, pre8 _ ?_, hrun, hended, _, _, rfl, ?_, ⟨_, rfl⟩, hW, hsame.mono (by decide) (by decide)⟩
    · show Steps p.tables e below (s₁.setTop (mkF m 6 #[.val (.int p1), .val (.int p2), .val (.int p3), .val (.int p4), .val (.int p5), .unset, .unset, .unset, .unset] [(.int (6 : Int32)), (.int i6)])) _
      refine Jvm.RoadKit.iremM (g := (mkF m 6 #[.val (.int p1), .val (.int p2), .val (.int p3), .val (.int p4), .val (.int p5), .unset, .unset, .unset, .unset] [(.int (6 : Int32)), (.int i6)])) X0 hx rfl (hb hby at_6) rfl (by decide +kernel : ¬ ((6 : Int32) = (0 : Int32))) ?_
      show Steps p.tables e below (s₁.setTop (mkF m 7 #[.val (.int p1), .val (.int p2), .val (.int p3), .val (.int p4), .val (.int p5), .unset, .unset, .unset, .unset] [(.int (i6 % (6 : Int32)))])) _
      rw [hq7]
      show Steps p.tables e below (s₁.setTop (mkF m 7 #[.val (.int p1), .val (.int p2), .val (.int p3), .val (.int p4), .val (.int p5), .unset, .unset, .unset, .unset] [(.int (2 : Int32))])) _
      refine XS.istore X0.here hx rfl (hb hby at_7) rfl (l' := #[.val (.int p1), .val (.int p2), .val (.int p3), .val (.int p4), .val (.int p5), .val (.int (2 : Int32)), .unset, .unset, .unset]) rfl ?_
      show Steps p.tables e below (s₁.setTop (mkF m 9 #[.val (.int p1), .val (.int p2), .val (.int p3), .val (.int p4), .val (.int p5), .val (.int (2 : Int32)), .unset, .unset, .unset] [])) _
      refine XS.iloadN X0.here hx rfl (hb hby at_9) rfl ?_
      show Steps p.tables e below (s₁.setTop (mkF m 10 #[.val (.int p1), .val (.int p2), .val (.int p3), .val (.int p4), .val (.int p5), .val (.int (2 : Int32)), .unset, .unset, .unset] [(.int p2)])) _
      refine XS.sipush X0.here hx rfl (hb hby at_10) ?_
      show Steps p.tables e below (s₁.setTop (mkF m 13 #[.val (.int p1), .val (.int p2), .val (.int p3), .val (.int p4), .val (.int p5), .val (.int (2 : Int32)), .unset, .unset, .unset] [(.int (255 : Int32)), (.int p2)])) _
      refine XS.iand X0.here hx rfl (hb hby at_13) rfl ?_
      show Steps p.tables e below (s₁.setTop (mkF m 14 #[.val (.int p1), .val (.int p2), .val (.int p3), .val (.int p4), .val (.int p5), .val (.int (2 : Int32)), .unset, .unset, .unset] [(.int (p2 &&& (255 : Int32)))])) _
      rw [← hi95]
      show Steps p.tables e below (s₁.setTop (mkF m 14 #[.val (.int p1), .val (.int p2), .val (.int p3), .val (.int p4), .val (.int p5), .val (.int (2 : Int32)), .unset, .unset, .unset] [(.int i95)])) _
      refine XS.i2c X0.here hx rfl (hb hby at_14) rfl ?_
      show Steps p.tables e below (s₁.setTop (mkF m 15 #[.val (.int p1), .val (.int p2), .val (.int p3), .val (.int p4), .val (.int p5), .val (.int (2 : Int32)), .unset, .unset, .unset] [(.int (i95.toUInt32.toUInt16.toUInt32.toInt32))])) _
      rw [(own_i2c255 hi95)]
      show Steps p.tables e below (s₁.setTop (mkF m 15 #[.val (.int p1), .val (.int p2), .val (.int p3), .val (.int p4), .val (.int p5), .val (.int (2 : Int32)), .unset, .unset, .unset] [(.int i95)])) _
      refine st96 _ ?_
      show Steps p.tables e below (T96.setTop (mkF m 18 #[.val (.int p1), .val (.int p2), .val (.int p3), .val (.int p4), .val (.int p5), .val (.int (2 : Int32)), .unset, .unset, .unset] [(.ref b98)])) _
      refine XS.astore X96.here hx rfl (hb hby at_18) rfl rfl (l' := #[.val (.int p1), .val (.int p2), .val (.int p3), .val (.int p4), .val (.int p5), .val (.int (2 : Int32)), .val (.ref b98), .unset, .unset]) rfl ?_
      show Steps p.tables e below (T96.setTop (mkF m 20 #[.val (.int p1), .val (.int p2), .val (.int p3), .val (.int p4), .val (.int p5), .val (.int (2 : Int32)), .val (.ref b98), .unset, .unset] [])) _
      refine st115 _ ?_
      show Steps p.tables e below (T115.setTop (mkF m 23 #[.val (.int p1), .val (.int p2), .val (.int p3), .val (.int p4), .val (.int p5), .val (.int (2 : Int32)), .val (.ref b98), .unset, .unset] [(.ref b115)])) _
      refine XS.dup X115.here hx rfl (hb hby at_23) rfl rfl ?_
      show Steps p.tables e below (T115.setTop (mkF m 24 #[.val (.int p1), .val (.int p2), .val (.int p3), .val (.int p4), .val (.int p5), .val (.int (2 : Int32)), .val (.ref b98), .unset, .unset] [(.ref b115), (.ref b115)])) _
      refine XS.iload X115.here hx rfl (hb hby at_24) rfl ?_
      show Steps p.tables e below (T115.setTop (mkF m 26 #[.val (.int p1), .val (.int p2), .val (.int p3), .val (.int p4), .val (.int p5), .val (.int (2 : Int32)), .val (.ref b98), .unset, .unset] [(.int (2 : Int32)), (.ref b115), (.ref b115)])) _
      refine st118 _ ?_
      show Steps p.tables e below (T118.setTop (mkF m 29 #[.val (.int p1), .val (.int p2), .val (.int p3), .val (.int p4), .val (.int p5), .val (.int (2 : Int32)), .val (.ref b98), .unset, .unset] [(.ref a116), (.ref b115), (.ref b115)])) _
      refine XS.aload X118.here hx rfl (hb hby at_29) rfl rfl ?_
      show Steps p.tables e below (T118.setTop (mkF m 31 #[.val (.int p1), .val (.int p2), .val (.int p3), .val (.int p4), .val (.int p5), .val (.int (2 : Int32)), .val (.ref b98), .unset, .unset] [(.ref b98), (.ref a116), (.ref b115), (.ref b115)])) _
      refine XS.iloadN X118.here hx rfl (hb hby at_31) rfl ?_
      show Steps p.tables e below (T118.setTop (mkF m 32 #[.val (.int p1), .val (.int p2), .val (.int p3), .val (.int p4), .val (.int p5), .val (.int (2 : Int32)), .val (.ref b98), .unset, .unset] [(.int p3), (.ref b98), (.ref a116), (.ref b115), (.ref b115)])) _
      refine XS.iloadN X118.here hx rfl (hb hby at_32) rfl ?_
      show Steps p.tables e below (T118.setTop (mkF m 33 #[.val (.int p1), .val (.int p2), .val (.int p3), .val (.int p4), .val (.int p5), .val (.int (2 : Int32)), .val (.ref b98), .unset, .unset] [(.int p4), (.int p3), (.ref b98), (.ref a116), (.ref b115), (.ref b115)])) _
      refine XS.iload X118.here hx rfl (hb hby at_33) rfl ?_
      show Steps p.tables e below (T118.setTop (mkF m 35 #[.val (.int p1), .val (.int p2), .val (.int p3), .val (.int p4), .val (.int p5), .val (.int (2 : Int32)), .val (.ref b98), .unset, .unset] [(.int p5), (.int p4), (.int p3), (.ref b98), (.ref a116), (.ref b115), (.ref b115)])) _
      refine st122.trans ?_
      show Steps p.tables e below (T122.setTop (mkF m 38 #[.val (.int p1), .val (.int p2), .val (.int p3), .val (.int p4), .val (.int p5), .val (.int (2 : Int32)), .val (.ref b98), .unset, .unset] [(.ref b115)])) _
      refine XS.astore X122.here hx rfl (hb hby at_38) rfl rfl (l' := #[.val (.int p1), .val (.int p2), .val (.int p3), .val (.int p4), .val (.int p5), .val (.int (2 : Int32)), .val (.ref b98), .val (.ref b115), .unset]) rfl ?_
      show Steps p.tables e below (T122.setTop (mkF m 40 #[.val (.int p1), .val (.int p2), .val (.int p3), .val (.int p4), .val (.int p5), .val (.int (2 : Int32)), .val (.ref b98), .val (.ref b115), .unset] [])) _
      refine XS.iload X122.here hx rfl (hb hby at_40) rfl ?_
      show Steps p.tables e below (T122.setTop (mkF m 42 #[.val (.int p1), .val (.int p2), .val (.int p3), .val (.int p4), .val (.int p5), .val (.int (2 : Int32)), .val (.ref b98), .val (.ref b115), .unset] [(.int (2 : Int32))])) _
      refine XS.iconst X122.here hx rfl (hb hby at_42) ?_
      show Steps p.tables e below (T122.setTop (mkF m 43 #[.val (.int p1), .val (.int p2), .val (.int p3), .val (.int p4), .val (.int p5), .val (.int (2 : Int32)), .val (.ref b98), .val (.ref b115), .unset] [(.int (1 : Int32)), (.int (2 : Int32))])) _
      refine XS.icmpYes X122.here hx rfl (pc0 := 43) (pc' := 50) rfl (hb hby at_43) rfl (tlt (by decide +kernel : (1 : Int32) < (2 : Int32))).2.2.1 (by decide) (by decide) ?_
      show Steps p.tables e below (T122.setTop (mkF m 50 #[.val (.int p1), .val (.int p2), .val (.int p3), .val (.int p4), .val (.int p5), .val (.int (2 : Int32)), .val (.ref b98), .val (.ref b115), .unset] [])) _
      refine XS.iconst X122.here hx rfl (hb hby at_50) ?_
      show Steps p.tables e below (T122.setTop (mkF m 51 #[.val (.int p1), .val (.int p2), .val (.int p3), .val (.int p4), .val (.int p5), .val (.int (2 : Int32)), .val (.ref b98), .val (.ref b115), .unset] [(.int (0 : Int32))])) _
      refine XS.istore X122.here hx rfl (hb hby at_51) rfl (l' := #[.val (.int p1), .val (.int p2), .val (.int p3), .val (.int p4), .val (.int p5), .val (.int (2 : Int32)), .val (.ref b98), .val (.ref b115), .val (.int (0 : Int32))]) rfl ?_
      show Steps p.tables e below (T122.setTop (mkF m 53 #[.val (.int p1), .val (.int p2), .val (.int p3), .val (.int p4), .val (.int p5), .val (.int (2 : Int32)), .val (.ref b98), .val (.ref b115), .val (.int (0 : Int32))] [])) _
      refine XS.aload X122.here hx rfl (hb hby at_53) rfl rfl ?_
      show Steps p.tables e below (T122.setTop (mkF m 55 #[.val (.int p1), .val (.int p2), .val (.int p3), .val (.int p4), .val (.int p5), .val (.int (2 : Int32)), .val (.ref b98), .val (.ref b115), .val (.int (0 : Int32))] [(.ref b115)])) _
      refine st134.trans ?_
      show Steps p.tables e below (T134.setTop (mkF m 58 #[.val (.int p1), .val (.int p2), .val (.int p3), .val (.int p4), .val (.int p5), .val (.int (2 : Int32)), .val (.ref b98), .val (.ref b115), .val (.int (0 : Int32))] [(.int (0 : Int32))])) _
      refine XS.iload X134.here hx rfl (hb hby at_58) rfl ?_
      show Steps p.tables e below (T134.setTop (mkF m 60 #[.val (.int p1), .val (.int p2), .val (.int p3), .val (.int p4), .val (.int p5), .val (.int (2 : Int32)), .val (.ref b98), .val (.ref b115), .val (.int (0 : Int32))] [(.int (0 : Int32)), (.int (0 : Int32))])) _
      refine XS.icmpNo X134.here hx rfl (hb hby at_60) rfl (teq (by decide +kernel : (0 : Int32) = (0 : Int32))).2 ?_
      show Steps p.tables e below (T134.setTop (mkF m 63 #[.val (.int p1), .val (.int p2), .val (.int p3), .val (.int p4), .val (.int p5), .val (.int (2 : Int32)), .val (.ref b98), .val (.ref b115), .val (.int (0 : Int32))] [])) _
      refine XS.iconst X134.here hx rfl (hb hby at_63) ?_
      show Steps p.tables e below (T134.setTop (mkF m 64 #[.val (.int p1), .val (.int p2), .val (.int p3), .val (.int p4), .val (.int p5), .val (.int (2 : Int32)), .val (.ref b98), .val (.ref b115), .val (.int (0 : Int32))] [(.int (1 : Int32))])) _
      refine XS.goto X134.here hx rfl (pc0 := 64) (pc' := 68) rfl (hb hby at_64) (by decide) (by decide) ?_
      show Steps p.tables e below (T134.setTop (mkF m 68 #[.val (.int p1), .val (.int p2), .val (.int p3), .val (.int p4), .val (.int p5), .val (.int (2 : Int32)), .val (.ref b98), .val (.ref b115), .val (.int (0 : Int32))] [(.int (1 : Int32))])) _
      exact retN X134 hx (t := .boolean) Bd.returns (by simp) (hb hby at_68) hr
    · show Q0 Z _ _ _ _ _ _ _ _ _ _ _ _ h0 n0 _ T134.heap _
      rw [u137]
      exact ⟨rfl, N134⟩
  · skip
    obtain ⟨i138, hi138⟩ : ∃ z, z = (p2 &&& (255 : Int32)) := ⟨_, rfl⟩
    obtain ⟨_, _, ⟨T139, L139, k139, n139⟩, -, X139, ⟨Lc139, hQ139, l139, y139, z139⟩, st139⟩ := Jvm.LawKit.callS X0 hx (y := M_3) hown (mvT hZ (hw _ (gw 1 rfl))) (mvT hZ (hw _ (gw 2 rfl))) (mvT hZ (hw _ (gw 3 rfl))) (mvT hZ (hw _ (gw 4 rfl))) (by decide) (backOf (W := 0) (rm1_2 l Z a0 hw [] i138 p10 h0 n0  O0 S_11 hk12 (own_lt255 hi138)) hZ (hw _ (gw 4 rfl)) (hw _ (gw 3 rfl)) (by decide) (by decide)) (g := (mkF m 15 #[.val (.int p1), .val (.int p2), .val (.int p3), .val (.int p4), .val (.int p5), .val (.int (3 : Int32)), .unset, .unset, .unset] [(.int i138)])) rfl (by rw [hml]; rfl) (argsL := [(.int i138)]) (rest := []) (lenOf pd_3 rfl) rfl (by show 2 * 0 + _ ≤ _; exact Nat.le_of_eq rfl) (hb hby at_15) (fun _ _ => ⟨rfl, e0, (by decide : 0 + 2 ≤ _), (by decide : 0 + 5 ≤ _)⟩)
    dsimp only [Pt.U, Pt.locs, Pt.cells, Pt.slots] at X139 l139 y139 z139 st139 hQ139
    subst l139 y139 z139
    obtain ⟨i140, b141, b142, k143, u144, rfl, u146, u147, u148, u149, u150, u151, Ku152, u153, u154, u155, u156, u157⟩ := hQ139
    have Ou152 : Old Z n0 T139.heap := O0.keep Ku152 all0
    have g_b141 : n0 ≤ b141 := Nat.le_trans (own_z O0) u147
    have sz_b141 : h0.size ≤ b141 := Nat.le_trans (Nat.le_refl _) u147
    have g_b142 : n0 ≤ b142 := Nat.le_trans (own_z O0) u149
    have sz_b142 : h0.size ≤ b142 := Nat.le_trans (Nat.le_refl _) u149
    have N139 := Fr.app N0 u146
    obtain ⟨T158, h158, X158, e158, E158, A158, D158, -, st158⟩ := newO X139 hx hZ hown (hw _ (gw 27 rfl)) (hw _ (gw 28 rfl)) (hw _ (gw 29 rfl)) rfl (g := (mkF m 20 #[.val (.int p1), .val (.int p2), .val (.int p3), .val (.int p4), .val (.int p5), .val (.int (3 : Int32)), .val (.ref b141), .unset, .unset] [])) rfl (hb hby at_20) (by decide) (by decide)
    obtain ⟨b158, g158⟩ : ∃ z, z = T139.heap.size := ⟨_, rfl⟩
    rw [← g158] at A158 D158 st158
    have O158 : Old Z n0 h158 := Ou152.ext E158
    have bd_b158 : T139.heap.size ≤ b158 := Nat.le_of_eq g158.symm
    have g_b158 : n0 ≤ b158 := Nat.le_trans (own_z Ou152) bd_b158
    have sz_b158 : h0.size ≤ b158 := Nat.le_trans Ku152.1 bd_b158
    have lt_b158 : b158 < h158.size := A158.lt
    have D158_47 : Fld Z h158 b158 "com/example/stemline/stemline/dialect/clickhouse/ClickHouseLexer$Token" "kind" "Lcom/example/stemline/stemline/dialect/clickhouse/ClickHouseLexer$Kind;" .null := D158 (Or.inr (hw _ (gw 47 rfl))) (ty := (.object "com/example/stemline/stemline/dialect/clickhouse/ClickHouseLexer$Kind")) (by decide)
    have D158_49 : Fld Z h158 b158 "com/example/stemline/stemline/dialect/clickhouse/ClickHouseLexer$Token" "value" "Ljava/lang/String;" .null := D158 (Or.inr (hw _ (gw 49 rfl))) (ty := (.object "java/lang/String")) (by decide)
    have D158_51 : Fld Z h158 b158 "com/example/stemline/stemline/dialect/clickhouse/ClickHouseLexer$Token" "line" "I" (.int (0 : Int32)) := D158 (Or.inr (hw _ (gw 51 rfl))) (ty := .int) (by decide)
    have D158_53 : Fld Z h158 b158 "com/example/stemline/stemline/dialect/clickhouse/ClickHouseLexer$Token" "start" "I" (.int (0 : Int32)) := D158 (Or.inr (hw _ (gw 53 rfl))) (ty := .int) (by decide)
    have D158_55 : Fld Z h158 b158 "com/example/stemline/stemline/dialect/clickhouse/ClickHouseLexer$Token" "end" "I" (.int (0 : Int32)) := D158 (Or.inr (hw _ (gw 55 rfl))) (ty := .int) (by decide)
    obtain ⟨_, _, ⟨T161, L161, k161, n161⟩, -, X161, ⟨Lc161, hQ161, l161, y161, z161⟩, st161⟩ := Jvm.LawKit.callS X158 hx (y := M_4) hown (mvT hZ (hw _ (gw 30 rfl))) (mvT hZ (hw _ (gw 31 rfl))) (mvT hZ (hw _ (gw 32 rfl))) (mvT hZ (hw _ (gw 33 rfl))) (by decide) (backOf (W := 2) (rm6_14 l Z a0 hw [] a159 h158 n0  O158 S_160) hZ (hw _ (gw 33 rfl)) (hw _ (gw 32 rfl)) (by decide) (by decide)) (g := (mkF m 26 #[.val (.int p1), .val (.int p2), .val (.int p3), .val (.int p4), .val (.int p5), .val (.int (3 : Int32)), .val (.ref b141), .unset, .unset] [(.int (3 : Int32)), (.ref b158), (.ref b158)])) rfl (by rw [hml]; rfl) (argsL := [(.int (3 : Int32))]) (rest := [(.ref b158), (.ref b158)]) (lenOf pd_4 rfl) rfl (by show 2 * 0 + _ ≤ _; exact Nat.le_of_eq rfl) (hb hby at_26) (fun _ _ => ⟨rfl, e158, (by decide : 3 + 0 ≤ _), (by decide : 10 + 0 ≤ _)⟩)
    dsimp only [Pt.U, Pt.locs, Pt.cells, Pt.slots] at X161 l161 y161 z161 st161 hQ161
    subst l161 y161 z161
    obtain ⟨rfl, u163, u164⟩ := hQ161
    have N161 := Fr.app N139 u163
    obtain ⟨_, _, ⟨T165, L165, k165, n165⟩, -, X165, ⟨Lc165, hQ165, l165, y165, z165⟩, st165⟩ := X161.specialBack hx (y := M_6) rfl hown (mvT hZ (hw _ (gw 37 rfl))) (mvT hZ (hw _ (gw 38 rfl))) (mvT hZ (hw _ (gw 39 rfl))) (by decide) (backOf (W := 1) (rm7_7 l Z a0 hw [] b158 a159 b141 p3 p4 p5 h158 n0  O158 A158 D158_55 D158_47 D158_51 D158_53 D158_49 g_b158) hZ (hw _ (gw 39 rfl)) (hw _ (gw 29 rfl)) (by decide) (by decide)) (g := (mkF m 35 #[.val (.int p1), .val (.int p2), .val (.int p3), .val (.int p4), .val (.int p5), .val (.int (3 : Int32)), .val (.ref b141), .unset, .unset] [(.int p5), (.int p4), (.int p3), (.ref b141), (.ref a159), (.ref b158), (.ref b158)])) rfl (by rw [hml]; rfl) (Steps.refl _) (a := b158) (argsL := [(.ref a159), (.ref b141), (.int p3), (.int p4), (.int p5)]) (rest := [(.ref b158)]) (lenOf pd_6 rfl) rfl (by show 2 * 0 + _ ≤ _; exact Nat.le_of_eq rfl) (hb hby at_35) (fun _ _ => ⟨rfl, u164, (by decide : 3 + 0 ≤ _), (by decide : 10 + 0 ≤ _)⟩)
    dsimp only [Pt.U, Pt.locs, Pt.cells, Pt.slots] at X165 l165 y165 z165 st165 hQ165
    subst l165 y165 z165
    obtain ⟨rfl, u167, Ku168, u169, u170, u171, u172, u173, u174⟩ := hQ165
    have Ou168 : Old Z n0 T165.heap := O158.keep Ku168 (allS g_b158 all0)
    have N165 := Fr.app N161 u167
    obtain ⟨cq177, kq177, q177a, q177b, q177c⟩ := isOf hZ rfl u169
    obtain ⟨_, _, ⟨T177, L177, k177, n177⟩, -, X177, ⟨Lc177, hQ177, l177, y177, z177⟩, st177⟩ := X165.virtualBack hx (y := M_7) (z := M_7) hown (mvT hZ (hw _ (gw 56 rfl))) (mvT hZ (hw _ (gw 57 rfl))) (notFace_of_selects (args := #[]) (mvT hZ (hw _ (gw 59 rfl)))) (mvT hZ (hw _ (gw 59 rfl))) (mvT hZ (hw _ (gw 58 rfl))) (by decide) (backOf (W := 0) (rm9_13 l Z a0 hw [] b158 a159 a33 a74 T165.heap n0  Ou168 u171 S_34 hne175 S_75 hne176) hZ (hw _ (gw 60 rfl)) (hw _ (gw 29 rfl)) (by decide) (by decide)) q177a q177c (g := (mkF m 55 #[.val (.int p1), .val (.int p2), .val (.int p3), .val (.int p4), .val (.int p5), .val (.int (3 : Int32)), .val (.ref b141), .val (.ref b158), .val (.int (0 : Int32))] [(.ref b158)])) rfl (by rw [hml]; rfl) (Steps.refl _) (argsL := []) (rest := []) (lenOf pd_7 rfl) rfl (by show 2 * 0 + _ ≤ _; exact Nat.le_of_eq rfl) (hb hby at_55) (fun _ _ => ⟨rfl, rfl, (by decide : 3 + 0 ≤ _), (by decide : 10 + 0 ≤ _)⟩)
    dsimp only [Pt.U, Pt.locs, Pt.cells, Pt.slots] at X177 l177 y177 z177 st177 hQ177
    subst l177 y177 z177
    obtain ⟨rfl, u179, u180⟩ := hQ177
    have N177 := Fr.app N165 u179
    obtain ⟨fs, hr, hrun, hended, hW, hsame⟩ := X177.leave (v := some (.int (1 : Int32))) (fun h => by rw [Bd.returns] at h; cases h)
    refine ⟨_, _, pre8 _ ?_, hrun, hended, _, _, rfl, ?_, ⟨_, rfl⟩, hW, hsame.mono (by decide) (by decide)⟩
    · show Steps p.tables e below (s₁.setTop (mkF m 6 #[.val (.int p1), .val (.int p2), .val (.int p3), .val (.int p4), .val (.int p5), .unset, .unset, .unset, .unset] [(.int (6 : Int32)), (.int i6)])) _
      refine Jvm.RoadKit.iremM (g := (mkF m 6 #[.val (.int p1), .val (.int p2), .val (.int p3), .val (.int p4), .val (.int p5), .unset, .unset, .unset, .unset] [(.int (6 : Int32)), (.int i6)])) X0 hx rfl (hb hby at_6) rfl (by decide +kernel : ¬ ((6 : Int32) = (0 : Int32))) ?_
      show Steps p.tables e below (s₁.setTop (mkF m 7 #[.val (.int p1), .val (.int p2), .val (.int p3), .val (.int p4), .val (.int p5), .unset, .unset, .unset, .unset] [(.int (i6 % (6 : Int32)))])) _
      rw [hq7]
      show Steps p.tables e below (s₁.setTop (mkF m 7 #[.val (.int p1), .val (.int p2), .val (.int p3), .val (.int p4), .val (.int p5), .unset, .unset, .unset, .unset] [(.int (3 : Int32))])) _
      refine XS.istore X0.here hx rfl (hb hby at_7) rfl (l' := #[.val (.int p1), .val (.int p2), .val (.int p3), .val (.int p4), .val (.int p5), .val (.int (3 : Int32)), .unset, .unset, .unset]) rfl ?_
      show Steps p.tables e below (s₁.setTop (mkF m 9 #[.val (.int p1), .val (.int p2), .val (.int p3), .val (.int p4), .val (.int p5), .val (.int (3 : Int32)), .unset, .unset, .unset] [])) _
      refine XS.iloadN X0.here hx rfl (hb hby at_9) rfl ?_
      show Steps p.tables e below (s₁.setTop (mkF m 10 #[.val (.int p1), .val (.int p2), .val (.int p3), .val (.int p4), .val (.int p5), .val (.int (3 : Int32)), .unset, .unset, .unset] [(.int p2)])) _
      refine XS.sipush X0.here hx rfl (hb hby at_10) ?_
      show Steps p.tables e below (s₁.setTop (mkF m 13 #[.val (.int p1), .val (.int p2), .val (.int p3), .val (.int p4), .val (.int p5), .val (.int (3 : Int32)), .unset, .unset, .unset] [(.int (255 : Int32)), (.int p2)])) _
      refine XS.iand X0.here hx rfl (hb hby at_13) rfl ?_
      show Steps p.tables e below (s₁.setTop (mkF m 14 #[.val (.int p1), .val (.int p2), .val (.int p3), .val (.int p4), .val (.int p5), .val (.int (3 : Int32)), .unset, .unset, .unset] [(.int (p2 &&& (255 : Int32)))])) _
      rw [← hi138]
      show Steps p.tables e below (s₁.setTop (mkF m 14 #[.val (.int p1), .val (.int p2), .val (.int p3), .val (.int p4), .val (.int p5), .val (.int (3 : Int32)), .unset, .unset, .unset] [(.int i138)])) _
      refine XS.i2c X0.here hx rfl (hb hby at_14) rfl ?_
      show Steps p.tables e below (s₁.setTop (mkF m 15 #[.val (.int p1), .val (.int p2), .val (.int p3), .val (.int p4), .val (.int p5), .val (.int (3 : Int32)), .unset, .unset, .unset] [(.int (i138.toUInt32.toUInt16.toUInt32.toInt32))])) _
      rw [(own_i2c255 hi138)]
      show Steps p.tables e below (s₁.setTop (mkF m 15 #[.val (.int p1), .val (.int p2), .val (.int p3), .val (.int p4), .val (.int p5), .val (.int (3 : Int32)), .unset, .unset, .unset] [(.int i138)])) _
      refine st139 _ ?_
      show Steps p.tables e below (T139.setTop (mkF m 18 #[.val (.int p1), .val (.int p2), .val (.int p3), .val (.int p4), .val (.int p5), .val (.int (3 : Int32)), .unset, .unset, .unset] [(.ref b141)])) _
      refine XS.astore X139.here hx rfl (hb hby at_18) rfl rfl (l' := #[.val (.int p1), .val (.int p2), .val (.int p3), .val (.int p4), .val (.int p5), .val (.int (3 : Int32)), .val (.ref b141), .unset, .unset]) rfl ?_
      show Steps p.tables e below (T139.setTop (mkF m 20 #[.val (.int p1), .val (.int p2), .val (.int p3), .val (.int p4), .val (.int p5), .val (.int (3 : Int32)), .val (.ref b141), .unset, .unset] [])) _
      refine st158 _ ?_
      show Steps p.tables e below (T158.setTop (mkF m 23 #[.val (.int p1), .val (.int p2), .val (.int p3), .val (.int p4), .val (.int p5), .val (.int (3 : Int32)), .val (.ref b141), .unset, .unset] [(.ref b158)])) _
      refine XS.dup X158.here hx rfl (hb hby at_23) rfl rfl ?_
      show Steps p.tables e below (T158.setTop (mkF m 24 #[.val (.int p1), .val (.int p2), .val (.int p3), .val (.int p4), .val (.int p5), .val (.int (3 : Int32)), .val (.ref b141), .unset, .unset] [(.ref b158), (.ref b158)])) _
      refine XS.iload X158.here hx rfl (hb hby at_24) rfl ?_
      show Steps p.tables e below (T158.setTop (mkF m 26 #[.val (.int p1), .val (.int p2), .val (.int p3), .val (.int p4), .val (.int p5), .val (.int (3 : Int32)), .val (.ref b141), .unset, .unset] [(.int (3 : Int32)), (.ref b158), (.ref b158)])) _
      refine st161 _ ?_
      show Steps p.tables e below (T161.setTop (mkF m 29 #[.val (.int p1), .val (.int p2), .val (.int p3), .val (.int p4), .val (.int p5), .val (.int (3 : Int32)), .val (.ref b141), .unset, .unset] [(.ref a159), (.ref b158), (.ref b158)])) _
      refine XS.aload X161.here hx rfl (hb hby at_29) rfl rfl ?_
      show Steps p.tables e below (T161.setTop (mkF m 31 #[.val (.int p1), .val (.int p2), .val (.int p3), .val (.int p4), .val (.int p5), .val (.int (3 : Int32)), .val (.ref b141), .unset, .unset] [(.ref b141), (.ref a159), (.ref b158), (.ref b158)])) _
      refine XS.iloadN X161.here hx rfl (hb hby at_31) rfl ?_
      show Steps p.tables e below (T161.setTop (mkF m 32 #[.val (.int p1), .val (.int p2), .val (.int p3), .val (.int p4), .val (.int p5), .val (.int (3 : Int32)), .val (.ref b141), .unset, .unset] [(.int p3), (.ref b141), (.ref a159), (.ref b158), (.ref b158)])) _
      refine XS.iloadN X161.here hx rfl (hb hby at_32) rfl ?_
      show Steps p.tables e below (T161.setTop (mkF m 33 #[.val (.int p1), .val (.int p2), .val (.int p3), .val (.int p4), .val (.int p5), .val (.int (3 : Int32)), .val (.ref b141), .unset, .unset] [(.int p4), (.int p3), (.ref b141), (.ref a159), (.ref b158), (.ref b158)])) _
      refine XS.iload X161.here hx rfl (hb hby at_33) rfl ?_
      show Steps p.tables e below (T161.setTop (mkF m 35 #[.val (.int p1), .val (.int p2), .val (.int p3), .val (.int p4), .val (.int p5), .val (.int (3 : Int32)), .val (.ref b141), .unset, .unset] [(.int p5), (.int p4), (.int p3), (.ref b141), (.ref a159), (.ref b158), (.ref b158)])) _
      refine st165.trans ?_
      show Steps p.tables e below (T165.setTop (mkF m 38 #[.val (.int p1), .val (.int p2), .val (.int p3), .val (.int p4), .val (.int p5), .val (.int (3 : Int32)), .val (.ref b141), .unset, .unset] [(.ref b158)])) _
      refine XS.astore X165.here hx rfl (hb hby at_38) rfl rfl (l' := #[.val (.int p1), .val (.int p2), .val (.int p3), .val (.int p4), .val (.int p5), .val (.int (3 : Int32)), .val (.ref b141), .val (.ref b158), .unset]) rfl ?_
      show Steps p.tables e below (T165.setTop (mkF m 40 #[.val (.int p1), .val (.int p2), .val (.int p3), .val (.int p4), .val (.int p5), .val (.int (3 : Int32)), .val (.ref b141), .val (.ref b158), .unset] [])) _
      refine XS.iload X165.here hx rfl (hb hby at_40) rfl ?_
      show Steps p.tables e below (T165.setTop (mkF m 42 #[.val (.int p1), .val (.int p2), .val (.int p3), .val (.int p4), .val (.int p5), .val (.int (3 : Int32)), .val (.ref b141), .val (.ref b158), .unset] [(.int (3 : Int32))])) _
      refine XS.iconst X165.here hx rfl (hb hby at_42) ?_
      show Steps p.tables e below (T165.setTop (mkF m 43 #[.val (.int p1), .val (.int p2), .val (.int p3), .val (.int p4), .val (.int p5), .val (.int (3 : Int32)), .val (.ref b141), .val (.ref b158), .unset] [(.int (1 : Int32)), (.int (3 : Int32))])) _
      refine XS.icmpYes X165.here hx rfl (pc0 := 43) (pc' := 50) rfl (hb hby at_43) rfl (tlt (by decide +kernel : (1 : Int32) < (3 : Int32))).2.2.1 (by decide) (by decide) ?_
      show Steps p.tables e below (T165.setTop (mkF m 50 #[.val (.int p1), .val (.int p2), .val (.int p3), .val (.int p4), .val (.int p5), .val (.int (3 : Int32)), .val (.ref b141), .val (.ref b158), .unset] [])) _
      refine XS.iconst X165.here hx rfl (hb hby at_50) ?_
      show Steps p.tables e below (T165.setTop (mkF m 51 #[.val (.int p1), .val (.int p2), .val (.int p3), .val (.int p4), .val (.int p5), .val (.int (3 : Int32)), .val (.ref b141), .val (.ref b158), .unset] [(.int (0 : Int32))])) _
      refine XS.istore X165.here hx rfl (hb hby at_51) rfl (l' := #[.val (.int p1), .val (.int p2), .val (.int p3), .val (.int p4), .val (.int p5), .val (.int (3 : Int32)), .val (.ref b141), .val (.ref b158), .val (.int (0 : Int32))]) rfl ?_
      show Steps p.tables e below (T165.setTop (mkF m 53 #[.val (.int p1), .val (.int p2), .val (.int p3), .val (.int p4), .val (.int p5), .val (.int (3 : Int32)), .val (.ref b141), .val (.ref b158), .val (.int (0 : Int32))] [])) _
      refine XS.aload X165.here hx rfl (hb hby at_53) rfl rfl ?_
      show Steps p.tables e below (T165.setTop (mkF m 55 #[.val (.int p1), .val (.int p2), .val (.int p3), .val (.int p4), .val (.int p5), .val (.int (3 : Int32)), .val (.ref b141), .val (.ref b158), .val (.int (0 : Int32))] [(.ref b158)])) _
      refine st177.trans ?_
      show Steps p.tables e below (T177.setTop (mkF m 58 #[.val (.int p1), .val (.int p2), .val (.int p3), .val (.int p4), .val (.int p5), .val (.int (3 : Int32)), .val (.ref b141), .val (.ref b158), .val (.int (0 : Int32))] [(.int (0 : Int32))])) _
      refine XS.iload X177.here hx rfl (hb hby at_58) rfl ?_
      show Steps p.tables e below (T177.setTop (mkF m 60 #[.val (.int p1), .val (.int p2), .val (.int p3), .val (.int p4), .val (.int p5), .val (.int (3 : Int32)), .val (.ref b141), .val (.ref b158), .val (.int (0 : Int32))] [(.int (0 : Int32)), (.int (0 : Int32))])) _
      refine XS.icmpNo X177.here hx rfl (hb hby at_60) rfl (teq (by decide +kernel : (0 : Int32) = (0 : Int32))).2 ?_
      show Steps p.tables e below (T177.setTop (mkF m 63 #[.val (.int p1), .val (.int p2), .val (.int p3), .val (.int p4), .val (.int p5), .val (.int (3 : Int32)), .val (.ref b141), .val (.ref b158), .val (.int (0 : Int32))] [])) _
      refine XS.iconst X177.here hx rfl (hb hby at_63) ?_
      show Steps p.tables e below (T177.setTop (mkF m 64 #[.val (.int p1), .val (.int p2), .val (.int p3), .val (.int p4), .val (.int p5), .val (.int (3 : Int32)), .val (.ref b141), .val (.ref b158), .val (.int (0 : Int32))] [(.int (1 : Int32))])) _
      refine XS.goto X177.here hx rfl (pc0 := 64) (pc' := 68) rfl (hb hby at_64) (by decide) (by decide) ?_
      show Steps p.tables e below (T177.setTop (mkF m 68 #[.val (.int p1), .val (.int p2), .val (.int p3), .val (.int p4), .val (.int p5), .val (.int (3 : Int32)), .val (.ref b141), .val (.ref b158), .val (.int (0 : Int32))] [(.int (1 : Int32))])) _
      exact retN X177 hx (t := .boolean) Bd.returns (by simp) (hb hby at_68) hr
    · show Q0 Z _ _ _ _ _ _ _ _ _ _ _ _ h0 n0 _ T177.heap _
      rw [u180]
      exact ⟨rfl, N177⟩
  · skip
    obtain ⟨i181, hi181⟩ : ∃ z, z = (p2 &&& (255 : Int32)) := ⟨_, rfl⟩
    obtain ⟨_, _, ⟨T182, L182, k182, n182⟩, -, X182, ⟨Lc182, hQ182, l182, y182, z182⟩, st182⟩ := Jvm.LawKit.callS X0 hx (y := M_3) hown (mvT hZ (hw _ (gw 1 rfl))) (mvT hZ (hw _ (gw 2 rfl))) (mvT hZ (hw _ (gw 3 rfl))) (mvT hZ (hw _ (gw 4 rfl))) (by decide) (backOf (W := 0) (rm1_2 l Z a0 hw [] i181 p10 h0 n0  O0 S_11 hk12 (own_lt255 hi181)) hZ (hw _ (gw 4 rfl)) (hw _ (gw 3 rfl)) (by decide) (by decide)) (g := (mkF m 15 #[.val (.int p1), .val (.int p2), .val (.int p3), .val (.int p4), .val (.int p5), .val (.int (4 : Int32)), .unset, .unset, .unset] [(.int i181)])) rfl (by rw [hml]; rfl) (argsL := [(.int i181)]) (rest := []) (lenOf pd_3 rfl) rfl (by show 2 * 0 + _ ≤ _; exact Nat.le_of_eq rfl) (hb hby at_15) (fun _ _ => ⟨rfl, e0, (by decide : 0 + 2 ≤ _), (by decide : 0 + 5 ≤ _)⟩)
    dsimp only [Pt.U, Pt.locs, Pt.cells, Pt.slots] at X182 l182 y182 z182 st182 hQ182
    subst l182 y182 z182
    obtain ⟨i183, b184, b185, k186, u187, rfl, u189, u190, u191, u192, u193, u194, Ku195, u196, u197, u198, u199, u200⟩ := hQ182
    have Ou195 : Old Z n0 T182.heap := O0.keep Ku195 all0
    have g_b184 : n0 ≤ b184 := Nat.le_trans (own_z O0) u190
    have sz_b184 : h0.size ≤ b184 := Nat.le_trans (Nat.le_refl _) u190
    have g_b185 : n0 ≤ b185 := Nat.le_trans (own_z O0) u192
    have sz_b185 : h0.size ≤ b185 := Nat.le_trans (Nat.le_refl _) u192
    have N182 := Fr.app N0 u189
    obtain ⟨T201, h201, X201, e201, E201, A201, D201, -, st201⟩ := newO X182 hx hZ hown (hw _ (gw 27 rfl)) (hw _ (gw 28 rfl)) (hw _ (gw 29 rfl)) rfl (g := (mkF m 20 #[.val (.int p1), .val (.int p2), .val (.int p3), .val (.int p4), .val (.int p5), .val (.int (4 : Int32)), .val (.ref b184), .unset, .unset] [])) rfl (hb hby at_20) (by decide) (by decide)
    obtain ⟨b201, g201⟩ : ∃ z, z = T182.heap.size := ⟨_, rfl⟩
    rw [← g201] at A201 D201 st201
    have O201 : Old Z n0 h201 := Ou195.ext E201
    have bd_b201 : T182.heap.size ≤ b201 := Nat.le_of_eq g201.symm
    have g_b201 : n0 ≤ b201 := Nat.le_trans (own_z Ou195) bd_b201
    have sz_b201 : h0.size ≤ b201 := Nat.le_trans Ku195.1 bd_b201
    have lt_b201 : b201 < h201.size := A201.lt
    have D201_47 : Fld Z h201 b201 "com/example/stemline/stemline/dialect/clickhouse/ClickHouseLexer$Token" "kind" "Lcom/example/stemline/stemline/dialect/clickhouse/ClickHouseLexer$Kind;" .null := D201 (Or.inr (hw _ (gw 47 rfl))) (ty := (.object "com/example/stemline/stemline/dialect/clickhouse/ClickHouseLexer$Kind")) (by decide)
    have D201_49 : Fld Z h201 b201 "com/example/stemline/stemline/dialect/clickhouse/ClickHouseLexer$Token" "value" "Ljava/lang/String;" .null := D201 (Or.inr (hw _ (gw 49 rfl))) (ty := (.object "java/lang/String")) (by decide)
    have D201_51 : Fld Z h201 b201 "com/example/stemline/stemline/dialect/clickhouse/ClickHouseLexer$Token" "line" "I" (.int (0 : Int32)) := D201 (Or.inr (hw _ (gw 51 rfl))) (ty := .int) (by decide)
    have D201_53 : Fld Z h201 b201 "com/example/stemline/stemline/dialect/clickhouse/ClickHouseLexer$Token" "start" "I" (.int (0 : Int32)) := D201 (Or.inr (hw _ (gw 53 rfl))) (ty := .int) (by decide)
    have D201_55 : Fld Z h201 b201 "com/example/stemline/stemline/dialect/clickhouse/ClickHouseLexer$Token" "end" "I" (.int (0 : Int32)) := D201 (Or.inr (hw _ (gw 55 rfl))) (ty := .int) (by decide)
    obtain ⟨_, _, ⟨T204, L204, k204, n204⟩, -, X204, ⟨Lc204, hQ204, l204, y204, z204⟩, st204⟩ := Jvm.LawKit.callS X201 hx (y := M_4) hown (mvT hZ (hw _ (gw 30 rfl))) (mvT hZ (hw _ (gw 31 rfl))) (mvT hZ (hw _ (gw 32 rfl))) (mvT hZ (hw _ (gw 33 rfl))) (by decide) (backOf (W := 2) (rm6_15 l Z a0 hw [] a202 h201 n0  O201 S_203) hZ (hw _ (gw 33 rfl)) (hw _ (gw 32 rfl)) (by decide) (by decide)) (g := (mkF m 26 #[.val (.int p1), .val (.int p2), .val (.int p3), .val (.int p4), .val (.int p5), .val (.int (4 : Int32)), .val (.ref b184), .unset, .unset] [(.int (4 : Int32)), (.ref b201), (.ref b201)])) rfl (by rw [hml]; rfl) (argsL := [(.int (4 : Int32))]) (rest := [(.ref b201), (.ref b201)]) (lenOf pd_4 rfl) rfl (by show 2 * 0 + _ ≤ _; exact Nat.le_of_eq rfl) (hb hby at_26) (fun _ _ => ⟨rfl, e201, (by decide : 3 + 0 ≤ _), (by decide : 10 + 0 ≤ _)⟩)
    dsimp only [Pt.U, Pt.locs, Pt.cells, Pt.slots] at X204 l204 y204 z204 st204 hQ204
    subst l204 y204 z204
    obtain ⟨rfl, u206, u207⟩ := hQ204
    have N204 := Fr.app N182 u206
    obtain ⟨_, _, ⟨T208, L208, k208, n208⟩, -, X208, ⟨Lc208, hQ208, l208, y208, z208⟩, st208⟩ := X204.specialBack hx (y := M_6) rfl hown (mvT hZ (hw _ (gw 37 rfl))) (mvT hZ (hw _ (gw 38 rfl))) (mvT hZ (hw _ (gw 39 rfl))) (by decide) (backOf (W := 1) (rm7_7 l Z a0 hw [] b201 a202 b184 p3 p4 p5 h201 n0  O201 A201 D201_55 D201_47 D201_51 D201_53 D201_49 g_b201) hZ (hw _ (gw 39 rfl)) (hw _ (gw 29 rfl)) (by decide) (by decide)) (g := (mkF m 35 #[.val (.int p1), .val (.int p2), .val (.int p3), .val (.int p4), .val (.int p5), .val (.int (4 : Int32)), .val (.ref b184), .unset, .unset] [(.int p5), (.int p4), (.int p3), (.ref b184), (.ref a202), (.ref b201), (.ref b201)])) rfl (by rw [hml]; rfl) (Steps.refl _) (a := b201) (argsL := [(.ref a202), (.ref b184), (.int p3), (.int p4), (.int p5)]) (rest := [(.ref b201)]) (lenOf pd_6 rfl) rfl (by show 2 * 0 + _ ≤ _; exact Nat.le_of_eq rfl) (hb hby at_35) (fun _ _ => ⟨rfl, u207, (by decide : 3 + 0 ≤ _), (by decide : 10 + 0 ≤ _)⟩)
    dsimp only [Pt.U, Pt.locs, Pt.cells, Pt.slots] at X208 l208 y208 z208 st208 hQ208
    subst l208 y208 z208
    obtain ⟨rfl, u210, Ku211, u212, u213, u214, u215, u216, u217⟩ := hQ208
    have Ou211 : Old Z n0 T208.heap := O201.keep Ku211 (allS g_b201 all0)
    have N208 := Fr.app N204 u210
    obtain ⟨cq220, kq220, q220a, q220b, q220c⟩ := isOf hZ rfl u212
    obtain ⟨_, _, ⟨T220, L220, k220, n220⟩, -, X220, ⟨Lc220, hQ220, l220, y220, z220⟩, st220⟩ := X208.virtualBack hx (y := M_7) (z := M_7) hown (mvT hZ (hw _ (gw 56 rfl))) (mvT hZ (hw _ (gw 57 rfl))) (notFace_of_selects (args := #[]) (mvT hZ (hw _ (gw 59 rfl)))) (mvT hZ (hw _ (gw 59 rfl))) (mvT hZ (hw _ (gw 58 rfl))) (by decide) (backOf (W := 0) (rm9_13 l Z a0 hw [] b201 a202 a33 a74 T208.heap n0  Ou211 u214 S_34 hne218 S_75 hne219) hZ (hw _ (gw 60 rfl)) (hw _ (gw 29 rfl)) (by decide) (by decide)) q220a q220c (g := (mkF m 55 #[.val (.int p1), .val (.int p2), .val (.int p3), .val (.int p4), .val (.int p5), .val (.int (4 : Int32)), .val (.ref b184), .val (.ref b201), .val (.int (0 : Int32))] [(.ref b201)])) rfl (by rw [hml]; rfl) (Steps.refl _) (argsL := []) (rest := []) (lenOf pd_7 rfl) rfl (by show 2 * 0 + _ ≤ _; exact Nat.le_of_eq rfl) (hb hby at_55) (fun _ _ => ⟨rfl, rfl, (by decide : 3 + 0 ≤ _), (by decide : 10 + 0 ≤ _)⟩)
    dsimp only [Pt.U, Pt.locs, Pt.cells, Pt.slots] at X220 l220 y220 z220 st220 hQ220
    subst l220 y220 z220
    obtain ⟨rfl, u222, u223⟩ := hQ220
    have N220 := Fr.app N208 u222
    obtain ⟨fs, hr, hrun, hended, hW, hsame⟩ := X220.leave (v := some (.int (1 : Int32))) (fun h => by rw [Bd.returns] at h; cases h)
    refine ⟨_, _, pre8 _ ?_, hrun, hended, _, _, rfl, ?_, ⟨_, rfl⟩, hW, hsame.mono (by decide) (by decide)⟩
    · show Steps p.tables e below (s₁.setTop (mkF m 6 #[.val (.int p1), .val (.int p2), .val (.int p3), .val (.int p4), .val (.int p5), .unset, .unset, .unset, .unset] [(.int (6 : Int32)), (.int i6)])) _
      refine Jvm.RoadKit.iremM (g := (mkF m 6 #[.val (.int p1), .val (.int p2), .val (.int p3), .val (.int p4), .val (.int p5), .unset, .unset, .unset, .unset] [(.int (6 : Int32)), (.int i6)])) X0 hx rfl (hb hby at_6) rfl (by decide +kernel : ¬ ((6 : Int32) = (0 : Int32))) ?_
      show Steps p.tables e below (s₁.setTop (mkF m 7 #[.val (.int p1), .val (.int p2), .val (.int p3), .val (.int p4), .val (.int p5), .unset, .unset, .unset, .unset] [(.int (i6 % (6 : Int32)))])) _
      rw [hq7]
      show Steps p.tables e below (s₁.setTop (mkF m 7 #[.val (.int p1), .val (.int p2), .val (.int p3), .val (.int p4), .val (.int p5), .unset, .unset, .unset, .unset] [(.int (4 : Int32))])) _
      refine XS.istore X0.here hx rfl (hb hby at_7) rfl (l' := #[.val (.int p1), .val (.int p2), .val (.int p3), .val (.int p4), .val (.int p5), .val (.int (4 : Int32)), .unset, .unset, .unset]) rfl ?_
      show Steps p.tables e below (s₁.setTop (mkF m 9 #[.val (.int p1), .val (.int p2), .val (.int p3), .val (.int p4), .val (.int p5), .val (.int (4 : Int32)), .unset, .unset, .unset] [])) _
      refine XS.iloadN X0.here hx rfl (hb hby at_9) rfl ?_
      show Steps p.tables e below (s₁.setTop (mkF m 10 #[.val (.int p1), .val (.int p2), .val (.int p3), .val (.int p4), .val (.int p5), .val (.int (4 : Int32)), .unset, .unset, .unset] [(.int p2)])) _
      refine XS.sipush X0.here hx rfl (hb hby at_10) ?_
      show Steps p.tables e below (s₁.setTop (mkF m 13 #[.val (.int p1), .val (.int p2), .val (.int p3), .val (.int p4), .val (.int p5), .val (.int (4 : Int32)), .unset, .unset, .unset] [(.int (255 : Int32)), (.int p2)])) _
      refine XS.iand X0.here hx rfl (hb hby at_13) rfl ?_
      show Steps p.tables e below (s₁.setTop (mkF m 14 #[.val (.int p1), .val (.int p2), .val (.int p3), .val (.int p4), .val (.int p5), .val (.int (4 : Int32)), .unset, .unset, .unset] [(.int (p2 &&& (255 : Int32)))])) _
      rw [← hi181]
      show Steps p.tables e below (s₁.setTop (mkF m 14 #[.val (.int p1), .val (.int p2), .val (.int p3), .val (.int p4), .val (.int p5), .val (.int (4 : Int32)), .unset, .unset, .unset] [(.int i181)])) _
      refine XS.i2c X0.here hx rfl (hb hby at_14) rfl ?_
      show Steps p.tables e below (s₁.setTop (mkF m 15 #[.val (.int p1), .val (.int p2), .val (.int p3), .val (.int p4), .val (.int p5), .val (.int (4 : Int32)), .unset, .unset, .unset] [(.int (i181.toUInt32.toUInt16.toUInt32.toInt32))])) _
      rw [(own_i2c255 hi181)]
      show Steps p.tables e below (s₁.setTop (mkF m 15 #[.val (.int p1), .val (.int p2), .val (.int p3), .val (.int p4), .val (.int p5), .val (.int (4 : Int32)), .unset, .unset, .unset] [(.int i181)])) _
      refine st182 _ ?_
      show Steps p.tables e below (T182.setTop (mkF m 18 #[.val (.int p1), .val (.int p2), .val (.int p3), .val (.int p4), .val (.int p5), .val (.int (4 : Int32)), .unset, .unset, .unset] [(.ref b184)])) _
      refine XS.astore X182.here hx rfl (hb hby at_18) rfl rfl (l' := #[.val (.int p1), .val (.int p2), .val (.int p3), .val (.int p4), .val (.int p5), .val (.int (4 : Int32)), .val (.ref b184), .unset, .unset]) rfl ?_
      show Steps p.tables e below (T182.setTop (mkF m 20 #[.val (.int p1), .val (.int p2), .val (.int p3), .val (.int p4), .val (.int p5), .val (.int (4 : Int32)), .val (.ref b184), .unset, .unset] [])) _
      refine st201 _ ?_
      show Steps p.tables e below (T201.setTop (mkF m 23 #[.val (.int p1), .val (.int p2), .val (.int p3), .val (.int p4), .val (.int p5), .val (.int (4 : Int32)), .val (.ref b184), .unset, .unset] [(.ref b201)])) _
      refine XS.dup X201.here hx rfl (hb hby at_23) rfl rfl ?_
      show Steps p.tables e below (T201.setTop (mkF m 24 #[.val (.int p1), .val (.int p2), .val (.int p3), .val (.int p4), .val (.int p5), .val (.int (4 : Int32)), .val (.ref b184), .unset, .unset] [(.ref b201), (.ref b201)])) _
      refine XS.iload X201.here hx rfl (hb hby at_24) rfl ?_
      show Steps p.tables e below (T201.setTop (mkF m 26 #[.val (.int p1), .val (.int p2), .val (.int p3), .val (.int p4), .val (.int p5), .val (.int (4 : Int32)), .val (.ref b184), .unset, .unset] [(.int (4 : Int32)), (.ref b201), (.ref b201)])) _
      refine st204 _ ?_
      show Steps p.tables e below (T204.setTop (mkF m 29 #[.val (.int p1), .val (.int p2), .val (.int p3), .val (.int p4), .val (.int p5), .val (.int (4 : Int32)), .val (.ref b184), .unset, .unset] [(.ref a202), (.ref b201), (.ref b201)])) _
      refine XS.aload X204.here hx rfl (hb hby at_29) rfl rfl ?_
      show Steps p.tables e below (T204.setTop (mkF m 31 #[.val (.int p1), .val (.int p2), .val (.int p3), .val (.int p4), .val (.int p5), .val (.int (4 : Int32)), .val (.ref b184), .unset, .unset] [(.ref b184), (.ref a202), (.ref b201), (.ref b201)])) _
      refine XS.iloadN X204.here hx rfl (hb hby at_31) rfl ?_
      show Steps p.tables e below (T204.setTop (mkF m 32 #[.val (.int p1), .val (.int p2), .val (.int p3), .val (.int p4), .val (.int p5), .val (.int (4 : Int32)), .val (.ref b184), .unset, .unset] [(.int p3), (.ref b184), (.ref a202), (.ref b201), (.ref b201)])) _
      refine XS.iloadN X204.here hx rfl (hb hby at_32) rfl ?_
      show Steps p.tables e below (T204.setTop (mkF m 33 #[.val (.int p1), .val (.int p2), .val (.int p3), .val (.int p4), .val (.int p5), .val (.int (4 : Int32)), .val (.ref b184), .unset, .unset] [(.int p4), (.int p3), (.ref b184), (.ref a202), (.ref b201), (.ref b201)])) _
      refine XS.iload X204.here hx rfl (hb hby at_33) rfl ?_
      show Steps p.tables e below (T204.setTop (mkF m 35 #[.val (.int p1), .val (.int p2), .val (.int p3), .val (.int p4), .val (.int p5), .val (.int (4 : Int32)), .val (.ref b184), .unset, .unset] [(.int p5), (.int p4), (.int p3), (.ref b184), (.ref a202), (.ref b201), (.ref b201)])) _
      refine st208.trans ?_
      show Steps p.tables e below (T208.setTop (mkF m 38 #[.val (.int p1), .val (.int p2), .val (.int p3), .val (.int p4), .val (.int p5), .val (.int (4 : Int32)), .val (.ref b184), .unset, .unset] [(.ref b201)])) _
      refine XS.astore X208.here hx rfl (hb hby at_38) rfl rfl (l' := #[.val (.int p1), .val (.int p2), .val (.int p3), .val (.int p4), .val (.int p5), .val (.int (4 : Int32)), .val (.ref b184), .val (.ref b201), .unset]) rfl ?_
      show Steps p.tables e below (T208.setTop (mkF m 40 #[.val (.int p1), .val (.int p2), .val (.int p3), .val (.int p4), .val (.int p5), .val (.int (4 : Int32)), .val (.ref b184), .val (.ref b201), .unset] [])) _
      refine XS.iload X208.here hx rfl (hb hby at_40) rfl ?_
      show Steps p.tables e below (T208.setTop (mkF m 42 #[.val (.int p1), .val (.int p2), .val (.int p3), .val (.int p4), .val (.int p5), .val (.int (4 : Int32)), .val (.ref b184), .val (.ref b201), .unset] [(.int (4 : Int32))])) _
      refine XS.iconst X208.here hx rfl (hb hby at_42) ?_
      show Steps p.tables e below (T208.setTop (mkF m 43 #[.val (.int p1), .val (.int p2), .val (.int p3), .val (.int p4), .val (.int p5), .val (.int (4 : Int32)), .val (.ref b184), .val (.ref b201), .unset] [(.int (1 : Int32)), (.int (4 : Int32))])) _
      refine XS.icmpYes X208.here hx rfl (pc0 := 43) (pc' := 50) rfl (hb hby at_43) rfl (tlt (by decide +kernel : (1 : Int32) < (4 : Int32))).2.2.1 (by decide) (by decide) ?_
      show Steps p.tables e below (T208.setTop (mkF m 50 #[.val (.int p1), .val (.int p2), .val (.int p3), .val (.int p4), .val (.int p5), .val (.int (4 : Int32)), .val (.ref b184), .val (.ref b201), .unset] [])) _
      refine XS.iconst X208.here hx rfl (hb hby at_50) ?_
      show Steps p.tables e below (T208.setTop (mkF m 51 #[.val (.int p1), .val (.int p2), .val (.int p3), .val (.int p4), .val (.int p5), .val (.int (4 : Int32)), .val (.ref b184), .val (.ref b201), .unset] [(.int (0 : Int32))])) _
      refine XS.istore X208.here hx rfl (hb hby at_51) rfl (l' := #[.val (.int p1), .val (.int p2), .val (.int p3), .val (.int p4), .val (.int p5), .val (.int (4 : Int32)), .val (.ref b184), .val (.ref b201), .val (.int (0 : Int32))]) rfl ?_
      show Steps p.tables e below (T208.setTop (mkF m 53 #[.val (.int p1), .val (.int p2), .val (.int p3), .val (.int p4), .val (.int p5), .val (.int (4 : Int32)), .val (.ref b184), .val (.ref b201), .val (.int (0 : Int32))] [])) _
      refine XS.aload X208.here hx rfl (hb hby at_53) rfl rfl ?_
      show Steps p.tables e below (T208.setTop (mkF m 55 #[.val (.int p1), .val (.int p2), .val (.int p3), .val (.int p4), .val (.int p5), .val (.int (4 : Int32)), .val (.ref b184), .val (.ref b201), .val (.int (0 : Int32))] [(.ref b201)])) _
      refine st220.trans ?_
      show Steps p.tables e below (T220.setTop (mkF m 58 #[.val (.int p1), .val (.int p2), .val (.int p3), .val (.int p4), .val (.int p5), .val (.int (4 : Int32)), .val (.ref b184), .val (.ref b201), .val (.int (0 : Int32))] [(.int (0 : Int32))])) _
      refine XS.iload X220.here hx rfl (hb hby at_58) rfl ?_
      show Steps p.tables e below (T220.setTop (mkF m 60 #[.val (.int p1), .val (.int p2), .val (.int p3), .val (.int p4), .val (.int p5), .val (.int (4 : Int32)), .val (.ref b184), .val (.ref b201), .val (.int (0 : Int32))] [(.int (0 : Int32)), (.int (0 : Int32))])) _
      refine XS.icmpNo X220.here hx rfl (hb hby at_60) rfl (teq (by decide +kernel : (0 : Int32) = (0 : Int32))).2 ?_
      show Steps p.tables e below (T220.setTop (mkF m 63 #[.val (.int p1), .val (.int p2), .val (.int p3), .val (.int p4), .val (.int p5), .val (.int (4 : Int32)), .val (.ref b184), .val (.ref b201), .val (.int (0 : Int32))] [])) _
      refine XS.iconst X220.here hx rfl (hb hby at_63) ?_
      show Steps p.tables e below (T220.setTop (mkF m 64 #[.val (.int p1), .val (.int p2), .val (.int p3), .val (.int p4), .val (.int p5), .val (.int (4 : Int32)), .val (.ref b184), .val (.ref b201), .val (.int (0 : Int32))] [(.int (1 : Int32))])) _
      refine XS.goto X220.here hx rfl (pc0 := 64) (pc' := 68) rfl (hb hby at_64) (by decide) (by decide) ?_
      show Steps p.tables e below (T220.setTop (mkF m 68 #[.val (.int p1), .val (.int p2), .val (.int p3), .val (.int p4), .val (.int p5), .val (.int (4 : Int32)), .val (.ref b184), .val (.ref b201), .val (.int (0 : Int32))] [(.int (1 : Int32))])) _
      exact retN X220 hx (t := .boolean) Bd.returns (by simp) (hb hby at_68) hr
    · show Q0 Z _ _ _ _ _ _ _ _ _ _ _ _ h0 n0 _ T220.heap _
      rw [u223]
      exact ⟨rfl, N220⟩
  · skip
    obtain ⟨i224, hi224⟩ : ∃ z, z = (p2 &&& (255 : Int32)) := ⟨_, rfl⟩
    obtain ⟨_, _, ⟨T225, L225, k225, n225⟩, -, X225, ⟨Lc225, hQ225, l225, y225, z225⟩, st225⟩ := Jvm.LawKit.callS X0 hx (y := M_3) hown (mvT hZ (hw _ (gw 1 rfl))) (mvT hZ (hw _ (gw 2 rfl))) (mvT hZ (hw _ (gw 3 rfl))) (mvT hZ (hw _ (gw 4 rfl))) (by decide) (backOf (W := 0) (rm1_2 l Z a0 hw [] i224 p10 h0 n0  O0 S_11 hk12 (own_lt255 hi224)) hZ (hw _ (gw 4 rfl)) (hw _ (gw 3 rfl)) (by decide) (by decide)) (g := (mkF m 15 #[.val (.int p1), .val (.int p2), .val (.int p3), .val (.int p4), .val (.int p5), .val (.int (5 : Int32)), .unset, .unset, .unset] [(.int i224)])) rfl (by rw [hml]; rfl) (argsL := [(.int i224)]) (rest := []) (lenOf pd_3 rfl) rfl (by show 2 * 0 + _ ≤ _; exact Nat.le_of_eq rfl) (hb hby at_15) (fun _ _ => ⟨rfl, e0, (by decide : 0 + 2 ≤ _), (by decide : 0 + 5 ≤ _)⟩)
    dsimp only [Pt.U, Pt.locs, Pt.cells, Pt.slots] at X225 l225 y225 z225 st225 hQ225
    subst l225 y225 z225
    obtain ⟨i226, b227, b228, k229, u230, rfl, u232, u233, u234, u235, u236, u237, Ku238, u239, u240, u241, u242, u243⟩ := hQ225
    have Ou238 : Old Z n0 T225.heap := O0.keep Ku238 all0
    have g_b227 : n0 ≤ b227 := Nat.le_trans (own_z O0) u233
    have sz_b227 : h0.size ≤ b227 := Nat.le_trans (Nat.le_refl _) u233
    have g_b228 : n0 ≤ b228 := Nat.le_trans (own_z O0) u235
    have sz_b228 : h0.size ≤ b228 := Nat.le_trans (Nat.le_refl _) u235
    have N225 := Fr.app N0 u232
    obtain ⟨T244, h244, X244, e244, E244, A244, D244, -, st244⟩ := newO X225 hx hZ hown (hw _ (gw 27 rfl)) (hw _ (gw 28 rfl)) (hw _ (gw 29 rfl)) rfl (g := (mkF m 20 #[.val (.int p1), .val (.int p2), .val (.int p3), .val (.int p4), .val (.int p5), .val (.int (5 : Int32)), .val (.ref b227), .unset, .unset] [])) rfl (hb hby at_20) (by decide) (by decide)
    obtain ⟨b244, g244⟩ : ∃ z, z = T225.heap.size := ⟨_, rfl⟩
    rw [← g244] at A244 D244 st244
    have O244 : Old Z n0 h244 := Ou238.ext E244
    have bd_b244 : T225.heap.size ≤ b244 := Nat.le_of_eq g244.symm
    have g_b244 : n0 ≤ b244 := Nat.le_trans (own_z Ou238) bd_b244
    have sz_b244 : h0.size ≤ b244 := Nat.le_trans Ku238.1 bd_b244
    have lt_b244 : b244 < h244.size := A244.lt
    have D244_47 : Fld Z h244 b244 "com/example/stemline/stemline/dialect/clickhouse/ClickHouseLexer$Token" "kind" "Lcom/example/stemline/stemline/dialect/clickhouse/ClickHouseLexer$Kind;" .null := D244 (Or.inr (hw _ (gw 47 rfl))) (ty := (.object "com/example/stemline/stemline/dialect/clickhouse/ClickHouseLexer$Kind")) (by decide)
    have D244_49 : Fld Z h244 b244 "com/example/stemline/stemline/dialect/clickhouse/ClickHouseLexer$Token" "value" "Ljava/lang/String;" .null := D244 (Or.inr (hw _ (gw 49 rfl))) (ty := (.object "java/lang/String")) (by decide)
    have D244_51 : Fld Z h244 b244 "com/example/stemline/stemline/dialect/clickhouse/ClickHouseLexer$Token" "line" "I" (.int (0 : Int32)) := D244 (Or.inr (hw _ (gw 51 rfl))) (ty := .int) (by decide)
    have D244_53 : Fld Z h244 b244 "com/example/stemline/stemline/dialect/clickhouse/ClickHouseLexer$Token" "start" "I" (.int (0 : Int32)) := D244 (Or.inr (hw _ (gw 53 rfl))) (ty := .int) (by decide)
    have D244_55 : Fld Z h244 b244 "com/example/stemline/stemline/dialect/clickhouse/ClickHouseLexer$Token" "end" "I" (.int (0 : Int32)) := D244 (Or.inr (hw _ (gw 55 rfl))) (ty := .int) (by decide)
    obtain ⟨_, _, ⟨T247, L247, k247, n247⟩, -, X247, ⟨Lc247, hQ247, l247, y247, z247⟩, st247⟩ := Jvm.LawKit.callS X244 hx (y := M_4) hown (mvT hZ (hw _ (gw 30 rfl))) (mvT hZ (hw _ (gw 31 rfl))) (mvT hZ (hw _ (gw 32 rfl))) (mvT hZ (hw _ (gw 33 rfl))) (by decide) (backOf (W := 2) (rm6_16 l Z a0 hw [] a245 h244 n0  O244 S_246) hZ (hw _ (gw 33 rfl)) (hw _ (gw 32 rfl)) (by decide) (by decide)) (g := (mkF m 26 #[.val (.int p1), .val (.int p2), .val (.int p3), .val (.int p4), .val (.int p5), .val (.int (5 : Int32)), .val (.ref b227), .unset, .unset] [(.int (5 : Int32)), (.ref b244), (.ref b244)])) rfl (by rw [hml]; rfl) (argsL := [(.int (5 : Int32))]) (rest := [(.ref b244), (.ref b244)]) (lenOf pd_4 rfl) rfl (by show 2 * 0 + _ ≤ _; exact Nat.le_of_eq rfl) (hb hby at_26) (fun _ _ => ⟨rfl, e244, (by decide : 3 + 0 ≤ _), (by decide : 10 + 0 ≤ _)⟩)
    dsimp only [Pt.U, Pt.locs, Pt.cells, Pt.slots] at X247 l247 y247 z247 st247 hQ247
    subst l247 y247 z247
    obtain ⟨rfl, u249, u250⟩ := hQ247
    have N247 := Fr.app N225 u249
    obtain ⟨_, _, ⟨T251, L251, k251, n251⟩, -, X251, ⟨Lc251, hQ251, l251, y251, z251⟩, st251⟩ := X247.specialBack hx (y := M_6) rfl hown (mvT hZ (hw _ (gw 37 rfl))) (mvT hZ (hw _ (gw 38 rfl))) (mvT hZ (hw _ (gw 39 rfl))) (by decide) (backOf (W := 1) (rm7_7 l Z a0 hw [] b244 a245 b227 p3 p4 p5 h244 n0  O244 A244 D244_55 D244_47 D244_51 D244_53 D244_49 g_b244) hZ (hw _ (gw 39 rfl)) (hw _ (gw 29 rfl)) (by decide) (by decide)) (g := (mkF m 35 #[.val (.int p1), .val (.int p2), .val (.int p3), .val (.int p4), .val (.int p5), .val (.int (5 : Int32)), .val (.ref b227), .unset, .unset] [(.int p5), (.int p4), (.int p3), (.ref b227), (.ref a245), (.ref b244), (.ref b244)])) rfl (by rw [hml]; rfl) (Steps.refl _) (a := b244) (argsL := [(.ref a245), (.ref b227), (.int p3), (.int p4), (.int p5)]) (rest := [(.ref b244)]) (lenOf pd_6 rfl) rfl (by show 2 * 0 + _ ≤ _; exact Nat.le_of_eq rfl) (hb hby at_35) (fun _ _ => ⟨rfl, u250, (by decide : 3 + 0 ≤ _), (by decide : 10 + 0 ≤ _)⟩)
    dsimp only [Pt.U, Pt.locs, Pt.cells, Pt.slots] at X251 l251 y251 z251 st251 hQ251
    subst l251 y251 z251
    obtain ⟨rfl, u253, Ku254, u255, u256, u257, u258, u259, u260⟩ := hQ251
    have Ou254 : Old Z n0 T251.heap := O244.keep Ku254 (allS g_b244 all0)
    have N251 := Fr.app N247 u253
    obtain ⟨cq263, kq263, q263a, q263b, q263c⟩ := isOf hZ rfl u255
    obtain ⟨_, _, ⟨T263, L263, k263, n263⟩, -, X263, ⟨Lc263, hQ263, l263, y263, z263⟩, st263⟩ := X251.virtualBack hx (y := M_7) (z := M_7) hown (mvT hZ (hw _ (gw 56 rfl))) (mvT hZ (hw _ (gw 57 rfl))) (notFace_of_selects (args := #[]) (mvT hZ (hw _ (gw 59 rfl)))) (mvT hZ (hw _ (gw 59 rfl))) (mvT hZ (hw _ (gw 58 rfl))) (by decide) (backOf (W := 0) (rm9_13 l Z a0 hw [] b244 a245 a33 a74 T251.heap n0  Ou254 u257 S_34 hne261 S_75 hne262) hZ (hw _ (gw 60 rfl)) (hw _ (gw 29 rfl)) (by decide) (by decide)) q263a q263c (g := (mkF m 55 #[.val (.int p1), .val (.int p2), .val (.int p3), .val (.int p4), .val (.int p5), .val (.int (5 : Int32)), .val (.ref b227), .val (.ref b244), .val (.int (0 : Int32))] [(.ref b244)])) rfl (by rw [hml]; rfl) (Steps.refl _) (argsL := []) (rest := []) (lenOf pd_7 rfl) rfl (by show 2 * 0 + _ ≤ _; exact Nat.le_of_eq rfl) (hb hby at_55) (fun _ _ => ⟨rfl, rfl, (by decide : 3 + 0 ≤ _), (by decide : 10 + 0 ≤ _)⟩)
    dsimp only [Pt.U, Pt.locs, Pt.cells, Pt.slots] at X263 l263 y263 z263 st263 hQ263
    subst l263 y263 z263
    obtain ⟨rfl, u265, u266⟩ := hQ263
    have N263 := Fr.app N251 u265
    obtain ⟨fs, hr, hrun, hended, hW, hsame⟩ := X263.leave (v := some (.int (1 : Int32))) (fun h => by rw [Bd.returns] at h; cases h)
    refine ⟨_, _, pre8 _ ?_, hrun, hended, _, _, rfl, ?_, ⟨_, rfl⟩, hW, hsame.mono (by decide) (by decide)⟩
    · show Steps p.tables e below (s₁.setTop (mkF m 6 #[.val (.int p1), .val (.int p2), .val (.int p3), .val (.int p4), .val (.int p5), .unset, .unset, .unset, .unset] [(.int (6 : Int32)), (.int i6)])) _
      refine Jvm.RoadKit.iremM (g := (mkF m 6 #[.val (.int p1), .val (.int p2), .val (.int p3), .val (.int p4), .val (.int p5), .unset, .unset, .unset, .unset] [(.int (6 : Int32)), (.int i6)])) X0 hx rfl (hb hby at_6) rfl (by decide +kernel : ¬ ((6 : Int32) = (0 : Int32))) ?_
      show Steps p.tables e below (s₁.setTop (mkF m 7 #[.val (.int p1), .val (.int p2), .val (.int p3), .val (.int p4), .val (.int p5), .unset, .unset, .unset, .unset] [(.int (i6 % (6 : Int32)))])) _
      rw [hq7]
      show Steps p.tables e below (s₁.setTop (mkF m 7 #[.val (.int p1), .val (.int p2), .val (.int p3), .val (.int p4), .val (.int p5), .unset, .unset, .unset, .unset] [(.int (5 : Int32))])) _
      refine XS.istore X0.here hx rfl (hb hby at_7) rfl (l' := #[.val (.int p1), .val (.int p2), .val (.int p3), .val (.int p4), .val (.int p5), .val (.int (5 : Int32)), .unset, .unset, .unset]) rfl ?_
      show Steps p.tables e below (s₁.setTop (mkF m 9 #[.val (.int p1), .val (.int p2), .val (.int p3), .val (.int p4), .val (.int p5), .val (.int (5 : Int32)), .unset, .unset, .unset] [])) _
      refine XS.iloadN X0.here hx rfl (hb hby at_9) rfl ?_
      show Steps p.tables e below (s₁.setTop (mkF m 10 #[.val (.int p1), .val (.int p2), .val (.int p3), .val (.int p4), .val (.int p5), .val (.int (5 : Int32)), .unset, .unset, .unset] [(.int p2)])) _
      refine XS.sipush X0.here hx rfl (hb hby at_10) ?_
      show Steps p.tables e below (s₁.setTop (mkF m 13 #[.val (.int p1), .val (.int p2), .val (.int p3), .val (.int p4), .val (.int p5), .val (.int (5 : Int32)), .unset, .unset, .unset] [(.int (255 : Int32)), (.int p2)])) _
      refine XS.iand X0.here hx rfl (hb hby at_13) rfl ?_
      show Steps p.tables e below (s₁.setTop (mkF m 14 #[.val (.int p1), .val (.int p2), .val (.int p3), .val (.int p4), .val (.int p5), .val (.int (5 : Int32)), .unset, .unset, .unset] [(.int (p2 &&& (255 : Int32)))])) _
      rw [← hi224]
      show Steps p.tables e below (s₁.setTop (mkF m 14 #[.val (.int p1), .val (.int p2), .val (.int p3), .val (.int p4), .val (.int p5), .val (.int (5 : Int32)), .unset, .unset, .unset] [(.int i224)])) _
      refine XS.i2c X0.here hx rfl (hb hby at_14) rfl ?_
      show Steps p.tables e below (s₁.setTop (mkF m 15 #[.val (.int p1), .val (.int p2), .val (.int p3), .val (.int p4), .val (.int p5), .val (.int (5 : Int32)), .unset, .unset, .unset] [(.int (i224.toUInt32.toUInt16.toUInt32.toInt32))])) _
      rw [(own_i2c255 hi224)]
      show Steps p.tables e below (s₁.setTop (mkF m 15 #[.val (.int p1), .val (.int p2), .val (.int p3), .val (.int p4), .val (.int p5), .val (.int (5 : Int32)), .unset, .unset, .unset] [(.int i224)])) _
      refine st225 _ ?_
      show Steps p.tables e below (T225.setTop (mkF m 18 #[.val (.int p1), .val (.int p2), .val (.int p3), .val (.int p4), .val (.int p5), .val (.int (5 : Int32)), .unset, .unset, .unset] [(.ref b227)])) _
      refine XS.astore X225.here hx rfl (hb hby at_18) rfl rfl (l' := #[.val (.int p1), .val (.int p2), .val (.int p3), .val (.int p4), .val (.int p5), .val (.int (5 : Int32)), .val (.ref b227), .unset, .unset]) rfl ?_
      show Steps p.tables e below (T225.setTop (mkF m 20 #[.val (.int p1), .val (.int p2), .val (.int p3), .val (.int p4), .val (.int p5), .val (.int (5 : Int32)), .val (.ref b227), .unset, .unset] [])) _
      refine st244 _ ?_
      show Steps p.tables e below (T244.setTop (mkF m 23 #[.val (.int p1), .val (.int p2), .val (.int p3), .val (.int p4), .val (.int p5), .val (.int (5 : Int32)), .val (.ref b227), .unset, .unset] [(.ref b244)])) _
      refine XS.dup X244.here hx rfl (hb hby at_23) rfl rfl ?_
      show Steps p.tables e below (T244.setTop (mkF m 24 #[.val (.int p1), .val (.int p2), .val (.int p3), .val (.int p4), .val (.int p5), .val (.int (5 : Int32)), .val (.ref b227), .unset, .unset] [(.ref b244), (.ref b244)])) _
      refine XS.iload X244.here hx rfl (hb hby at_24) rfl ?_
      show Steps p.tables e below (T244.setTop (mkF m 26 #[.val (.int p1), .val (.int p2), .val (.int p3), .val (.int p4), .val (.int p5), .val (.int (5 : Int32)), .val (.ref b227), .unset, .unset] [(.int (5 : Int32)), (.ref b244), (.ref b244)])) _
      refine st247 _ ?_
      show Steps p.tables e below (T247.setTop (mkF m 29 #[.val (.int p1), .val (.int p2), .val (.int p3), .val (.int p4), .val (.int p5), .val (.int (5 : Int32)), .val (.ref b227), .unset, .unset] [(.ref a245), (.ref b244), (.ref b244)])) _
      refine XS.aload X247.here hx rfl (hb hby at_29) rfl rfl ?_
      show Steps p.tables e below (T247.setTop (mkF m 31 #[.val (.int p1), .val (.int p2), .val (.int p3), .val (.int p4), .val (.int p5), .val (.int (5 : Int32)), .val (.ref b227), .unset, .unset] [(.ref b227), (.ref a245), (.ref b244), (.ref b244)])) _
      refine XS.iloadN X247.here hx rfl (hb hby at_31) rfl ?_
      show Steps p.tables e below (T247.setTop (mkF m 32 #[.val (.int p1), .val (.int p2), .val (.int p3), .val (.int p4), .val (.int p5), .val (.int (5 : Int32)), .val (.ref b227), .unset, .unset] [(.int p3), (.ref b227), (.ref a245), (.ref b244), (.ref b244)])) _
      refine XS.iloadN X247.here hx rfl (hb hby at_32) rfl ?_
      show Steps p.tables e below (T247.setTop (mkF m 33 #[.val (.int p1), .val (.int p2), .val (.int p3), .val (.int p4), .val (.int p5), .val (.int (5 : Int32)), .val (.ref b227), .unset, .unset] [(.int p4), (.int p3), (.ref b227), (.ref a245), (.ref b244), (.ref b244)])) _
      refine XS.iload X247.here hx rfl (hb hby at_33) rfl ?_
      show Steps p.tables e below (T247.setTop (mkF m 35 #[.val (.int p1), .val (.int p2), .val (.int p3), .val (.int p4), .val (.int p5), .val (.int (5 : Int32)), .val (.ref b227), .unset, .unset] [(.int p5), (.int p4), (.int p3), (.ref b227), (.ref a245), (.ref b244), (.ref b244)])) _
      refine st251.trans ?_
      show Steps p.tables e below (T251.setTop (mkF m 38 #[.val (.int p1), .val (.int p2), .val (.int p3), .val (.int p4), .val (.int p5), .val (.int (5 : Int32)), .val (.ref b227), .unset, .unset] [(.ref b244)])) _
      refine XS.astore X251.here hx rfl (hb hby at_38) rfl rfl (l' := #[.val (.int p1), .val (.int p2), .val (.int p3), .val (.int p4), .val (.int p5), .val (.int (5 : Int32)), .val (.ref b227), .val (.ref b244), .unset]) rfl ?_
      show Steps p.tables e below (T251.setTop (mkF m 40 #[.val (.int p1), .val (.int p2), .val (.int p3), .val (.int p4), .val (.int p5), .val (.int (5 : Int32)), .val (.ref b227), .val (.ref b244), .unset] [])) _
      refine XS.iload X251.here hx rfl (hb hby at_40) rfl ?_
      show Steps p.tables e below (T251.setTop (mkF m 42 #[.val (.int p1), .val (.int p2), .val (.int p3), .val (.int p4), .val (.int p5), .val (.int (5 : Int32)), .val (.ref b227), .val (.ref b244), .unset] [(.int (5 : Int32))])) _
      refine XS.iconst X251.here hx rfl (hb hby at_42) ?_
      show Steps p.tables e below (T251.setTop (mkF m 43 #[.val (.int p1), .val (.int p2), .val (.int p3), .val (.int p4), .val (.int p5), .val (.int (5 : Int32)), .val (.ref b227), .val (.ref b244), .unset] [(.int (1 : Int32)), (.int (5 : Int32))])) _
      refine XS.icmpYes X251.here hx rfl (pc0 := 43) (pc' := 50) rfl (hb hby at_43) rfl (tlt (by decide +kernel : (1 : Int32) < (5 : Int32))).2.2.1 (by decide) (by decide) ?_
      show Steps p.tables e below (T251.setTop (mkF m 50 #[.val (.int p1), .val (.int p2), .val (.int p3), .val (.int p4), .val (.int p5), .val (.int (5 : Int32)), .val (.ref b227), .val (.ref b244), .unset] [])) _
      refine XS.iconst X251.here hx rfl (hb hby at_50) ?_
      show Steps p.tables e below (T251.setTop (mkF m 51 #[.val (.int p1), .val (.int p2), .val (.int p3), .val (.int p4), .val (.int p5), .val (.int (5 : Int32)), .val (.ref b227), .val (.ref b244), .unset] [(.int (0 : Int32))])) _
      refine XS.istore X251.here hx rfl (hb hby at_51) rfl (l' := #[.val (.int p1), .val (.int p2), .val (.int p3), .val (.int p4), .val (.int p5), .val (.int (5 : Int32)), .val (.ref b227), .val (.ref b244), .val (.int (0 : Int32))]) rfl ?_
      show Steps p.tables e below (T251.setTop (mkF m 53 #[.val (.int p1), .val (.int p2), .val (.int p3), .val (.int p4), .val (.int p5), .val (.int (5 : Int32)), .val (.ref b227), .val (.ref b244), .val (.int (0 : Int32))] [])) _
      refine XS.aload X251.here hx rfl (hb hby at_53) rfl rfl ?_
      show Steps p.tables e below (T251.setTop (mkF m 55 #[.val (.int p1), .val (.int p2), .val (.int p3), .val (.int p4), .val (.int p5), .val (.int (5 : Int32)), .val (.ref b227), .val (.ref b244), .val (.int (0 : Int32))] [(.ref b244)])) _
      refine st263.trans ?_
      show Steps p.tables e below (T263.setTop (mkF m 58 #[.val (.int p1), .val (.int p2), .val (.int p3), .val (.int p4), .val (.int p5), .val (.int (5 : Int32)), .val (.ref b227), .val (.ref b244), .val (.int (0 : Int32))] [(.int (0 : Int32))])) _
      refine XS.iload X263.here hx rfl (hb hby at_58) rfl ?_
      show Steps p.tables e below (T263.setTop (mkF m 60 #[.val (.int p1), .val (.int p2), .val (.int p3), .val (.int p4), .val (.int p5), .val (.int (5 : Int32)), .val (.ref b227), .val (.ref b244), .val (.int (0 : Int32))] [(.int (0 : Int32)), (.int (0 : Int32))])) _
      refine XS.icmpNo X263.here hx rfl (hb hby at_60) rfl (teq (by decide +kernel : (0 : Int32) = (0 : Int32))).2 ?_
      show Steps p.tables e below (T263.setTop (mkF m 63 #[.val (.int p1), .val (.int p2), .val (.int p3), .val (.int p4), .val (.int p5), .val (.int (5 : Int32)), .val (.ref b227), .val (.ref b244), .val (.int (0 : Int32))] [])) _
      refine XS.iconst X263.here hx rfl (hb hby at_63) ?_
      show Steps p.tables e below (T263.setTop (mkF m 64 #[.val (.int p1), .val (.int p2), .val (.int p3), .val (.int p4), .val (.int p5), .val (.int (5 : Int32)), .val (.ref b227), .val (.ref b244), .val (.int (0 : Int32))] [(.int (1 : Int32))])) _
      refine XS.goto X263.here hx rfl (pc0 := 64) (pc' := 68) rfl (hb hby at_64) (by decide) (by decide) ?_
      show Steps p.tables e below (T263.setTop (mkF m 68 #[.val (.int p1), .val (.int p2), .val (.int p3), .val (.int p4), .val (.int p5), .val (.int (5 : Int32)), .val (.ref b227), .val (.ref b244), .val (.int (0 : Int32))] [(.int (1 : Int32))])) _
      exact retN X263 hx (t := .boolean) Bd.returns (by simp) (hb hby at_68) hr
    · show Q0 Z _ _ _ _ _ _ _ _ _ _ _ _ h0 n0 _ T263.heap _
      rw [u266]
      exact ⟨rfl, N263⟩
set_option maxRecDepth 65536 in
set_option maxHeartbeats 40000000 in
theorem comes_1 {Post : Tables → Env → Array Value → State → Outcome → State → Prop} (hpost : ∀ tb e args s v u, (limb_1_1.after args s (.returned v) u = true ∧ limb_1_2.after args s (.returned v) u = true ∧ True) → FrameEnd s (.returned v) u (Jvm.fieldLocs frame_1_writes args s ++ Jvm.arrayLocs frame_1_arrays args s ++ Jvm.staticLocs frame_1_statics s) 16 128 → Post tb e args s (.returned v) u) :
    ArmFor flags0 classFile x code maxLocals ret World_1 tables_1 room_1 Calls_1 rest_1 Pre_1 Post := by
  intro l hfl _ _ p e ha hc hk s m args below hf hA hF happ hP
  obtain ⟨hcalls, hrest, hpre⟩ := hP
  obtain ⟨-, -, -, hnamed, -, -, -, hat⟩ := (Spec.applies_iff hf).mp happ
  obtain ⟨hg, hn⟩ := and_e (Cond.before_iff.mp (show (Jvm.Cond.and given_1 narrow_1).before args s = true from hpre))
  obtain ⟨h1, hr0⟩ := and_e hg
  obtain ⟨ha0, hr1⟩ := and_e hr0
  obtain ⟨ha1, hr2⟩ := and_e hr1
  obtain ⟨ha2, hr3⟩ := and_e hr2
  obtain ⟨ha3, hr4⟩ := and_e hr3
  obtain ⟨w0, w1, w2, w3, w4, rfl⟩ : ∃ w0 w1 w2 w3 w4 : Value, args = #[w0, w1, w2, w3, w4] := by
    have hs : args.size = 5 := by simpa [Cond.value, given_1] using h1
    obtain ⟨L⟩ := args
    match L, hs with
    | [w0, w1, w2, w3, w4], _ => exact ⟨w0, w1, w2, w3, w4, rfl⟩
  have hwt := fun d (hd : d ∈ tables_1) => atoms_spec (ws := Jvm.Cond.code x code maxLocals ret :: tables_1) hat d (List.mem_cons_of_mem _ hd)
  obtain ⟨hsets, hown0⟩ := atoms_of _ (rest_1_c_eq ▸ (show rest_1_c.before _ s = true from hrest))
  have hw : ∀ d ∈ own_ws, d.before _ s = true := fun d hd => (List.mem_append.mp hd).elim (hwt d) (hsets d)
  have hfit : Fit s := fun {y c} hc i hi => by
    obtain ⟨ha, rfl⟩ := Array.getElem?_eq_some_iff.mp hc
    have q := List.all_eq_true.mp ((Array.all_eq_true_iff_forall_mem.mp hF) _ (Array.getElem_mem ha)) i (List.mem_range.mpr hi)
    simpa [Array.getElem?_eq_getElem hi] using q
  obtain ⟨i0, ei0⟩ := is_v ha0
  obtain rfl : w0 = (.int i0) := Option.some.inj ei0
  obtain ⟨i1, ei1⟩ := is_v ha1
  obtain rfl : w1 = (.int i1) := Option.some.inj ei1
  obtain ⟨i2, ei2⟩ := is_v ha2
  obtain rfl : w2 = (.int i2) := Option.some.inj ei2
  obtain ⟨i3, ei3⟩ := is_v ha3
  obtain rfl : w3 = (.int i3) := Option.some.inj ei3
  obtain ⟨i4, ei4⟩ := is_v hr4
  obtain rfl : w4 = (.int i4) := Option.some.inj ei4
  obtain ⟨c1, c2⟩ := and_e hn
  obtain ⟨c3, c4⟩ := and_e c2
  obtain ⟨c5, c6⟩ := and_e c4
  obtain ⟨c7, c8⟩ := and_e c6
  obtain ⟨c9, c10⟩ := and_e c8
  obtain ⟨c11, c12⟩ := and_e c10
  obtain ⟨c13, c14⟩ := and_e c12
  obtain ⟨c15, c16⟩ := and_e c14
  obtain ⟨c17, c18⟩ := and_e c16
  obtain ⟨c19, c20⟩ := and_e c18
  obtain ⟨c21, c22⟩ := and_e c20
  have hs1 := Cond.before_iff.mp (hsets _ (List.mem_of_getElem? (i := 1) rfl))
  have hs2 := Cond.before_iff.mp (hsets _ (List.mem_of_getElem? (i := 2) rfl))
  have hs8 := Cond.before_iff.mp (hsets _ (List.mem_of_getElem? (i := 8) rfl))
  obtain ⟨o1, ev_o1⟩ := exa_v c1
  have S_o1 : Sta s s.heap "com/example/stemline/stemline/dialect/clickhouse/ClickHouseLexer$Kind" "WORD" "Lcom/example/stemline/stemline/dialect/clickhouse/ClickHouseLexer$Kind;" (.ref o1) := Sta.start ev_o1 (Or.inr ⟨(hw _ (gw 35 rfl)), (hw _ (gw 36 rfl))⟩)
  have E_o1 : Exa s s.heap o1 "com/example/stemline/stemline/dialect/clickhouse/ClickHouseLexer$Kind" := Exa.start ev_o1 c1
  obtain ⟨o2, ev_o2⟩ := exa_v c3
  have S_o2 : Sta s s.heap "com/example/stemline/stemline/dialect/clickhouse/ClickHouseLexer$Kind" "NUMBER" "Lcom/example/stemline/stemline/dialect/clickhouse/ClickHouseLexer$Kind;" (.ref o2) := Sta.start ev_o2 (Or.inr ⟨(hw _ (gw 35 rfl)), (hw _ (gw 63 rfl))⟩)
  have E_o2 : Exa s s.heap o2 "com/example/stemline/stemline/dialect/clickhouse/ClickHouseLexer$Kind" := Exa.start ev_o2 c3
  have F23 : Fld s s.heap o2 "java/lang/Enum" "ordinal" "I" (.int (3 : Int32)) := Fld.start ((fld_at ev_o2).symm.trans (own_eqI c5))
  have F24 : Fld s s.heap o1 "java/lang/Enum" "ordinal" "I" (.int (0 : Int32)) := Fld.start ((fld_at ev_o1).symm.trans (own_eqI c7))
  obtain ⟨o3, ev_o3⟩ := exa_v c9
  have S_o3 : Sta s s.heap "com/example/stemline/stemline/dialect/clickhouse/ClickHouseLexer$Kind" "QUOTED" "Lcom/example/stemline/stemline/dialect/clickhouse/ClickHouseLexer$Kind;" (.ref o3) := Sta.start ev_o3 (Or.inr ⟨(hw _ (gw 35 rfl)), (hw _ (gw 65 rfl))⟩)
  have E_o3 : Exa s s.heap o3 "com/example/stemline/stemline/dialect/clickhouse/ClickHouseLexer$Kind" := Exa.start ev_o3 c9
  have F25 : Fld s s.heap o3 "java/lang/Enum" "ordinal" "I" (.int (1 : Int32)) := Fld.start ((fld_at ev_o3).symm.trans (own_eqI c11))
  obtain ⟨o4, ev_o4⟩ := exa_v c13
  have S_o4 : Sta s s.heap "com/example/stemline/stemline/dialect/clickhouse/ClickHouseLexer$Kind" "STRING" "Lcom/example/stemline/stemline/dialect/clickhouse/ClickHouseLexer$Kind;" (.ref o4) := Sta.start ev_o4 (Or.inr ⟨(hw _ (gw 35 rfl)), (hw _ (gw 67 rfl))⟩)
  have E_o4 : Exa s s.heap o4 "com/example/stemline/stemline/dialect/clickhouse/ClickHouseLexer$Kind" := Exa.start ev_o4 c13
  have F26 : Fld s s.heap o4 "java/lang/Enum" "ordinal" "I" (.int (2 : Int32)) := Fld.start ((fld_at ev_o4).symm.trans (own_eqI c15))
  obtain ⟨o5, ev_o5⟩ := exa_v c17
  have S_o5 : Sta s s.heap "com/example/stemline/stemline/dialect/clickhouse/ClickHouseLexer$Kind" "SYMBOL" "Lcom/example/stemline/stemline/dialect/clickhouse/ClickHouseLexer$Kind;" (.ref o5) := Sta.start ev_o5 (Or.inr ⟨(hw _ (gw 35 rfl)), (hw _ (gw 69 rfl))⟩)
  have E_o5 : Exa s s.heap o5 "com/example/stemline/stemline/dialect/clickhouse/ClickHouseLexer$Kind" := Exa.start ev_o5 c17
  have F27 : Fld s s.heap o5 "java/lang/Enum" "ordinal" "I" (.int (4 : Int32)) := Fld.start ((fld_at ev_o5).symm.trans (own_eqI c19))
  obtain ⟨o6, ev_o6⟩ := exa_v c21
  have S_o6 : Sta s s.heap "com/example/stemline/stemline/dialect/clickhouse/ClickHouseLexer$Kind" "COMMENT" "Lcom/example/stemline/stemline/dialect/clickhouse/ClickHouseLexer$Kind;" (.ref o6) := Sta.start ev_o6 (Or.inr ⟨(hw _ (gw 35 rfl)), (hw _ (gw 72 rfl))⟩)
  have E_o6 : Exa s s.heap o6 "com/example/stemline/stemline/dialect/clickhouse/ClickHouseLexer$Kind" := Exa.start ev_o6 c21
  have F28 : Fld s s.heap o6 "java/lang/Enum" "ordinal" "I" (.int (5 : Int32)) := Fld.start ((fld_at ev_o6).symm.trans (own_eqI c22))
  obtain ⟨n1, ev_n1⟩ := is_v hs1
  have S_n1 : Sta s s.heap "java/lang/String" "COMPACT_STRINGS" "Z" (.int n1) := Sta.start ev_n1 (Or.inl (hw _ (gw 73 rfl)))
  have cn29 : ¬ (n1 = (0 : Int32)) := gotF (Cond.eq_ints ev_n1 (Term.int_eval (0))) (not_v hs2)
  obtain ⟨r2, ev_r2, ir_r2⟩ := isR_v hs8
  have S_r2 : Sta s s.heap "jdk/internal/util/Preconditions" "SIOOBE_FORMATTER" "Ljava/util/function/BiFunction;" r2 := Sta.start ev_r2 (Or.inl (hw _ (gw 80 rfl)))
  obtain ⟨n, o, h1, h2, h3, _, L, rfl, ⟨rfl, N⟩, hq⟩ := rm0 l s _ hw tables_1 i0 i1 i2 i3 i4 n1 o1 o3 o4 o2 o5 o6 s.heap s.heap.size (Old.start s) S_n1 cn29 S_o1 S_o3 (Fld.ne F25 F24 (by decide +kernel)) S_o4 (Fld.ne F26 F24 (by decide +kernel)) (Fld.ne F26 F25 (by decide +kernel)) S_o2 (Fld.ne F23 F24 (by decide +kernel)) (Fld.ne F23 F25 (by decide +kernel)) S_o5 (Fld.ne F27 F24 (by decide +kernel)) (Fld.ne F27 F25 (by decide +kernel)) S_o6 (Fld.ne F28 F24 (by decide +kernel)) (Fld.ne F28 F25 (by decide +kernel)) p e ha hc hk s m _ below hf ((Spec.applies_iff_loose hf).mp happ).1 ⟨rfl, State.Warmed39.refl s, rfl⟩ trivial
  refine ⟨n, _, h1, h2, h3, hpost _ _ _ _ _ _ ⟨Cond.after_iff.mpr rfl, Cond.after_iff.mpr (eq_i res_at (Term.int_eval (1)) rfl), trivial⟩ ⟨hq.1, hq.2.1, (hq.2.2.sift fun y hy => Or.inr (N y hy)).mono (by decide) (by decide)⟩⟩
theorem main_1_1 : Claimed_1_1 := comes_1 fun _ _ _ _ _ _ h hF => ⟨h.1, hF⟩
theorem main_1_2 : Claimed_1_2 := comes_1 fun _ _ _ _ _ _ h hF => ⟨h.2.1, hF⟩
end Jvm.Pilot.@@N@@
namespace Jvm.Pilot.@@N@@
open Jvm Jvm.ClassFile Sem Op Lib Jvm.Free Jvm.Stand Jvm.Pilot.@@N@@.Jvm.D
/-! MADE BY PROGRAM (witnessworld.py) out of the Statement's table words and the real class files: 20 classes; the members and pool entries that the words name. The judged class is class 1, her method 2. -/
namespace start1
open Jvm.ClassFile
def u (s : String) : CpInfo := .utf8 (stringToUtf16 s)
/-- a pool by its gaps: so many unusable entries, then the entry; so many at the end -/
def gap : Nat → List CpInfo → List CpInfo
  | 0, r => r
  | n + 1, r => .unusable :: gap n r
def poolList (es : List (Nat × CpInfo)) (last : Nat) : List CpInfo := es.foldr (fun e r => gap e.1 (e.2 :: r)) (gap last [])
def pool (es : List (Nat × CpInfo)) (last : Nat) : Array CpInfo := ⟨poolList es last⟩
def fileOf (pool : Array CpInfo) (this : Nat) (attrs : Array Attribute := #[]) (ms : Array MethodInfo := #[]) (fl : Nat := 33) (sup : Nat := 0) (ifs : Array Nat := #[]) (fds : Array FieldInfo := #[]) : ClassFile where
  minorVersion := 0
  majorVersion := 65
  constantPool := pool
  accessFlags := fl
  thisClass := this
  superClass := sup
  interfaces := ifs
  fields := fds
  methods := ms
  attributes := attrs
def plain (name : String) (sup : Option ClassId) : Class where
  name := name
  kind := .ordinary
  loader := none
  accessFlags := 33
  super := sup
  interfaces := #[]
  cf := none
  fields := #[]
  methods := #[]
  instanceTypes := #[]
  staticTypes := #[]
  resolved := #[]
  callSites := []
  init := .initialized
  statics := none
  mirror := none

def pool0 : Array CpInfo := pool [(5, u "<init>"), (0, u "()V"), (1, .class_ 10), (1, u "java/lang/Object")] 113

def k0c0 : Code := { maxStack := 0, maxLocals := 1, code := object_method_1_code, exceptionTable := #[], attributes := #[] }
def k0m0 : Method := { name := "<init>", desc := "()V", sig := { parameters := [], returnType := none }, accessFlags := 1, code := some k0c0 }
/-- java/lang/Object -/
def k0 : Class := { plain "java/lang/Object" none with
  accessFlags := 33
  interfaces := #[]
  cf := some (fileOf pool0 8 #[] #[{ accessFlags := 1, nameIndex := 5, descriptorIndex := 6, attributes := #[] }] 33 0 #[] #[])
  fields := #[]
  methods := #[k0m0]
  instanceTypes := #[]
  staticTypes := #[]
  resolved := Array.replicate 124 none
  statics := none }

def pool1 : Array CpInfo := pool [(2, .class_ 4), (1, u "java/lang/Object"), (0, u "<init>"), (0, u "()V"), (0, .fieldref 8 9), (0, .class_ 10), (0, .nameAndType 11 12), (0, u "com/example/stemline/stemline/dialect/clickhouse/ClickHouseLexer$Kind"), (0, u "WORD"), (0, u "Lcom/example/stemline/stemline/dialect/clickhouse/ClickHouseLexer$Kind;"), (0, .fieldref 8 14), (0, .nameAndType 15 12), (0, u "QUOTED"), (0, .fieldref 8 17), (0, .nameAndType 18 12), (0, u "STRING"), (0, .fieldref 8 20), (0, .nameAndType 21 12), (0, u "NUMBER"), (0, .fieldref 8 23), (0, .nameAndType 24 12), (0, u "SYMBOL"), (0, .fieldref 8 26), (0, .nameAndType 27 12), (0, u "COMMENT"), (0, .integer 2147483647), (0, .methodref 30 31), (0, .class_ 32), (0, .nameAndType 33 34), (0, u "java/lang/String"), (0, u "valueOf"), (0, u "(C)Ljava/lang/String;"), (0, .class_ 36), (0, u "com/example/stemline/stemline/dialect/clickhouse/ClickHouseLexer$Token"), (0, .methodref 38 39), (0, .class_ 40), (0, .nameAndType 41 42), (0, u "com/example/stemline/stemline/dialect/clickhouse/TokenIsNamePinLaw"), (0, u "kindOf"), (0, u "(I)Lcom/example/stemline/stemline/dialect/clickhouse/ClickHouseLexer$Kind;"), (0, .methodref 35 44), (0, .nameAndType 5 45), (0, u "(Lcom/example/stemline/stemline/dialect/clickhouse/ClickHouseLexer$Kind;Ljava/lang/String;III)V"), (0, .methodref 35 47), (0, .nameAndType 48 49), (0, u "isName"), (0, u "()Z"), (3, u "law"), (0, u "(IIIII)Z")] 7

def k1m0 : Method := { name := "<init>", desc := "()V", sig := { parameters := [], returnType := none }, accessFlags := 1, code := none }
def k1c1 : Code := { maxStack := 2, maxLocals := 1, code := method_2_code, exceptionTable := #[], attributes := #[] }
def k1m1 : Method := { name := "kindOf", desc := "(I)Lcom/example/stemline/stemline/dialect/clickhouse/ClickHouseLexer$Kind;", sig := { parameters := [.int], returnType := some (.object "com/example/stemline/stemline/dialect/clickhouse/ClickHouseLexer$Kind") }, accessFlags := 10, code := some k1c1 }
def k1c2 : Code := { maxStack := 7, maxLocals := 9, code := code, exceptionTable := #[], attributes := #[] }
def k1m2 : Method := { name := "law", desc := "(IIIII)Z", sig := { parameters := [.int, .int, .int, .int, .int], returnType := some .boolean }, accessFlags := 9, code := some k1c2 }
/-- com/example/stemline/stemline/dialect/clickhouse/TokenIsNamePinLaw -/
def k1 : Class := { plain "com/example/stemline/stemline/dialect/clickhouse/TokenIsNamePinLaw" (some 0) with
  accessFlags := 49
  interfaces := #[]
  cf := some (fileOf pool1 38 #[] #[{ accessFlags := 1, nameIndex := 5, descriptorIndex := 6, attributes := #[] }, { accessFlags := 10, nameIndex := 41, descriptorIndex := 42, attributes := #[] }, { accessFlags := 9, nameIndex := 53, descriptorIndex := 54, attributes := #[] }] 49 2 #[] #[])
  fields := #[]
  methods := #[k1m0, k1m1, k1m2]
  instanceTypes := #[]
  staticTypes := #[]
  resolved := Array.replicate 62 none
  statics := none }

def pool2 : Array CpInfo := pool [(1, .class_ 2), (0, u "java/io/Serializable"), (0, .class_ 4), (0, u "java/lang/Object")] 2

/-- java/io/Serializable -/
def k2 : Class := { plain "java/io/Serializable" (some 0) with
  accessFlags := 1537
  interfaces := #[]
  cf := some (fileOf pool2 1 #[] #[] 1537 3 #[] #[])
  fields := #[]
  methods := #[]
  instanceTypes := #[]
  staticTypes := #[]
  resolved := Array.replicate 7 none
  statics := none }

def pool3 : Array CpInfo := pool [(1, .class_ 2), (0, u "java/lang/Comparable"), (0, .class_ 4), (0, u "java/lang/Object")] 7

/-- java/lang/Comparable -/
def k3 : Class := { plain "java/lang/Comparable" (some 0) with
  accessFlags := 1537
  interfaces := #[]
  cf := some (fileOf pool3 1 #[] #[] 1537 3 #[] #[])
  fields := #[]
  methods := #[]
  instanceTypes := #[]
  staticTypes := #[]
  resolved := Array.replicate 12 none
  statics := none }

def pool4 : Array CpInfo := pool [(2, .class_ 4), (1, u "java/lang/CharSequence"), (42, .class_ 48), (0, u "java/lang/CharSequence$1CodePointIterator"), (10, .class_ 60), (0, u "java/lang/CharSequence$1CharIterator"), (5, .class_ 67), (0, u "java/lang/Object")] 63

/-- java/lang/CharSequence -/
def k4 : Class := { plain "java/lang/CharSequence" (some 0) with
  accessFlags := 1537
  interfaces := #[]
  cf := some (fileOf pool4 2 #[.nestMembers #[47, 59]] #[] 1537 66 #[] #[])
  fields := #[]
  methods := #[]
  instanceTypes := #[]
  staticTypes := #[]
  resolved := Array.replicate 131 none
  statics := none }

def pool5 : Array CpInfo := pool [(1, .class_ 2), (0, u "java/lang/constant/Constable"), (0, .class_ 4), (0, u "java/lang/Object")] 6

/-- java/lang/constant/Constable -/
def k5 : Class := { plain "java/lang/constant/Constable" (some 0) with
  accessFlags := 1537
  interfaces := #[]
  cf := some (fileOf pool5 1 #[] #[] 1537 3 #[] #[])
  fields := #[]
  methods := #[]
  instanceTypes := #[]
  staticTypes := #[]
  resolved := Array.replicate 11 none
  statics := none }

def pool6 : Array CpInfo := pool [(1, .class_ 2), (0, u "java/lang/constant/ConstantDesc"), (0, .class_ 4), (0, u "java/lang/Object")] 32

/-- java/lang/constant/ConstantDesc -/
def k6 : Class := { plain "java/lang/constant/ConstantDesc" (some 0) with
  accessFlags := 1537
  interfaces := #[]
  cf := some (fileOf pool6 1 #[] #[] 1537 3 #[] #[])
  fields := #[]
  methods := #[]
  instanceTypes := #[]
  staticTypes := #[]
  resolved := Array.replicate 37 none
  statics := none }

def pool7 : Array CpInfo := pool [(1, .methodref 2 3), (0, .class_ 4), (0, .nameAndType 5 6), (0, u "java/lang/Object"), (0, u "<init>"), (0, u "()V"), (2, .fieldref 10 11), (0, .class_ 12), (0, .nameAndType 13 14), (0, u "java/lang/String"), (0, u "value"), (0, u "[B"), (0, .fieldref 10 16), (0, .nameAndType 17 18), (0, u "coder"), (0, u "B"), (2, u "hash"), (0, u "I"), (2, u "hashIsZero"), (0, u "Z"), (11, .fieldref 10 39), (0, .nameAndType 40 26), (0, u "COMPACT_STRINGS"), (12, u "toBytes"), (53, .class_ 109), (1, u "java/lang/StringLatin1"), (99, .methodref 10 210), (0, .nameAndType 5 211), (0, u "([BB)V"), (157, u "(C)Z"), (205, .class_ 576), (0, u "java/lang/CharSequence"), (22, u "CASE_INSENSITIVE_ORDER"), (0, u "Ljava/util/Comparator;"), (181, u "valueOf"), (0, u "(C)Ljava/lang/String;"), (231, .methodref 107 1016), (0, .nameAndType 1017 369), (0, u "canEncode"), (0, .methodref 107 1019), (0, .nameAndType 53 1020), (0, u "(C)[B"), (80, u "serialPersistentFields"), (0, u "[Ljava/io/ObjectStreamField;"), (0, .class_ 1104), (0, u "java/lang/String$CaseInsensitiveComparator"), (1, .class_ 1107), (0, u "java/io/Serializable"), (0, .class_ 1109), (0, u "java/lang/Comparable"), (0, .class_ 1111), (0, u "java/lang/constant/Constable"), (0, .class_ 1113), (0, u "java/lang/constant/ConstantDesc"), (2, u "serialVersionUID"), (0, u "J"), (3, u "REPL"), (0, u "C"), (2, u "LATIN1"), (1, u "UTF16")] 323

def k7m0 : Method := { name := "<init>", desc := "()V", sig := { parameters := [], returnType := none }, accessFlags := 1, code := none }
def k7c1 : Code := { maxStack := 4, maxLocals := 1, code := jdk_42_method_139_code, exceptionTable := #[], attributes := #[] }
def k7m1 : Method := { name := "valueOf", desc := "(C)Ljava/lang/String;", sig := { parameters := [.char], returnType := some (.object "java/lang/String") }, accessFlags := 9, code := some k7c1 }
def k7c2 : Code := { maxStack := 2, maxLocals := 3, code := jdk_42_method_151_code, exceptionTable := #[], attributes := #[] }
def k7m2 : Method := { name := "<init>", desc := "([BB)V", sig := { parameters := [(.array .byte), .byte], returnType := none }, accessFlags := 0, code := some k7c2 }
/-- java/lang/String -/
def k7 : Class := { plain "java/lang/String" (some 0) with
  accessFlags := 49
  interfaces := #[2, 3, 4, 5, 6]
  cf := some (fileOf pool7 10 #[.nestMembers #[1103]] #[{ accessFlags := 1, nameIndex := 5, descriptorIndex := 6, attributes := #[] }, { accessFlags := 9, nameIndex := 782, descriptorIndex := 783, attributes := #[] }, { accessFlags := 0, nameIndex := 5, descriptorIndex := 211, attributes := #[] }] 49 2 #[1106, 1108, 575, 1110, 1112] #[{ accessFlags := 18, nameIndex := 13, descriptorIndex := 14, attributes := #[] }, { accessFlags := 18, nameIndex := 17, descriptorIndex := 18, attributes := #[] }, { accessFlags := 2, nameIndex := 21, descriptorIndex := 22, attributes := #[] }, { accessFlags := 2, nameIndex := 25, descriptorIndex := 26, attributes := #[] }, { accessFlags := 26, nameIndex := 1116, descriptorIndex := 1117, attributes := #[] }, { accessFlags := 24, nameIndex := 40, descriptorIndex := 26, attributes := #[] }, { accessFlags := 26, nameIndex := 1101, descriptorIndex := 1102, attributes := #[] }, { accessFlags := 26, nameIndex := 1121, descriptorIndex := 1122, attributes := #[] }, { accessFlags := 25, nameIndex := 599, descriptorIndex := 600, attributes := #[] }, { accessFlags := 24, nameIndex := 1125, descriptorIndex := 18, attributes := #[] }, { accessFlags := 24, nameIndex := 1127, descriptorIndex := 18, attributes := #[] }])
  fields := #[{ name := "value", type := (.array .byte), accessFlags := 18, slot := 0, constantValue := 0 }, { name := "coder", type := .byte, accessFlags := 18, slot := 1, constantValue := 0 }, { name := "hash", type := .int, accessFlags := 2, slot := 2, constantValue := 0 }, { name := "hashIsZero", type := .boolean, accessFlags := 2, slot := 3, constantValue := 0 }, { name := "serialVersionUID", type := .long, accessFlags := 26, slot := 0, constantValue := 0 }, { name := "COMPACT_STRINGS", type := .boolean, accessFlags := 24, slot := 1, constantValue := 0 }, { name := "serialPersistentFields", type := (.array (.object "java/io/ObjectStreamField")), accessFlags := 26, slot := 2, constantValue := 0 }, { name := "REPL", type := .char, accessFlags := 26, slot := 3, constantValue := 0 }, { name := "CASE_INSENSITIVE_ORDER", type := (.object "java/util/Comparator"), accessFlags := 25, slot := 4, constantValue := 0 }, { name := "LATIN1", type := .byte, accessFlags := 24, slot := 5, constantValue := 0 }, { name := "UTF16", type := .byte, accessFlags := 24, slot := 6, constantValue := 0 }]
  methods := #[k7m0, k7m1, k7m2]
  instanceTypes := #[(.array .byte), .byte, .int, .boolean]
  staticTypes := #[.long, .boolean, (.array (.object "java/io/ObjectStreamField")), .char, (.object "java/util/Comparator"), .byte, .byte]
  resolved := Array.replicate 1451 none
  statics := some 0 }

def pool8 : Array CpInfo := pool [(4, .class_ 6), (1, u "java/lang/Object"), (0, u "<init>"), (0, u "()V"), (5, .class_ 16), (1, u "java/lang/StringLatin1"), (73, u "canEncode"), (14, u "(C)Z"), (15, u "$assertionsDisabled"), (0, u "Z"), (98, .class_ 223), (1, u "java/lang/StringLatin1$LinesSpliterator"), (156, u "toBytes"), (1, u "(C)[B"), (7, .class_ 391), (0, u "java/lang/StringLatin1$CharsSpliterator")] 3

def k8m0 : Method := { name := "<init>", desc := "()V", sig := { parameters := [], returnType := none }, accessFlags := 0, code := none }
def k8c1 : Code := { maxStack := 2, maxLocals := 1, code := jdk_43_method_3_code, exceptionTable := #[], attributes := #[] }
def k8m1 : Method := { name := "canEncode", desc := "(C)Z", sig := { parameters := [.char], returnType := some .boolean }, accessFlags := 9, code := some k8c1 }
def k8c2 : Code := { maxStack := 4, maxLocals := 1, code := jdk_43_method_46_code, exceptionTable := #[], attributes := #[] }
def k8m2 : Method := { name := "toBytes", desc := "(C)[B", sig := { parameters := [.char], returnType := some (.array .byte) }, accessFlags := 9, code := some k8c2 }
/-- java/lang/StringLatin1 -/
def k8 : Class := { plain "java/lang/StringLatin1" (some 0) with
  accessFlags := 48
  interfaces := #[]
  cf := some (fileOf pool8 14 #[.nestMembers #[390, 221]] #[{ accessFlags := 0, nameIndex := 7, descriptorIndex := 8, attributes := #[] }, { accessFlags := 9, nameIndex := 90, descriptorIndex := 105, attributes := #[] }, { accessFlags := 9, nameIndex := 380, descriptorIndex := 382, attributes := #[] }] 48 4 #[] #[{ accessFlags := 4120, nameIndex := 121, descriptorIndex := 122, attributes := #[] }])
  fields := #[{ name := "$assertionsDisabled", type := .boolean, accessFlags := 4120, slot := 0, constantValue := 0 }]
  methods := #[k8m0, k8m1, k8m2]
  instanceTypes := #[]
  staticTypes := #[.boolean]
  resolved := Array.replicate 395 none
  statics := none }

def pool9 : Array CpInfo := pool [(1, .methodref 2 3), (0, .class_ 4), (0, .nameAndType 5 6), (0, u "java/lang/Object"), (0, u "<init>"), (0, u "()V"), (0, .class_ 8), (0, u "java/lang/Record")] 13

def k9c0 : Code := { maxStack := 1, maxLocals := 1, code := jdk_30_method_1_code, exceptionTable := #[], attributes := #[] }
def k9m0 : Method := { name := "<init>", desc := "()V", sig := { parameters := [], returnType := none }, accessFlags := 4, code := some k9c0 }
/-- java/lang/Record -/
def k9 : Class := { plain "java/lang/Record" (some 0) with
  accessFlags := 1057
  interfaces := #[]
  cf := some (fileOf pool9 7 #[] #[{ accessFlags := 4, nameIndex := 5, descriptorIndex := 6, attributes := #[] }] 1057 2 #[] #[])
  fields := #[]
  methods := #[k9m0]
  instanceTypes := #[]
  staticTypes := #[]
  resolved := Array.replicate 22 none
  statics := none }

def pool10 : Array CpInfo := pool [(1, .methodref 2 3), (0, .class_ 4), (0, .nameAndType 5 6), (0, u "java/lang/Record"), (0, u "<init>"), (0, u "()V"), (0, .fieldref 8 9), (0, .class_ 10), (0, .nameAndType 11 12), (0, u "com/example/stemline/stemline/dialect/clickhouse/ClickHouseLexer$Token"), (0, u "kind"), (0, u "Lcom/example/stemline/stemline/dialect/clickhouse/ClickHouseLexer$Kind;"), (0, .fieldref 8 14), (0, .nameAndType 15 16), (0, u "value"), (0, u "Ljava/lang/String;"), (0, .fieldref 8 18), (0, .nameAndType 19 20), (0, u "line"), (0, u "I"), (0, .fieldref 8 22), (0, .nameAndType 23 20), (0, u "start"), (0, .fieldref 8 25), (0, .nameAndType 26 20), (0, u "end"), (0, .fieldref 28 29), (0, .class_ 30), (0, .nameAndType 31 12), (0, u "com/example/stemline/stemline/dialect/clickhouse/ClickHouseLexer$Kind"), (0, u "WORD"), (19, .fieldref 28 52), (0, .nameAndType 53 12), (0, u "QUOTED"), (2, u "CLOSING"), (0, u "Ljava/util/Map;"), (11, u "()Z"), (29, u "(Lcom/example/stemline/stemline/dialect/clickhouse/ClickHouseLexer$Kind;Ljava/lang/String;III)V"), (7, u "isName"), (9, .class_ 118), (0, u "com/example/stemline/stemline/dialect/clickhouse/ClickHouseLexer")] 24

def k10c0 : Code := { maxStack := 2, maxLocals := 6, code := prog_17_method_1_code, exceptionTable := #[], attributes := #[] }
def k10m0 : Method := { name := "<init>", desc := "(Lcom/example/stemline/stemline/dialect/clickhouse/ClickHouseLexer$Kind;Ljava/lang/String;III)V", sig := { parameters := [(.object "com/example/stemline/stemline/dialect/clickhouse/ClickHouseLexer$Kind"), (.object "java/lang/String"), .int, .int, .int], returnType := none }, accessFlags := 0, code := some k10c0 }
def k10c1 : Code := { maxStack := 2, maxLocals := 1, code := prog_17_method_4_code, exceptionTable := #[], attributes := #[] }
def k10m1 : Method := { name := "isName", desc := "()Z", sig := { parameters := [], returnType := some .boolean }, accessFlags := 0, code := some k10c1 }
/-- com/example/stemline/stemline/dialect/clickhouse/ClickHouseLexer$Token -/
def k10 : Class := { plain "com/example/stemline/stemline/dialect/clickhouse/ClickHouseLexer$Token" (some 9) with
  accessFlags := 48
  interfaces := #[]
  cf := some (fileOf pool10 8 #[.nestHost 117] #[{ accessFlags := 0, nameIndex := 5, descriptorIndex := 99, attributes := #[] }, { accessFlags := 0, nameIndex := 107, descriptorIndex := 69, attributes := #[] }] 48 2 #[] #[{ accessFlags := 18, nameIndex := 11, descriptorIndex := 12, attributes := #[] }, { accessFlags := 18, nameIndex := 15, descriptorIndex := 16, attributes := #[] }, { accessFlags := 18, nameIndex := 19, descriptorIndex := 20, attributes := #[] }, { accessFlags := 18, nameIndex := 23, descriptorIndex := 20, attributes := #[] }, { accessFlags := 18, nameIndex := 26, descriptorIndex := 20, attributes := #[] }, { accessFlags := 26, nameIndex := 56, descriptorIndex := 57, attributes := #[] }])
  fields := #[{ name := "kind", type := (.object "com/example/stemline/stemline/dialect/clickhouse/ClickHouseLexer$Kind"), accessFlags := 18, slot := 0, constantValue := 0 }, { name := "value", type := (.object "java/lang/String"), accessFlags := 18, slot := 1, constantValue := 0 }, { name := "line", type := .int, accessFlags := 18, slot := 2, constantValue := 0 }, { name := "start", type := .int, accessFlags := 18, slot := 3, constantValue := 0 }, { name := "end", type := .int, accessFlags := 18, slot := 4, constantValue := 0 }, { name := "CLOSING", type := (.object "java/util/Map"), accessFlags := 26, slot := 0, constantValue := 0 }]
  methods := #[k10m0, k10m1]
  instanceTypes := #[(.object "com/example/stemline/stemline/dialect/clickhouse/ClickHouseLexer$Kind"), (.object "java/lang/String"), .int, .int, .int]
  staticTypes := #[(.object "java/util/Map")]
  resolved := Array.replicate 143 none
  statics := none }

def pool11 : Array CpInfo := pool [(2, .class_ 4), (1, u "java/lang/Enum"), (0, u "name"), (0, u "Ljava/lang/String;"), (2, u "ordinal"), (0, u "I"), (1, .class_ 14), (1, u "java/lang/Object"), (4, u "hash"), (86, .class_ 108), (1, u "java/lang/Enum$EnumDesc"), (2, .class_ 112), (0, u "java/lang/constant/Constable"), (0, .class_ 114), (0, u "java/lang/Comparable"), (0, .class_ 116), (0, u "java/io/Serializable")] 87

/-- java/lang/Enum -/
def k11 : Class := { plain "java/lang/Enum" (some 0) with
  accessFlags := 1057
  interfaces := #[5, 3, 2]
  cf := some (fileOf pool11 2 #[.nestMembers #[106]] #[] 1057 12 #[111, 113, 115] #[{ accessFlags := 18, nameIndex := 5, descriptorIndex := 6, attributes := #[] }, { accessFlags := 18, nameIndex := 9, descriptorIndex := 10, attributes := #[] }, { accessFlags := 2, nameIndex := 19, descriptorIndex := 10, attributes := #[] }])
  fields := #[{ name := "name", type := (.object "java/lang/String"), accessFlags := 18, slot := 0, constantValue := 0 }, { name := "ordinal", type := .int, accessFlags := 18, slot := 1, constantValue := 0 }, { name := "hash", type := .int, accessFlags := 2, slot := 2, constantValue := 0 }]
  methods := #[]
  instanceTypes := #[(.object "java/lang/String"), .int, .int]
  staticTypes := #[]
  resolved := Array.replicate 204 none
  statics := none }

def pool12 : Array CpInfo := pool [(1, .class_ 2), (0, u "com/example/stemline/stemline/dialect/clickhouse/ClickHouseLexer$Kind"), (2, u "WORD"), (0, u "Lcom/example/stemline/stemline/dialect/clickhouse/ClickHouseLexer$Kind;"), (2, u "QUOTED"), (2, u "STRING"), (2, u "NUMBER"), (2, u "SYMBOL"), (2, u "COMMENT"), (2, u "$VALUES"), (0, u "[Lcom/example/stemline/stemline/dialect/clickhouse/ClickHouseLexer$Kind;"), (6, .class_ 34), (1, u "java/lang/Enum"), (29, .class_ 65), (0, u "com/example/stemline/stemline/dialect/clickhouse/ClickHouseLexer")] 2

/-- com/example/stemline/stemline/dialect/clickhouse/ClickHouseLexer$Kind -/
def k12 : Class := { plain "com/example/stemline/stemline/dialect/clickhouse/ClickHouseLexer$Kind" (some 11) with
  accessFlags := 16432
  interfaces := #[]
  cf := some (fileOf pool12 1 #[.nestHost 64] #[] 16432 32 #[] #[{ accessFlags := 16409, nameIndex := 5, descriptorIndex := 6, attributes := #[] }, { accessFlags := 16409, nameIndex := 9, descriptorIndex := 6, attributes := #[] }, { accessFlags := 16409, nameIndex := 12, descriptorIndex := 6, attributes := #[] }, { accessFlags := 16409, nameIndex := 15, descriptorIndex := 6, attributes := #[] }, { accessFlags := 16409, nameIndex := 18, descriptorIndex := 6, attributes := #[] }, { accessFlags := 16409, nameIndex := 21, descriptorIndex := 6, attributes := #[] }, { accessFlags := 4122, nameIndex := 24, descriptorIndex := 25, attributes := #[] }])
  fields := #[{ name := "WORD", type := (.object "com/example/stemline/stemline/dialect/clickhouse/ClickHouseLexer$Kind"), accessFlags := 16409, slot := 0, constantValue := 0 }, { name := "QUOTED", type := (.object "com/example/stemline/stemline/dialect/clickhouse/ClickHouseLexer$Kind"), accessFlags := 16409, slot := 1, constantValue := 0 }, { name := "STRING", type := (.object "com/example/stemline/stemline/dialect/clickhouse/ClickHouseLexer$Kind"), accessFlags := 16409, slot := 2, constantValue := 0 }, { name := "NUMBER", type := (.object "com/example/stemline/stemline/dialect/clickhouse/ClickHouseLexer$Kind"), accessFlags := 16409, slot := 3, constantValue := 0 }, { name := "SYMBOL", type := (.object "com/example/stemline/stemline/dialect/clickhouse/ClickHouseLexer$Kind"), accessFlags := 16409, slot := 4, constantValue := 0 }, { name := "COMMENT", type := (.object "com/example/stemline/stemline/dialect/clickhouse/ClickHouseLexer$Kind"), accessFlags := 16409, slot := 5, constantValue := 0 }, { name := "$VALUES", type := (.array (.object "com/example/stemline/stemline/dialect/clickhouse/ClickHouseLexer$Kind")), accessFlags := 4122, slot := 6, constantValue := 0 }]
  methods := #[]
  instanceTypes := #[(.object "java/lang/String"), .int, .int]
  staticTypes := #[(.object "com/example/stemline/stemline/dialect/clickhouse/ClickHouseLexer$Kind"), (.object "com/example/stemline/stemline/dialect/clickhouse/ClickHouseLexer$Kind"), (.object "com/example/stemline/stemline/dialect/clickhouse/ClickHouseLexer$Kind"), (.object "com/example/stemline/stemline/dialect/clickhouse/ClickHouseLexer$Kind"), (.object "com/example/stemline/stemline/dialect/clickhouse/ClickHouseLexer$Kind"), (.object "com/example/stemline/stemline/dialect/clickhouse/ClickHouseLexer$Kind"), (.array (.object "com/example/stemline/stemline/dialect/clickhouse/ClickHouseLexer$Kind"))]
  resolved := Array.replicate 68 none
  statics := some 1 }

def pool13 : Array CpInfo := pool [(2, .class_ 4), (1, u "java/lang/Object"), (0, u "<init>"), (0, u "()V"), (17, .class_ 26), (1, u "jdk/internal/util/Preconditions"), (28, .class_ 56), (0, u "jdk/internal/util/Preconditions$4"), (57, .class_ 115), (0, u "jdk/internal/util/Preconditions$1"), (7, u "SIOOBE_FORMATTER"), (0, u "Ljava/util/function/BiFunction;"), (0, .class_ 126), (0, u "jdk/internal/util/Preconditions$2"), (3, u "AIOOBE_FORMATTER"), (0, .class_ 132), (0, u "jdk/internal/util/Preconditions$3"), (3, u "IOOBE_FORMATTER")] 57

def k13m0 : Method := { name := "<init>", desc := "()V", sig := { parameters := [], returnType := none }, accessFlags := 1, code := none }
/-- jdk/internal/util/Preconditions -/
def k13 : Class := { plain "jdk/internal/util/Preconditions" (some 0) with
  accessFlags := 33
  interfaces := #[]
  cf := some (fileOf pool13 24 #[.nestMembers #[55, 131, 125, 114]] #[{ accessFlags := 1, nameIndex := 5, descriptorIndex := 6, attributes := #[] }] 33 2 #[] #[{ accessFlags := 25, nameIndex := 123, descriptorIndex := 124, attributes := #[] }, { accessFlags := 25, nameIndex := 130, descriptorIndex := 124, attributes := #[] }, { accessFlags := 25, nameIndex := 136, descriptorIndex := 124, attributes := #[] }])
  fields := #[{ name := "SIOOBE_FORMATTER", type := (.object "java/util/function/BiFunction"), accessFlags := 25, slot := 0, constantValue := 0 }, { name := "AIOOBE_FORMATTER", type := (.object "java/util/function/BiFunction"), accessFlags := 25, slot := 1, constantValue := 0 }, { name := "IOOBE_FORMATTER", type := (.object "java/util/function/BiFunction"), accessFlags := 25, slot := 2, constantValue := 0 }]
  methods := #[k13m0]
  instanceTypes := #[]
  staticTypes := #[(.object "java/util/function/BiFunction"), (.object "java/util/function/BiFunction"), (.object "java/util/function/BiFunction")]
  resolved := Array.replicate 194 none
  statics := some 2 }

def pool14 : Array CpInfo := pool [(9, u "<init>"), (6, .class_ 18), (1, u "java/lang/Object"), (0, u "()V"), (1, .class_ 23), (1, u "jdk/internal/util/ArraysSupport"), (0, u "LOG2_ARRAY_LONG_INDEX_SCALE"), (0, u "I"), (2, u "U"), (0, u "Ljdk/internal/misc/Unsafe;"), (8, u "BIG_ENDIAN"), (0, u "Z"), (8, u "LOG2_BYTE_BIT_SIZE"), (4, u "LOG2_ARRAY_INT_INDEX_SCALE"), (54, u "JLA"), (0, u "Ljdk/internal/access/JavaLangAccess;"), (11, u "LOG2_ARRAY_BOOLEAN_INDEX_SCALE"), (9, u "LOG2_ARRAY_BYTE_INDEX_SCALE"), (5, u "LOG2_ARRAY_CHAR_INDEX_SCALE"), (5, u "LOG2_ARRAY_SHORT_INDEX_SCALE"), (18, u "LOG2_ARRAY_FLOAT_INDEX_SCALE"), (24, u "LOG2_ARRAY_DOUBLE_INDEX_SCALE"), (89, u "T_BOOLEAN"), (2, u "T_CHAR"), (1, u "T_FLOAT"), (1, u "T_DOUBLE"), (1, u "T_BYTE"), (1, u "T_SHORT"), (1, u "T_INT"), (1, u "T_LONG"), (1, u "SOFT_MAX_ARRAY_LENGTH")] 83

def k14m0 : Method := { name := "<init>", desc := "()V", sig := { parameters := [], returnType := none }, accessFlags := 2, code := none }
/-- jdk/internal/util/ArraysSupport -/
def k14 : Class := { plain "jdk/internal/util/ArraysSupport" (some 0) with
  accessFlags := 33
  interfaces := #[]
  cf := some (fileOf pool14 21 #[] #[{ accessFlags := 2, nameIndex := 9, descriptorIndex := 19, attributes := #[] }] 33 16 #[] #[{ accessFlags := 24, nameIndex := 28, descriptorIndex := 29, attributes := #[] }, { accessFlags := 26, nameIndex := 38, descriptorIndex := 39, attributes := #[] }, { accessFlags := 25, nameIndex := 121, descriptorIndex := 25, attributes := #[] }, { accessFlags := 25, nameIndex := 131, descriptorIndex := 25, attributes := #[] }, { accessFlags := 25, nameIndex := 137, descriptorIndex := 25, attributes := #[] }, { accessFlags := 25, nameIndex := 143, descriptorIndex := 25, attributes := #[] }, { accessFlags := 25, nameIndex := 53, descriptorIndex := 25, attributes := #[] }, { accessFlags := 25, nameIndex := 24, descriptorIndex := 25, attributes := #[] }, { accessFlags := 25, nameIndex := 162, descriptorIndex := 25, attributes := #[] }, { accessFlags := 25, nameIndex := 187, descriptorIndex := 25, attributes := #[] }, { accessFlags := 26, nameIndex := 48, descriptorIndex := 25, attributes := #[] }, { accessFlags := 25, nameIndex := 277, descriptorIndex := 25, attributes := #[] }, { accessFlags := 25, nameIndex := 280, descriptorIndex := 25, attributes := #[] }, { accessFlags := 25, nameIndex := 282, descriptorIndex := 25, attributes := #[] }, { accessFlags := 25, nameIndex := 284, descriptorIndex := 25, attributes := #[] }, { accessFlags := 25, nameIndex := 286, descriptorIndex := 25, attributes := #[] }, { accessFlags := 25, nameIndex := 288, descriptorIndex := 25, attributes := #[] }, { accessFlags := 25, nameIndex := 290, descriptorIndex := 25, attributes := #[] }, { accessFlags := 25, nameIndex := 292, descriptorIndex := 25, attributes := #[] }, { accessFlags := 26, nameIndex := 108, descriptorIndex := 109, attributes := #[] }, { accessFlags := 25, nameIndex := 294, descriptorIndex := 25, attributes := #[] }])
  fields := #[{ name := "U", type := (.object "jdk/internal/misc/Unsafe"), accessFlags := 24, slot := 0, constantValue := 0 }, { name := "BIG_ENDIAN", type := .boolean, accessFlags := 26, slot := 1, constantValue := 0 }, { name := "LOG2_ARRAY_BOOLEAN_INDEX_SCALE", type := .int, accessFlags := 25, slot := 2, constantValue := 0 }, { name := "LOG2_ARRAY_BYTE_INDEX_SCALE", type := .int, accessFlags := 25, slot := 3, constantValue := 0 }, { name := "LOG2_ARRAY_CHAR_INDEX_SCALE", type := .int, accessFlags := 25, slot := 4, constantValue := 0 }, { name := "LOG2_ARRAY_SHORT_INDEX_SCALE", type := .int, accessFlags := 25, slot := 5, constantValue := 0 }, { name := "LOG2_ARRAY_INT_INDEX_SCALE", type := .int, accessFlags := 25, slot := 6, constantValue := 0 }, { name := "LOG2_ARRAY_LONG_INDEX_SCALE", type := .int, accessFlags := 25, slot := 7, constantValue := 0 }, { name := "LOG2_ARRAY_FLOAT_INDEX_SCALE", type := .int, accessFlags := 25, slot := 8, constantValue := 0 }, { name := "LOG2_ARRAY_DOUBLE_INDEX_SCALE", type := .int, accessFlags := 25, slot := 9, constantValue := 0 }, { name := "LOG2_BYTE_BIT_SIZE", type := .int, accessFlags := 26, slot := 10, constantValue := 0 }, { name := "T_BOOLEAN", type := .int, accessFlags := 25, slot := 11, constantValue := 0 }, { name := "T_CHAR", type := .int, accessFlags := 25, slot := 12, constantValue := 0 }, { name := "T_FLOAT", type := .int, accessFlags := 25, slot := 13, constantValue := 0 }, { name := "T_DOUBLE", type := .int, accessFlags := 25, slot := 14, constantValue := 0 }, { name := "T_BYTE", type := .int, accessFlags := 25, slot := 15, constantValue := 0 }, { name := "T_SHORT", type := .int, accessFlags := 25, slot := 16, constantValue := 0 }, { name := "T_INT", type := .int, accessFlags := 25, slot := 17, constantValue := 0 }, { name := "T_LONG", type := .int, accessFlags := 25, slot := 18, constantValue := 0 }, { name := "JLA", type := (.object "jdk/internal/access/JavaLangAccess"), accessFlags := 26, slot := 19, constantValue := 0 }, { name := "SOFT_MAX_ARRAY_LENGTH", type := .int, accessFlags := 25, slot := 20, constantValue := 0 }]
  methods := #[k14m0]
  instanceTypes := #[]
  staticTypes := #[(.object "jdk/internal/misc/Unsafe"), .boolean, .int, .int, .int, .int, .int, .int, .int, .int, .int, .int, .int, .int, .int, .int, .int, .int, .int, (.object "jdk/internal/access/JavaLangAccess"), .int]
  resolved := Array.replicate 378 none
  statics := none }

def pool15 : Array CpInfo := pool [(1, u "java/lang/Cloneable"), (0, .class_ 1), (0, u "java/lang/Object"), (0, .class_ 3)] 3

/-- java/lang/Cloneable -/
def k15 : Class := { plain "java/lang/Cloneable" (some 0) with
  accessFlags := 1537
  interfaces := #[]
  cf := some (fileOf pool15 2 #[] #[] 1537 4 #[] #[])
  fields := #[]
  methods := #[]
  instanceTypes := #[]
  staticTypes := #[]
  resolved := Array.replicate 8 none
  statics := none }

/-- the primitive byte -/
def k16 : Class := { plain "byte" none with kind := .primitive 'B', accessFlags := 0x411 }
/-- [B -/
def k17 : Class := { plain "[B" (some 0) with kind := .array 16 .byte, interfaces := #[15, 2], accessFlags := 1041 }

/-- the primitive int -/
def k18 : Class := { plain "int" none with kind := .primitive 'I', accessFlags := 0x411 }
/-- [I -/
def k19 : Class := { plain "[I" (some 0) with kind := .array 18 .int, interfaces := #[15, 2], accessFlags := 1041 }

def heap : Heap := #[{ cls := 7, slots := #[.long 0, .int 1, .null, .int 0, .null, .int 0, .int 0], vm := .statics 7 },
  { cls := 12, slots := #[.ref 3, .ref 5, .ref 6, .ref 4, .ref 7, .ref 8, .null], vm := .statics 12 },
  { cls := 13, slots := #[.null, .null, .null], vm := .statics 13 },
  { cls := 12, slots := #[.null, .int 0, .int 0], vm := .none },
  { cls := 12, slots := #[.null, .int 3, .int 0], vm := .none },
  { cls := 12, slots := #[.null, .int 1, .int 0], vm := .none },
  { cls := 12, slots := #[.null, .int 2, .int 0], vm := .none },
  { cls := 12, slots := #[.null, .int 4, .int 0], vm := .none },
  { cls := 12, slots := #[.null, .int 5, .int 0], vm := .none }]
def classes : Array Class := #[k0, k1, k2, k3, k4, k5, k6, k7, k8, k9, k10, k11, k12, k13, k14, k15, k16, k17, k18, k19]
def interned : List (Array UInt16 × Addr) := []
def slotsUsed : Nat := 35
def theMethod : MethodId := ⟨1, 2⟩
def args0 : Array Value := #[.int 1, .int 2, .int 3, .int 4, .int 5]
def aboutOver (below : List Frame) : State where
  vm := { classes := classes, interned := interned.toArray }
  heap := heap
  slotsUsed := slotsUsed
  threads := #[{ frames := .invoking theMethod args0 :: below }]
def below0 : List Frame := [.native { method := ⟨0, 0⟩, args := #[] }]
def about1 : State := aboutOver below0
def p0 : Program := .bare "" "" ""
def e0 : Env := launch0.env 0 0 0
theorem w_frames : about1.frames = Frame.invoking theMethod args0 :: below0 := rfl
set_option maxRecDepth 65536 in
theorem w_args : argsFit about1.vm theMethod args0 = true := by decide +kernel
set_option maxRecDepth 65536 in
theorem w_heap : heapFits about1 = true := by decide +kernel
set_option maxRecDepth 65536 in
theorem w_runnable : about1.curStatus? = some .runnable := by decide +kernel
set_option maxRecDepth 65536 in
theorem w_alone : about1.alone = true := by decide +kernel
set_option maxRecDepth 65536 in
theorem w_named : about1.methodNamed? x = some theMethod := by decide +kernel
set_option maxRecDepth 65536 in
theorem w_hears : about1.hears theMethod below0 = true := by decide +kernel
set_option maxRecDepth 65536 in
theorem w_ripe : about1.ripe theMethod args0 below0 = true := by decide +kernel
theorem w_running : about1.status = .running := rfl
set_option maxRecDepth 65536 in
theorem w_room : about1.hasRoom e0.platform room_1 = true :=
  launch0.hasRoom_least _ room_1 (by decide +kernel) (by decide +kernel) (by decide +kernel) (by decide +kernel) (by decide +kernel) (by decide +kernel)
theorem allAtoms_all (ts : List Jvm.Cond) (a : Array Jvm.Value) (st : Jvm.State) : (allAtoms ts).before a st = ts.all (fun c => c.before a st) := by
  induction ts with
  | nil => rfl
  | cons c t ih =>
    show (Jvm.Cond.and c (allAtoms t)).before a st = _
    rw [Jvm.Cond.before_and, ih, List.all_cons]
def words1 : List Jvm.Cond := Jvm.Cond.code x code maxLocals ret :: tables_1
/-- a 'code' word, met by the world's own term for the bytes: nothing is compared byte by byte -/
theorem code_word {y : MethodName} {bytes : ByteArray} {mx : Nat} {rt : Option FieldType} {a : Array Value} {s : State} {m : MethodId} {meth : Method} {c : Code} (h1 : s.methodNamed? y = some m) (h2 : s.vm.method? m = some meth) (h3 : meth.code = some c) (h4 : c.code = bytes)
    (h5 : (c.maxLocals == mx && c.exceptionTable.isEmpty && decide (c.maxStack ≤ mostOperands) && decide (meth.sig.returnType = rt) && !meth.locks && decide (parseMethodDescriptor y.desc = some meth.sig)) = true) : (Jvm.Cond.code y bytes mx rt).before a s = true := by
  simp only [Bool.and_eq_true, beq_iff_eq, Bool.not_eq_true', decide_eq_true_eq] at h5
  obtain ⟨⟨⟨⟨⟨g1, g2⟩, g3⟩, g4⟩, g5⟩, g6⟩ := h5
  simp [Cond.before, Cond.holds, Cond.value, h1, h2, h3, h4, g1, g2, g3, g4, g5, g6]
def isCode : Jvm.Cond → Bool
  | .code _ _ _ _ => true
  | _ => false
theorem all_split {L : List Jvm.Cond} {P : Jvm.Cond → Bool} (h1 : L.all (fun c => isCode c || P c) = true) (h2 : ∀ c ∈ L.filter isCode, P c = true) : L.all P = true := by
  refine List.all_eq_true.mpr fun c hc => ?_
  have h := List.all_eq_true.mp h1 c hc
  rcases Bool.eq_false_or_eq_true (isCode c) with hi | hi
  · exact h2 c (List.mem_filter.mpr ⟨hc, hi⟩)
  · simpa [hi] using h
set_option maxRecDepth 65536 in
theorem w_c0 : (Jvm.Cond.code x code maxLocals ret).before args0 about1 = true := code_word (m := ⟨1, 2⟩) (meth := k1m2) (c := k1c2) (by decide +kernel) rfl rfl rfl (by decide +kernel)
set_option maxRecDepth 65536 in
theorem w_c1 : (Jvm.Cond.code ({ cls := "java/lang/String", name := "valueOf", desc := "(C)Ljava/lang/String;" } : Jvm.MethodName) jdk_42_method_139_code (1 : Nat) (Option.some (Jvm.ClassFile.FieldType.object "java/lang/String"))).before args0 about1 = true := code_word (m := ⟨7, 1⟩) (meth := k7m1) (c := k7c1) (by decide +kernel) rfl rfl rfl (by decide +kernel)
set_option maxRecDepth 65536 in
theorem w_c2 : (Jvm.Cond.code ({ cls := "java/lang/StringLatin1", name := "canEncode", desc := "(C)Z" } : Jvm.MethodName) jdk_43_method_3_code (1 : Nat) (Option.some Jvm.ClassFile.FieldType.boolean)).before args0 about1 = true := code_word (m := ⟨8, 1⟩) (meth := k8m1) (c := k8c1) (by decide +kernel) rfl rfl rfl (by decide +kernel)
set_option maxRecDepth 65536 in
theorem w_c3 : (Jvm.Cond.code ({ cls := "java/lang/StringLatin1", name := "toBytes", desc := "(C)[B" } : Jvm.MethodName) jdk_43_method_46_code (1 : Nat) (Option.some (Jvm.ClassFile.FieldType.array Jvm.ClassFile.FieldType.byte))).before args0 about1 = true := code_word (m := ⟨8, 2⟩) (meth := k8m2) (c := k8c2) (by decide +kernel) rfl rfl rfl (by decide +kernel)
set_option maxRecDepth 65536 in
theorem w_c4 : (Jvm.Cond.code ({ cls := "java/lang/String", name := "<init>", desc := "([BB)V" } : Jvm.MethodName) jdk_42_method_151_code (3 : Nat) (Option.none : Option Jvm.ClassFile.FieldType)).before args0 about1 = true := code_word (m := ⟨7, 2⟩) (meth := k7m2) (c := k7c2) (by decide +kernel) rfl rfl rfl (by decide +kernel)
set_option maxRecDepth 65536 in
theorem w_c5 : (Jvm.Cond.code ({ cls := "java/lang/Object", name := "<init>", desc := "()V" } : Jvm.MethodName) object_method_1_code (1 : Nat) (Option.none : Option Jvm.ClassFile.FieldType)).before args0 about1 = true := code_word (m := ⟨0, 0⟩) (meth := k0m0) (c := k0c0) (by decide +kernel) rfl rfl rfl (by decide +kernel)
set_option maxRecDepth 65536 in
theorem w_c6 : (Jvm.Cond.code ({ cls := "com/example/stemline/stemline/dialect/clickhouse/TokenIsNamePinLaw", name := "kindOf", desc := "(I)Lcom/example/stemline/stemline/dialect/clickhouse/ClickHouseLexer$Kind;" } : Jvm.MethodName) method_2_code (1 : Nat) (Option.some (Jvm.ClassFile.FieldType.object "com/example/stemline/stemline/dialect/clickhouse/ClickHouseLexer$Kind"))).before args0 about1 = true := code_word (m := ⟨1, 1⟩) (meth := k1m1) (c := k1c1) (by decide +kernel) rfl rfl rfl (by decide +kernel)
set_option maxRecDepth 65536 in
theorem w_c7 : (Jvm.Cond.code ({ cls := "com/example/stemline/stemline/dialect/clickhouse/ClickHouseLexer$Token", name := "<init>", desc := "(Lcom/example/stemline/stemline/dialect/clickhouse/ClickHouseLexer$Kind;Ljava/lang/String;III)V" } : Jvm.MethodName) prog_17_method_1_code (6 : Nat) (Option.none : Option Jvm.ClassFile.FieldType)).before args0 about1 = true := code_word (m := ⟨10, 0⟩) (meth := k10m0) (c := k10c0) (by decide +kernel) rfl rfl rfl (by decide +kernel)
set_option maxRecDepth 65536 in
theorem w_c8 : (Jvm.Cond.code ({ cls := "java/lang/Record", name := "<init>", desc := "()V" } : Jvm.MethodName) jdk_30_method_1_code (1 : Nat) (Option.none : Option Jvm.ClassFile.FieldType)).before args0 about1 = true := code_word (m := ⟨9, 0⟩) (meth := k9m0) (c := k9c0) (by decide +kernel) rfl rfl rfl (by decide +kernel)
set_option maxRecDepth 65536 in
theorem w_c9 : (Jvm.Cond.code ({ cls := "com/example/stemline/stemline/dialect/clickhouse/ClickHouseLexer$Token", name := "isName", desc := "()Z" } : Jvm.MethodName) prog_17_method_4_code (1 : Nat) (Option.some Jvm.ClassFile.FieldType.boolean)).before args0 about1 = true := code_word (m := ⟨10, 1⟩) (meth := k10m1) (c := k10c1) (by decide +kernel) rfl rfl rfl (by decide +kernel)
def codes1 : List Jvm.Cond := [Jvm.Cond.code x code maxLocals ret, Jvm.Cond.code ({ cls := "java/lang/String", name := "valueOf", desc := "(C)Ljava/lang/String;" } : Jvm.MethodName) jdk_42_method_139_code (1 : Nat) (Option.some (Jvm.ClassFile.FieldType.object "java/lang/String")), Jvm.Cond.code ({ cls := "java/lang/StringLatin1", name := "canEncode", desc := "(C)Z" } : Jvm.MethodName) jdk_43_method_3_code (1 : Nat) (Option.some Jvm.ClassFile.FieldType.boolean), Jvm.Cond.code ({ cls := "java/lang/StringLatin1", name := "toBytes", desc := "(C)[B" } : Jvm.MethodName) jdk_43_method_46_code (1 : Nat) (Option.some (Jvm.ClassFile.FieldType.array Jvm.ClassFile.FieldType.byte)), Jvm.Cond.code ({ cls := "java/lang/String", name := "<init>", desc := "([BB)V" } : Jvm.MethodName) jdk_42_method_151_code (3 : Nat) (Option.none : Option Jvm.ClassFile.FieldType), Jvm.Cond.code ({ cls := "java/lang/Object", name := "<init>", desc := "()V" } : Jvm.MethodName) object_method_1_code (1 : Nat) (Option.none : Option Jvm.ClassFile.FieldType), Jvm.Cond.code ({ cls := "com/example/stemline/stemline/dialect/clickhouse/TokenIsNamePinLaw", name := "kindOf", desc := "(I)Lcom/example/stemline/stemline/dialect/clickhouse/ClickHouseLexer$Kind;" } : Jvm.MethodName) method_2_code (1 : Nat) (Option.some (Jvm.ClassFile.FieldType.object "com/example/stemline/stemline/dialect/clickhouse/ClickHouseLexer$Kind")), Jvm.Cond.code ({ cls := "com/example/stemline/stemline/dialect/clickhouse/ClickHouseLexer$Token", name := "<init>", desc := "(Lcom/example/stemline/stemline/dialect/clickhouse/ClickHouseLexer$Kind;Ljava/lang/String;III)V" } : Jvm.MethodName) prog_17_method_1_code (6 : Nat) (Option.none : Option Jvm.ClassFile.FieldType), Jvm.Cond.code ({ cls := "java/lang/Record", name := "<init>", desc := "()V" } : Jvm.MethodName) jdk_30_method_1_code (1 : Nat) (Option.none : Option Jvm.ClassFile.FieldType), Jvm.Cond.code ({ cls := "com/example/stemline/stemline/dialect/clickhouse/ClickHouseLexer$Token", name := "isName", desc := "()Z" } : Jvm.MethodName) prog_17_method_4_code (1 : Nat) (Option.some Jvm.ClassFile.FieldType.boolean)]
set_option maxRecDepth 65536 in
theorem codes_eq : words1.filter isCode = codes1 := rfl
theorem w_codes : ∀ c ∈ words1.filter isCode, c.before args0 about1 = true := by
  rw [codes_eq]
  intro c hc
  simp only [codes1, List.mem_cons, List.not_mem_nil, or_false] at hc
  rcases hc with rfl | rfl | rfl | rfl | rfl | rfl | rfl | rfl | rfl | rfl
  · exact w_c0
  · exact w_c1
  · exact w_c2
  · exact w_c3
  · exact w_c4
  · exact w_c5
  · exact w_c6
  · exact w_c7
  · exact w_c8
  · exact w_c9
set_option maxRecDepth 65536 in
theorem w_t1 : (words1.take 24).all (fun c => isCode c || c.before args0 about1) = true := by decide +kernel
set_option maxRecDepth 65536 in
theorem w_t2 : ((words1.drop 24).take 24).all (fun c => isCode c || c.before args0 about1) = true := by decide +kernel
set_option maxRecDepth 65536 in
theorem w_t3 : (((words1.drop 24).drop 24).take 24).all (fun c => isCode c || c.before args0 about1) = true := by decide +kernel
set_option maxRecDepth 65536 in
theorem w_t4 : (((words1.drop 24).drop 24).drop 24).all (fun c => isCode c || c.before args0 about1) = true := by decide +kernel
theorem w_tables : (allAtoms (Jvm.Cond.code x code maxLocals ret :: tables_1)).before args0 about1 = true := by
  rw [allAtoms_all]
  show words1.all (fun c => c.before args0 about1) = true
  refine all_split ?_ w_codes
  rw [← List.take_append_drop 24 words1, List.all_append, w_t1, ← List.take_append_drop 24 (words1.drop 24), List.all_append, w_t2, ← List.take_append_drop 24 ((words1.drop 24).drop 24), List.all_append, w_t3, w_t4]
  rfl
set_option maxRecDepth 65536 in
theorem w_rest : rest_1_c.before args0 about1 = true := by decide +kernel
set_option maxRecDepth 65536 in
theorem w_case : (Jvm.Cond.and given_1 narrow_1).before args0 about1 = true := by decide +kernel
theorem w_applies : (headSpec (Jvm.Cond.code x code maxLocals ret :: tables_1) room_1).applies x e0.platform about1 = true :=
  (Spec.applies_iff w_frames).mpr ⟨w_running, w_runnable, w_alone, w_named, w_hears, w_ripe, w_room, w_tables⟩
theorem atStart : AtStart classFile x code maxLocals ret World_1 tables_1 room_1 Calls_1 rest_1 Pre_1 launch0 p0 e0 about1 theMethod args0 below0 :=
  ⟨lists_1, trivial, launch0.admits_env _ _ _, launch0.least_env, fairChoices_fair.cas, fairChoices_fair.clock, w_frames, w_args, w_heap, w_applies, trivial, w_rest, w_case⟩
end start1
theorem witness_1 : WitnessClaimed_1 := ⟨start1.p0, start1.e0, start1.about1, start1.theMethod, start1.args0, start1.below0, start1.atStart⟩
end Jvm.Pilot.@@N@@
