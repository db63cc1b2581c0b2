import JvmDerived
import JvmDerived.Pilot.@@N@@Statement
import JvmDerived.Pilot.@@N@@Code
set_option linter.unusedVariables false
set_option linter.unusedSimpArgs false
set_option maxRecDepth 65536
set_option maxHeartbeats 40000000
@@BLOCK:NumsL.lean.txt@@
namespace Jvm.RoadKit
open Sem ClassFile Op Lib Jvm.Stand Jvm.Free Jvm.LawKit
section New
variable {p : Program} {l : Launch} {e : Env} {R : Room} {s : State} {m : MethodId} {args : Array Value} {below : List Frame} {meth : Method} {c : Code} {T : State} {locs : List Loc} {cells slots : Nat}
theorem retI (X : Stand p l e R s m args below meth c T locs cells slots) (hx : p.tables.exec = Jvm.exec) {pc : Nat} {Ls : Array Slot} {z : Int32} {rest : List Value} (hret : meth.sig.returnType = some .int) (hd : decode c.code pc = .ok (.ireturn, 1)) {fs : List Frame}
    (hl : ∀ (f : JFrame) (acts : List Action), f.method = m → f.locked = none → f.entered = [] → (doReturn e (T.setTop f) acts (some (.int z))).1 = T.setFrames fs) : Steps p.tables e below (T.setTop (mkF m pc Ls (.int z :: rest))) (T.setFrames fs) := by
  have hm' : T.vm.method? m = some meth := X.method'
  have hn : narrow .int (.int z) = .int z := rfl
  show Steps p.tables e below (T.setTop { method := m, pc := pc, locals := Ls, stack := _ :: rest, locked := none }) _
  jvm_step X.here [X.here.top, hx, hd, hm', hret, hn]
  first | (intro acts; rw [hl _ acts rfl rfl rfl]) | rw [hl _ _ rfl rfl rfl]
  exact Steps.refl _
end New
end Jvm.RoadKit
namespace Jvm.Pilot.@@N@@
open Jvm Jvm.ClassFile Sem Op Lib Jvm.Free Jvm.Stand Jvm.LawKit Jvm.RoadKit Bundle Jvm.Pilot.@@N@@.Jvm.D
theorem own_eqI {args : Array Value} {s : State} {a : Term} {k : Int32} (h : (Cond.eq a (.int k)).value args s none s [] = some true) : a.eval args s none [] s = some (.int k) := by
  obtain ⟨x, y, hx, hy, k1, k2⟩ := cmp_v (Or.inl h)
  obtain rfl : Value.int k = y := Option.some.inj ((Term.int_eval k).symm.trans hy)
  obtain ⟨z, rfl⟩ : ∃ z, x = .int z := k2
  have hz : z = k := gotT (Cond.eq_ints hx hy) h
  rw [hz] at hx; exact hx
theorem own_eqR {args : Array Value} {s : State} {a b : Term} {y : Addr} (hb : b.eval args s none [] s = some (.ref y)) (h : (Cond.eq a b).value args s none s [] = some true) : a.eval args s none [] s = some (.ref y) := by
  obtain ⟨x, y', hx, hy, k1, k2⟩ := cmp_v (Or.inl h)
  obtain rfl : Value.ref y = y' := Option.some.inj (hb.symm.trans hy)
  have hr : x.isRef = true := k2.2
  have hz : x = .ref y := gotT (eq_R hx hy hr rfl) h
  rw [hz] at hx; exact hx
theorem own_t {a b c : Nat} (h : a < b) (k : b ≤ c) : a < c := Nat.lt_of_lt_of_le h k
theorem own_n {a b c : Nat} (h : a < b) (k : b ≤ c) : a ≠ c := Nat.ne_of_lt (Nat.lt_of_lt_of_le h k)
abbrev vI (x : Int32) : Slot := .val (.int x)
abbrev vJ (x : Int64) : Slot := .val (.long x)
abbrev vR (x : Addr) : Slot := .val (.ref x)
abbrev vN : Slot := .val .null
theorem own_z {Z : State} {n0 : Nat} {h : Heap} (O : Old Z n0 h) : n0 ≤ h.size := O.1 ▸ O.2.1
theorem own_len {args : Array Value} {s : State} {t : Term} {x : Addr} {cl : Cell} {ty : FieldType} {n : Int32} (ev : t.eval args s none [] s = some (.ref x)) (A : Arr s s.heap x cl ty) (h : (Term.length t).eval args s none [] s = some (.int n)) : cl.slots.size < 2 ^ 31 ∧ cl.slots.size.toInt32 = n := by
  have ha : s.arrayAt? x = some cl := IntBox.arrayAt_of A.1 A.2.1 A.2.2
  simpa [Term.eval, ev, ha] using h
theorem own_elem {args : Array Value} {s : State} {t : Term} {x : Addr} {cl : Cell} {ty : FieldType} {j : Int32} {v : Value} {i : Nat} (ev : t.eval args s none [] s = some (.ref x)) (A : Arr s s.heap x cl ty) (h : (Term.elem t (.int j)).eval args s none [] s = some v) (hi : j.toNatClampNeg = i) : cl.slots[i]? = some v := by
  have q := (elem_in h ev (Term.int_eval j) A.1).2
  rw [hi] at q; exact q
def own_ws : List Jvm.Cond := tables_1 ++ jdkStatics_1
theorem gw (i : Nat) {d : Jvm.Cond} (h : own_ws[i]? = some d) : d ∈ own_ws := List.mem_of_getElem? h
abbrev own_HW (Z : State) (a0 : Array Value) : Prop := ∀ d ∈ own_ws, d.before a0 Z = true
section OwnSteps
variable {p : Program} {l : Launch} {e : Env} {R : Room} {s : State} {m : MethodId} {args : Array Value} {below : List Frame} {meth : Method} {c : Code} {T t : State} {locs : List Loc} {cells slots : Nat} {bytes : ByteArray} {pc pc' : Nat} {Ls Ls' : Array Slot} {S : List Value} {x : Int32} {v w : Value} {j : Int64}
theorem o_iload (X : Stand p l e R s m args below meth c T locs cells slots) (hx : p.tables.exec = Jvm.exec) (hby : c.code = bytes) {k : Nat} (hd : decode bytes pc = .ok (.iload k, 2)) (hl : Ls[k]? = some (.val (.int x))) (K : Steps p.tables e below (T.setTop (mkF m (pc + 2) Ls (.int x :: S))) t) : Steps p.tables e below (T.setTop (mkF m pc Ls (S))) t := XS.iload X.here hx rfl (hb hby hd) hl K
theorem o_iloadN (X : Stand p l e R s m args below meth c T locs cells slots) (hx : p.tables.exec = Jvm.exec) (hby : c.code = bytes) {k : Fin 4} (hd : decode bytes pc = .ok (.iload_n k, 1)) (hl : Ls[k.val]? = some (.val (.int x))) (K : Steps p.tables e below (T.setTop (mkF m (pc + 1) Ls (.int x :: S))) t) : Steps p.tables e below (T.setTop (mkF m pc Ls (S))) t := XS.iloadN X.here hx rfl (hb hby hd) hl K
theorem o_aload (X : Stand p l e R s m args below meth c T locs cells slots) (hx : p.tables.exec = Jvm.exec) (hby : c.code = bytes) {k : Nat} (hd : decode bytes pc = .ok (.aload k, 2)) (hl : Ls[k]? = some (.val (v))) (hr : v.isRef = true) (K : Steps p.tables e below (T.setTop (mkF m (pc + 2) Ls (v :: S))) t) : Steps p.tables e below (T.setTop (mkF m pc Ls (S))) t := XS.aload X.here hx rfl (hb hby hd) hl hr K
theorem o_aloadN (X : Stand p l e R s m args below meth c T locs cells slots) (hx : p.tables.exec = Jvm.exec) (hby : c.code = bytes) {k : Fin 4} (hd : decode bytes pc = .ok (.aload_n k, 1)) (hl : Ls[k.val]? = some (.val (v))) (hr : v.isRef = true) (K : Steps p.tables e below (T.setTop (mkF m (pc + 1) Ls (v :: S))) t) : Steps p.tables e below (T.setTop (mkF m pc Ls (S))) t := XS.aloadN X.here hx rfl (hb hby hd) hl hr K
theorem o_istore (X : Stand p l e R s m args below meth c T locs cells slots) (hx : p.tables.exec = Jvm.exec) (hby : c.code = bytes) {k : Nat} (hd : decode bytes pc = .ok (.istore k, 2)) (hl : storeLocals Ls k (.int x) = some Ls') (K : Steps p.tables e below (T.setTop (mkF m (pc + 2) Ls' (S))) t) : Steps p.tables e below (T.setTop (mkF m pc Ls (.int x :: S))) t := XS.istore X.here hx rfl (hb hby hd) rfl (l' := Ls') hl K
theorem o_istoreN (X : Stand p l e R s m args below meth c T locs cells slots) (hx : p.tables.exec = Jvm.exec) (hby : c.code = bytes) {k : Fin 4} (hd : decode bytes pc = .ok (.istore_n k, 1)) (hl : storeLocals Ls k.val (.int x) = some Ls') (K : Steps p.tables e below (T.setTop (mkF m (pc + 1) Ls' (S))) t) : Steps p.tables e below (T.setTop (mkF m pc Ls (.int x :: S))) t := XS.istoreN X.here hx rfl (hb hby hd) rfl (l' := Ls') hl K
theorem o_astore (X : Stand p l e R s m args below meth c T locs cells slots) (hx : p.tables.exec = Jvm.exec) (hby : c.code = bytes) {k : Nat} (hd : decode bytes pc = .ok (.astore k, 2)) (hr : v.isRef = true) (hl : storeLocals Ls k (v) = some Ls') (K : Steps p.tables e below (T.setTop (mkF m (pc + 2) Ls' (S))) t) : Steps p.tables e below (T.setTop (mkF m pc Ls (v :: S))) t := XS.astore X.here hx rfl (hb hby hd) rfl hr (l' := Ls') hl K
theorem o_astoreN (X : Stand p l e R s m args below meth c T locs cells slots) (hx : p.tables.exec = Jvm.exec) (hby : c.code = bytes) {k : Fin 4} (hd : decode bytes pc = .ok (.astore_n k, 1)) (hr : v.isRef = true) (hl : storeLocals Ls k.val (v) = some Ls') (K : Steps p.tables e below (T.setTop (mkF m (pc + 1) Ls' (S))) t) : Steps p.tables e below (T.setTop (mkF m pc Ls (v :: S))) t := XS.astoreN X.here hx rfl (hb hby hd) rfl hr (l' := Ls') hl K
theorem o_iconst (X : Stand p l e R s m args below meth c T locs cells slots) (hx : p.tables.exec = Jvm.exec) (hby : c.code = bytes) {i : Int} (hd : decode bytes pc = .ok (.iconst i, 1)) (hz : Int32.ofInt i = x) (K : Steps p.tables e below (T.setTop (mkF m (pc + 1) Ls (.int x :: S))) t) : Steps p.tables e below (T.setTop (mkF m pc Ls (S))) t := by subst hz; exact XS.iconst X.here hx rfl (hb hby hd) K
theorem o_bipush (X : Stand p l e R s m args below meth c T locs cells slots) (hx : p.tables.exec = Jvm.exec) (hby : c.code = bytes) {i : Int} (hd : decode bytes pc = .ok (.bipush i, 2)) (hz : (Int8.ofInt i).toInt32 = x) (K : Steps p.tables e below (T.setTop (mkF m (pc + 2) Ls (.int x :: S))) t) : Steps p.tables e below (T.setTop (mkF m pc Ls (S))) t := by subst hz; exact XS.bipush X.here hx rfl (hb hby hd) K
theorem o_sipush (X : Stand p l e R s m args below meth c T locs cells slots) (hx : p.tables.exec = Jvm.exec) (hby : c.code = bytes) {i : Int} (hd : decode bytes pc = .ok (.sipush i, 3)) (hz : (Int16.ofInt i).toInt32 = x) (K : Steps p.tables e below (T.setTop (mkF m (pc + 3) Ls (.int x :: S))) t) : Steps p.tables e below (T.setTop (mkF m pc Ls (S))) t := by subst hz; exact XS.sipush X.here hx rfl (hb hby hd) K
theorem o_iinc (X : Stand p l e R s m args below meth c T locs cells slots) (hx : p.tables.exec = Jvm.exec) (hby : c.code = bytes) {k : Nat} {i : Int} {k' z : Int32} (hd : decode bytes pc = .ok (.iinc k i, 3)) (hl : Ls[k]? = some (.val (.int x))) (hk : Int32.ofInt i = k') (hz : x + k' = z) (hs : storeLocals Ls k (.int z) = some Ls') (K : Steps p.tables e below (T.setTop (mkF m (pc + 3) Ls' (S))) t) : Steps p.tables e below (T.setTop (mkF m pc Ls (S))) t := by subst hz; subst hk; exact XS.iinc X.here hx rfl (hb hby hd) hl (l' := Ls') hs K
theorem o_null (X : Stand p l e R s m args below meth c T locs cells slots) (hx : p.tables.exec = Jvm.exec) (hby : c.code = bytes) (hd : decode bytes pc = .ok (.aconst_null, 1)) (K : Steps p.tables e below (T.setTop (mkF m (pc + 1) Ls (.null :: S))) t) : Steps p.tables e below (T.setTop (mkF m pc Ls (S))) t := XS.aconstNull X.here hx rfl (hb hby hd) K
theorem o_dup (X : Stand p l e R s m args below meth c T locs cells slots) (hx : p.tables.exec = Jvm.exec) (hby : c.code = bytes) (hd : decode bytes pc = .ok (.dup, 1)) (hc : v.category = 1) (K : Steps p.tables e below (T.setTop (mkF m (pc + 1) Ls (v :: v :: S))) t) : Steps p.tables e below (T.setTop (mkF m pc Ls (v :: S))) t := XS.dup X.here hx rfl (hb hby hd) rfl hc K
theorem o_pop (X : Stand p l e R s m args below meth c T locs cells slots) (hx : p.tables.exec = Jvm.exec) (hby : c.code = bytes) (hd : decode bytes pc = .ok (.pop, 1)) (hc : v.category = 1) (K : Steps p.tables e below (T.setTop (mkF m (pc + 1) Ls (S))) t) : Steps p.tables e below (T.setTop (mkF m pc Ls (v :: S))) t := XS.pop X.here hx rfl (hb hby hd) rfl hc K
theorem o_goto (X : Stand p l e R s m args below meth c T locs cells slots) (hx : p.tables.exec = Jvm.exec) (hby : c.code = bytes) {o : Int} (hd : decode bytes pc = .ok (.goto o, 3)) (ho : 0 ≤ (pc : Int) + o) (hp : ((pc : Int) + o).toNat = pc') (K : Steps p.tables e below (T.setTop (mkF m pc' Ls (S))) t) : Steps p.tables e below (T.setTop (mkF m pc Ls (S))) t := XS.goto X.here hx rfl (pc0 := pc) (pc' := pc') rfl (hb hby hd) ho hp K
theorem o_iadd (X : Stand p l e R s m args below meth c T locs cells slots) (hx : p.tables.exec = Jvm.exec) (hby : c.code = bytes) {a : Int32} {b : Int32} {z : Int32} (hd : decode bytes pc = .ok (.iadd, 1)) (hz : (a + b) = z) (K : Steps p.tables e below (T.setTop (mkF m (pc + 1) Ls (.int z :: S))) t) : Steps p.tables e below (T.setTop (mkF m pc Ls (.int b :: .int a :: S))) t := by subst hz; exact XS.iadd X.here hx rfl (hb hby hd) rfl K
theorem o_isub (X : Stand p l e R s m args below meth c T locs cells slots) (hx : p.tables.exec = Jvm.exec) (hby : c.code = bytes) {a : Int32} {b : Int32} {z : Int32} (hd : decode bytes pc = .ok (.isub, 1)) (hz : (a - b) = z) (K : Steps p.tables e below (T.setTop (mkF m (pc + 1) Ls (.int z :: S))) t) : Steps p.tables e below (T.setTop (mkF m pc Ls (.int b :: .int a :: S))) t := by subst hz; exact XS.isub X.here hx rfl (hb hby hd) rfl K
theorem o_iand (X : Stand p l e R s m args below meth c T locs cells slots) (hx : p.tables.exec = Jvm.exec) (hby : c.code = bytes) {a : Int32} {b : Int32} {z : Int32} (hd : decode bytes pc = .ok (.iand, 1)) (hz : (a &&& b) = z) (K : Steps p.tables e below (T.setTop (mkF m (pc + 1) Ls (.int z :: S))) t) : Steps p.tables e below (T.setTop (mkF m pc Ls (.int b :: .int a :: S))) t := by subst hz; exact XS.iand X.here hx rfl (hb hby hd) rfl K
theorem o_irem (X : Stand p l e R s m args below meth c T locs cells slots) (hx : p.tables.exec = Jvm.exec) (hby : c.code = bytes) {a : Int32} {b : Int32} {z : Int32} (hd : decode bytes pc = .ok (.irem, 1)) (hn : ¬ (b = 0)) (hz : (a % b) = z) (K : Steps p.tables e below (T.setTop (mkF m (pc + 1) Ls (.int z :: S))) t) : Steps p.tables e below (T.setTop (mkF m pc Ls (.int b :: .int a :: S))) t := by subst hz; exact Jvm.RoadKit.iremM (g := mkF m pc Ls (.int b :: .int a :: S)) X hx rfl (hb hby hd) rfl hn K
theorem o_ishr (X : Stand p l e R s m args below meth c T locs cells slots) (hx : p.tables.exec = Jvm.exec) (hby : c.code = bytes) {a : Int32} {b : Int32} {z : Int32} (hd : decode bytes pc = .ok (.ishr, 1)) (hz : (a >>> (b &&& 31)) = z) (K : Steps p.tables e below (T.setTop (mkF m (pc + 1) Ls (.int z :: S))) t) : Steps p.tables e below (T.setTop (mkF m pc Ls (.int b :: .int a :: S))) t := by subst hz; exact XS.ishr X.here hx rfl (hb hby hd) rfl K
theorem o_iushr (X : Stand p l e R s m args below meth c T locs cells slots) (hx : p.tables.exec = Jvm.exec) (hby : c.code = bytes) {a : Int32} {b : Int32} {z : Int32} (hd : decode bytes pc = .ok (.iushr, 1)) (hz : ((a.toUInt32 >>> (b &&& 31).toUInt32).toInt32) = z) (K : Steps p.tables e below (T.setTop (mkF m (pc + 1) Ls (.int z :: S))) t) : Steps p.tables e below (T.setTop (mkF m pc Ls (.int b :: .int a :: S))) t := by subst hz; exact XS.iushr X.here hx rfl (hb hby hd) rfl K
theorem o_i2b (X : Stand p l e R s m args below meth c T locs cells slots) (hx : p.tables.exec = Jvm.exec) (hby : c.code = bytes) {a : Int32} {z : Int32} (hd : decode bytes pc = .ok (.i2b, 1)) (hz : (a.toInt8.toInt32) = z) (K : Steps p.tables e below (T.setTop (mkF m (pc + 1) Ls (.int z :: S))) t) : Steps p.tables e below (T.setTop (mkF m pc Ls (.int a :: S))) t := by subst hz; exact XS.i2b X.here hx rfl (hb hby hd) rfl K
theorem o_i2c (X : Stand p l e R s m args below meth c T locs cells slots) (hx : p.tables.exec = Jvm.exec) (hby : c.code = bytes) {a : Int32} {z : Int32} (hd : decode bytes pc = .ok (.i2c, 1)) (hz : (a.toUInt32.toUInt16.toUInt32.toInt32) = z) (K : Steps p.tables e below (T.setTop (mkF m (pc + 1) Ls (.int z :: S))) t) : Steps p.tables e below (T.setTop (mkF m pc Ls (.int a :: S))) t := by subst hz; exact XS.i2c X.here hx rfl (hb hby hd) rfl K
theorem o_icmpY (X : Stand p l e R s m args below meth c T locs cells slots) (hx : p.tables.exec = Jvm.exec) (hby : c.code = bytes) {cd : ClassFile.Cond} {o : Int} {a b : Int32} (hd : decode bytes pc = .ok (.if_icmp cd o, 3)) (hc : if_icmp.holds cd a b = true) (ho : 0 ≤ (pc : Int) + o) (hp : ((pc : Int) + o).toNat = pc') (K : Steps p.tables e below (T.setTop (mkF m pc' Ls (S))) t) : Steps p.tables e below (T.setTop (mkF m pc Ls (.int b :: .int a :: S))) t := XS.icmpYes X.here hx rfl (pc0 := pc) (pc' := pc') rfl (hb hby hd) rfl hc ho hp K
theorem o_icmpN (X : Stand p l e R s m args below meth c T locs cells slots) (hx : p.tables.exec = Jvm.exec) (hby : c.code = bytes) {cd : ClassFile.Cond} {o : Int} {a b : Int32} (hd : decode bytes pc = .ok (.if_icmp cd o, 3)) (hc : if_icmp.holds cd a b = false) (K : Steps p.tables e below (T.setTop (mkF m (pc + 3) Ls (S))) t) : Steps p.tables e below (T.setTop (mkF m pc Ls (.int b :: .int a :: S))) t := XS.icmpNo X.here hx rfl (hb hby hd) rfl hc K
theorem o_ifY (X : Stand p l e R s m args below meth c T locs cells slots) (hx : p.tables.exec = Jvm.exec) (hby : c.code = bytes) {cd : ClassFile.Cond} {o : Int} {a : Int32} (hd : decode bytes pc = .ok (.ifCond cd o, 3)) (hc : ifCond.holds cd a = true) (ho : 0 ≤ (pc : Int) + o) (hp : ((pc : Int) + o).toNat = pc') (K : Steps p.tables e below (T.setTop (mkF m pc' Ls (S))) t) : Steps p.tables e below (T.setTop (mkF m pc Ls (.int a :: S))) t := XS.ifYes X.here hx rfl (pc0 := pc) (pc' := pc') rfl (hb hby hd) rfl hc ho hp K
theorem o_ifN (X : Stand p l e R s m args below meth c T locs cells slots) (hx : p.tables.exec = Jvm.exec) (hby : c.code = bytes) {cd : ClassFile.Cond} {o : Int} {a : Int32} (hd : decode bytes pc = .ok (.ifCond cd o, 3)) (hc : ifCond.holds cd a = false) (K : Steps p.tables e below (T.setTop (mkF m (pc + 3) Ls (S))) t) : Steps p.tables e below (T.setTop (mkF m pc Ls (.int a :: S))) t := XS.ifNo X.here hx rfl (hb hby hd) rfl hc K
theorem o_ifnonnullY (X : Stand p l e R s m args below meth c T locs cells slots) (hx : p.tables.exec = Jvm.exec) (hby : c.code = bytes) {o : Int} {b : Addr} (hd : decode bytes pc = .ok (.ifnonnull o, 3)) (ho : 0 ≤ (pc : Int) + o) (hp : ((pc : Int) + o).toNat = pc') (K : Steps p.tables e below (T.setTop (mkF m pc' Ls (S))) t) : Steps p.tables e below (T.setTop (mkF m pc Ls (.ref b :: S))) t := XS.ifnonnullYes X.here hx rfl (pc0 := pc) (pc' := pc') rfl (hb hby hd) rfl ho hp K
end OwnSteps
/-! what every body's theorem says, its head and its calls, said once -/
abbrev own_Met (l : Launch) (Z : State) (y : MethodName) (bytes : ByteArray) (maxL : Nat) (ret : Option FieldType) (rm : Room) (as' : Array Value) (h : Heap) (Q : Option Value → Heap → List Loc → Prop) : Prop :=
  MetFree l y (head1 [Jvm.Cond.code y bytes maxL ret] rm) (fun a U => a = as' ∧ Z.Warmed39 U.vm ∧ U.heap = h) (fun _ _ _ _ _ => True) (fun _ U o U' => ∃ v L, o = .returned v ∧ Q v U'.heap L ∧ FrameEnd U o U' L rm.cells rm.slots)
abbrev own_MetW (l : Launch) (Z : State) (y : MethodName) (bytes : ByteArray) (maxL : Nat) (ret : Option FieldType) (rm : Room) (as' : Array Value) (h : Heap) (Q : Option Value → Heap → List Loc → Prop) : Prop :=
  MetFree l y (head1 [Jvm.Cond.code y bytes maxL ret] rm) (fun a U => a = as' ∧ Z.Warmed39 U.vm ∧ U.heap = h) (fun _ _ _ _ _ => True) (fun _ U o U' => ∃ v L, o = .returned v ∧ Q v U'.heap L ∧ ReturnedEndW U o U' L rm.cells rm.slots)
abbrev own_Ret (e : Env) (T : State) (m : MethodId) (v : Option Value) (fs : List Frame) : Prop := ∀ (f : JFrame) (acts : List Action), f.method = m → f.locked = none → f.entered = [] → (doReturn e (T.setTop f) acts v).1 = T.setFrames fs
theorem own_atH {T : State} {H : Heap} {Q : Option Value → Heap → List Loc → Prop} {v : Option Value} {L : List Loc} (E : T.heap = H) (q : Q v H L) : Q v T.heap L := by rw [E]; exact q
theorem own_body {l : Launch} {Z : State} {y : MethodName} {bytes : ByteArray} {maxL : Nat} {ret : Option FieldType} {rm : Room} {as' : Array Value} {h0 : Heap} {Q : Option Value → Heap → List Loc → Prop} {L0 : Array Slot} {ws : List Jvm.Cond} (hp : plainFor y = true) (hef : ∀ m, entryFrame m as' maxL = mkF m 0 L0 [])
    (H : ∀ (p : Program) (e : Env) (s : State) (m : MethodId) (below : List Frame) (meth : Method) (c : Code) (s₁ EN : State), p.tables.exec = Jvm.exec → c.code = bytes → c.maxLocals = maxL → s.vm.findClass y.cls = some m.cls → meth.name = y.name → meth.sig.returnType = ret → Stand p l e rm s m as' below meth c s₁ [] 0 0 → Z.Warmed39 s.vm → s₁.heap = h0 → s.heap = h0 → (∀ t, Steps p.tables e below (s₁.setTop (mkF m 0 L0 [])) t → Steps p.tables e below EN t) →
      (∀ (v : Option Value) (T : State) (locs : List Loc) (cells slots : Nat), Stand p l e rm s m as' below meth c T locs cells slots → (ret = none → v = none) → (∀ fs, own_Ret e T m v fs → Steps p.tables e below EN (T.setFrames fs)) → Q v T.heap locs → cells ≤ rm.cells → slots ≤ rm.slots → False) → False) :
    MetFree l y (head1 (Jvm.Cond.code y bytes maxL ret :: ws) rm) (fun a U => a = as' ∧ Z.Warmed39 U.vm ∧ U.heap = h0) (fun _ _ _ _ _ => True) (fun _ U o U' => ∃ v L, o = .returned v ∧ Q v U'.heap L ∧ FrameEnd U o U' L rm.cells rm.slots) := by
  refine MetFree.of_bodySF hp hisR ?_
  intro p e s m args below meth c s₁ Bd hml hP hK
  obtain ⟨rfl, hZ, hh⟩ := hP
  refine Classical.byContradiction fun hno => ?_
  have hnm := (name_of_methodNamed Bd.named Bd.method).1
  refine H p e s m below meth c s₁ _ Bd.exec Bd.bytes hml (findClass_of_methodNamed Bd.named) hnm Bd.returns (Stand.of_body Bd) hZ (by rw [← hh, Bd.state]; rfl) hh (fun t k => castTop (hef m) k) ?_
  intro v T locs cells slots X hv hst hQ hc hs
  obtain ⟨fs, hr, hrun, hended, hW, hsame⟩ := X.leave (v := v) (fun q => hv (Bd.returns ▸ q))
  exact hno ⟨_, _, hst fs hr, hrun, hended, _, _, rfl, hQ, ⟨_, rfl⟩, hW, hsame.mono hc hs⟩
theorem own_bodyW {l : Launch} {Z : State} {y : MethodName} {bytes : ByteArray} {maxL : Nat} {ret : Option FieldType} {rm : Room} {as' : Array Value} {h0 : Heap} {Q : Option Value → Heap → List Loc → Prop} {L0 : Array Slot} {ws : List Jvm.Cond} (hp : plainFor y = true) (hef : ∀ m, entryFrame m as' maxL = mkF m 0 L0 [])
    (H : ∀ (p : Program) (e : Env) (s : State) (m : MethodId) (below : List Frame) (meth : Method) (c : Code) (s₁ EN : State), p.tables.exec = Jvm.exec → c.code = bytes → c.maxLocals = maxL → s.vm.findClass y.cls = some m.cls → meth.name = y.name → meth.sig.returnType = ret → Stand p l e rm s m as' below meth c s₁ [] 0 0 → Z.Warmed39 s.vm → s₁.heap = h0 → s.heap = h0 → (∀ t, Steps p.tables e below (s₁.setTop (mkF m 0 L0 [])) t → Steps p.tables e below EN t) →
      (∀ (v : Option Value) (T : State) (locs : List Loc) (cells slots : Nat) (vm : Vm) (n : Nat), Stand p l e rm (s.setVm vm) m as' below meth c T locs cells slots → s.Since vm n → n ≤ T.heap.size → (ret = none → v = none) → (∀ fs, own_Ret e T m v fs → Steps p.tables e below EN (T.setFrames fs)) → Q v T.heap locs → cells ≤ rm.cells → slots ≤ rm.slots → False) → False) :
    MetFree l y (head1 (Jvm.Cond.code y bytes maxL ret :: ws) rm) (fun a U => a = as' ∧ Z.Warmed39 U.vm ∧ U.heap = h0) (fun _ _ _ _ _ => True) (fun _ U o U' => ∃ v L, o = .returned v ∧ Q v U'.heap L ∧ ReturnedEndW U o U' L rm.cells rm.slots) := by
  refine MetFree.of_bodySF hp hisR ?_
  intro p e s m args below meth c s₁ Bd hml hP hK
  obtain ⟨rfl, hZ, hh⟩ := hP
  refine Classical.byContradiction fun hno => ?_
  have hnm := (name_of_methodNamed Bd.named Bd.method).1
  refine H p e s m below meth c s₁ _ Bd.exec Bd.bytes hml (findClass_of_methodNamed Bd.named) hnm Bd.returns (Stand.of_body Bd) hZ (by rw [← hh, Bd.state]; rfl) hh (fun t k => castTop (hef m) k) ?_
  intro v T locs cells slots vm n X hS hn hv hst hQ hc hs
  obtain ⟨fs, hr, hrun, hended, hEnd⟩ := X.leaveW hS hn (v := v) (fun q => hv (Bd.returns ▸ q))
  exact hno ⟨_, _, hst fs hr, hrun, hended, _, _, rfl, hQ, hEnd.1, hEnd.2.1, hEnd.2.2.1, hEnd.2.2.2.mono hc hs⟩
section OwnCalls
variable {p : Program} {l : Launch} {e : Env} {R : Room} {s : State} {m : MethodId} {args : Array Value} {below : List Frame} {meth : Method} {c : Code} {T : State} {locs : List Loc} {cells slots : Nat} {Z : State} {a0 : Array Value} {h : Heap} {own C : String} {index count maxL mL0 pc W : Nat} {y z : MethodName} {bytes : ByteArray} {ret r : Option FieldType} {rm : Room} {as' : Array Value} {Q : Option Value → Heap → List Loc → Prop} {ps : List FieldType} {Ls : Array Slot} {argsL rest : List Value} {b : Addr}
abbrev own_Back (p : Program) (l : Launch) (e : Env) (R : Room) (s : State) (m : MethodId) (args : Array Value) (below : List Frame) (meth : Method) (c : Code) (T : State) (locs : List Loc) (cells slots pc n : Nat) (Ls : Array Slot) (S rest : List Value) (rm : Room) (Q : Option Value → Heap → List Loc → Prop) : Prop :=
  ∃ v T' L', Stand p l e R s m args below meth c T' (locs ++ L') (cells + rm.cells) (slots + rm.slots) ∧ Q v T'.heap L' ∧ ∀ target, Steps p.tables e below (T'.setTop (mkF m (pc + n) Ls (v.toList ++ rest))) target → Steps p.tables e below (T.setTop (mkF m pc Ls S)) target
theorem own_cS (X : Stand p l e R s m args below meth c T locs cells slots) (hx : p.tables.exec = Jvm.exec) (hZ : Z.Warmed39 s.vm) (hown : s.vm.findClass own = some m.cls) (w1 : (Cond.methodLink own index y).before a0 Z = true) (w2 : (Cond.static y).before a0 Z = true) (w3 : (Cond.initialized y.cls).before a0 Z = true) (w4 : (Cond.code y bytes maxL ret).before a0 Z = true)
    (hM : own_Met l Z y bytes maxL ret rm as' h Q) (eT : T.heap = h) (hdd : parseMethodDescriptor y.desc = some ⟨ps, r⟩) (hml : c.maxLocals = mL0) (hdec : decode c.code pc = .ok (.invokestatic index, 3)) (hsz : Ls.size = mL0 := by rfl) (hlen : argsL.length = ps.length := by rfl) (has : argsL.toArray = as' := by rfl) (hW : (rest.map fun v => v.category).sum ≤ W := by exact Nat.le_of_eq rfl)
    (hy : y.cls ≠ "java/lang/invoke/MethodHandle" ∧ y.cls ≠ "java/lang/invoke/VarHandle" := by decide) (hf : rm.frames + 1 ≤ R.frames := by decide) (hl : W + (maxL + 11) + rm.locals ≤ R.locals := by decide) (hc : cells + rm.cells ≤ R.cells := by decide) (hs : slots + rm.slots ≤ R.slots := by decide) :
    own_Back p l e R s m args below meth c T locs cells slots pc 3 Ls (argsL.reverse ++ rest) rest rm Q := by
  obtain ⟨v, _, ⟨T', L', k, n⟩, -, X', ⟨Lc, hQ, e1, e2, e3⟩, st⟩ := Jvm.LawKit.callS X hx (y := y) hown (mvT hZ w1) (mvT hZ w2) (mvT hZ w3) (mvT hZ w4) hy (backOf (W := W) hM hZ w4 w3 hf hl) (g := mkF m pc Ls (argsL.reverse ++ rest)) rfl (by rw [hml]; exact hsz) (argsL := argsL) (rest := rest) (lenOf hdd hlen) rfl (by show 2 * 0 + _ ≤ _; omega) hdec (fun _ _ => ⟨has, eT, hc, hs⟩)
  dsimp only [Pt.U, Pt.locs, Pt.cells, Pt.slots] at X' e1 e2 e3 st hQ
  subst e1 e2 e3
  exact ⟨v, T', Lc, X', hQ, st⟩
theorem own_cI (X : Stand p l e R s m args below meth c T locs cells slots) (hx : p.tables.exec = Jvm.exec) (hZ : Z.Warmed39 s.vm) (hown : s.vm.findClass own = some m.cls) (w1 : (Cond.methodLink own index y).before a0 Z = true) (w2 : (Cond.instanceMethod y).before a0 Z = true) (w3 : (Cond.initialized y.cls).before a0 Z = true) (w4 : (Cond.code y bytes maxL none).before a0 Z = true)
    (hM : own_Met l Z y bytes maxL none rm as' h Q) (eT : T.heap = h) (hdd : parseMethodDescriptor y.desc = some ⟨ps, r⟩) (hml : c.maxLocals = mL0) (hdec : decode c.code pc = .ok (.invokespecial index, 3)) (hni : y.name = "<init>" := by rfl) (hsz : Ls.size = mL0 := by rfl) (hlen : argsL.length = ps.length := by rfl) (has : (.ref b :: argsL).toArray = as' := by rfl) (hW : (rest.map fun v => v.category).sum ≤ W := by exact Nat.le_of_eq rfl)
    (hy : y.cls ≠ "java/lang/invoke/MethodHandle" ∧ y.cls ≠ "java/lang/invoke/VarHandle" := by decide) (hf : rm.frames + 1 ≤ R.frames := by decide) (hl : W + (maxL + 11) + rm.locals ≤ R.locals := by decide) (hc : cells + rm.cells ≤ R.cells := by decide) (hs : slots + rm.slots ≤ R.slots := by decide) :
    own_Back p l e R s m args below meth c T locs cells slots pc 3 Ls (argsL.reverse ++ .ref b :: rest) rest rm Q := by
  obtain ⟨v, _, ⟨T', L', k, n⟩, -, X', ⟨Lc, hQ, e1, e2, e3⟩, st⟩ := X.specialBack hx (y := y) hni hown (mvT hZ w1) (mvT hZ w2) (mvT hZ w4) hy (backOf (W := W) hM hZ w4 w3 hf hl) (g := mkF m pc Ls (argsL.reverse ++ .ref b :: rest)) rfl (by rw [hml]; exact hsz) (Steps.refl _) (a := b) (argsL := argsL) (rest := rest) (lenOf hdd hlen) rfl (by show 2 * 0 + _ ≤ _; omega) hdec (fun _ _ => ⟨has, eT, hc, hs⟩)
  dsimp only [Pt.U, Pt.locs, Pt.cells, Pt.slots] at X' e1 e2 e3 st hQ
  subst e1 e2 e3
  exact ⟨v, T', Lc, X', hQ, fun _ k => st.trans k⟩
theorem own_cV (X : Stand p l e R s m args below meth c T locs cells slots) (hx : p.tables.exec = Jvm.exec) (hZ : Z.Warmed39 s.vm) (hown : s.vm.findClass own = some m.cls) (w1 : (Cond.methodLink own index y).before a0 Z = true) (w2 : (Cond.declares y).before a0 Z = true) (nf : NotFace s y) (w3 : (Cond.selects C y z).before a0 Z = true) (w4 : (Cond.instanceMethod z).before a0 Z = true) (w5 : (Cond.initialized z.cls).before a0 Z = true) (w6 : (Cond.code z bytes maxL ret).before a0 Z = true)
    (E : Exa Z h b C) (hM : own_Met l Z z bytes maxL ret rm as' h Q) (eT : T.heap = h) (hdd : parseMethodDescriptor y.desc = some ⟨ps, r⟩) (hml : c.maxLocals = mL0) (hdec : decode c.code pc = .ok (.invokevirtual index, 3)) (hsz : Ls.size = mL0 := by rfl) (hlen : argsL.length = ps.length := by rfl) (has : (.ref b :: argsL).toArray = as' := by rfl) (hW : (rest.map fun v => v.category).sum ≤ W := by exact Nat.le_of_eq rfl)
    (hy : y.cls ≠ "java/lang/invoke/MethodHandle" ∧ y.cls ≠ "java/lang/invoke/VarHandle" := by decide) (hf : rm.frames + 1 ≤ R.frames := by decide) (hl : W + (maxL + 11) + rm.locals ≤ R.locals := by decide) (hc : cells + rm.cells ≤ R.cells := by decide) (hs : slots + rm.slots ≤ R.slots := by decide) :
    own_Back p l e R s m args below meth c T locs cells slots pc 3 Ls (argsL.reverse ++ .ref b :: rest) rest rm Q := by
  obtain ⟨cq, kq, qa, qb, qc⟩ := isOf hZ eT E
  obtain ⟨v, _, ⟨T', L', k, n⟩, -, X', ⟨Lc, hQ, e1, e2, e3⟩, st⟩ := X.virtualBack hx (y := y) (z := z) hown (mvT hZ w1) (mvT hZ w2) nf (mvT hZ w3) (mvT hZ w4) hy (backOf (W := W) hM hZ w6 w5 hf hl) qa qc (g := mkF m pc Ls (argsL.reverse ++ .ref b :: rest)) rfl (by rw [hml]; exact hsz) (Steps.refl _) (argsL := argsL) (rest := rest) (lenOf hdd hlen) rfl (by show 2 * 0 + _ ≤ _; omega) hdec (fun _ _ => ⟨has, eT, hc, hs⟩)
  dsimp only [Pt.U, Pt.locs, Pt.cells, Pt.slots] at X' e1 e2 e3 st hQ
  subst e1 e2 e3
  exact ⟨v, T', Lc, X', hQ, fun _ k => st.trans k⟩
end OwnCalls
section OwnCallsW
variable {p : Program} {l : Launch} {e : Env} {R : Room} {s : State} {m : MethodId} {args : Array Value} {below : List Frame} {meth : Method} {c : Code} {T : State} {locs : List Loc} {cells slots : Nat} {Z : State} {a0 : Array Value} {h : Heap} {own C : String} {index count maxL mL0 pc W k0 : Nat} {vm0 : Vm} {y z : MethodName} {bytes : ByteArray} {ret r : Option FieldType} {rm : Room} {as' : Array Value} {Q : Option Value → Heap → List Loc → Prop} {ps : List FieldType} {Ls : Array Slot} {argsL rest : List Value} {b : Addr}
abbrev own_BackW (p : Program) (l : Launch) (e : Env) (R : Room) (s : State) (m : MethodId) (args : Array Value) (below : List Frame) (meth : Method) (c : Code) (T : State) (locs : List Loc) (cells slots pc n : Nat) (Ls : Array Slot) (S rest : List Value) (rm : Room) (Q : Option Value → Heap → List Loc → Prop) (Z : State) (own : String) : Prop :=
  ∃ v T' L', Stand p l e R (s.setVm T'.vm) m args below meth c T' (locs ++ L') (cells + rm.cells) (slots + rm.slots) ∧ s.Since T'.vm T'.heap.size ∧ Z.Warmed39 (s.setVm T'.vm).vm ∧ (s.setVm T'.vm).vm.findClass own = some m.cls ∧ Q v T'.heap L' ∧ ∀ target, Steps p.tables e below (T'.setTop (mkF m (pc + n) Ls (v.toList ++ rest))) target → Steps p.tables e below (T.setTop (mkF m pc Ls S)) target
theorem own_cIW (X : Stand p l e R (s.setVm vm0) m args below meth c T locs cells slots) (hx : p.tables.exec = Jvm.exec) (hZ : Z.Warmed39 vm0) (hown : vm0.findClass own = some m.cls) (hS : s.Since vm0 k0) (hk : k0 ≤ h.size) (w1 : (Cond.methodLink own index y).before a0 Z = true) (w2 : (Cond.instanceMethod y).before a0 Z = true) (w3 : (Cond.initialized y.cls).before a0 Z = true) (w4 : (Cond.code y bytes maxL none).before a0 Z = true)
    (hM : own_MetW l Z y bytes maxL none rm as' h Q) (eT : T.heap = h) (hdd : parseMethodDescriptor y.desc = some ⟨ps, r⟩) (hml : c.maxLocals = mL0) (hdec : decode c.code pc = .ok (.invokespecial index, 3)) (hni : y.name = "<init>" := by rfl) (hsz : Ls.size = mL0 := by rfl) (hlen : argsL.length = ps.length := by rfl) (has : (.ref b :: argsL).toArray = as' := by rfl) (hW : (rest.map fun v => v.category).sum ≤ W := by exact Nat.le_of_eq rfl)
    (hy : y.cls ≠ "java/lang/invoke/MethodHandle" ∧ y.cls ≠ "java/lang/invoke/VarHandle" := by decide) (hf : rm.frames + 1 ≤ R.frames := by decide) (hl : W + (maxL + 11) + rm.locals ≤ R.locals := by decide) (hc : cells + rm.cells ≤ R.cells := by decide) (hs : slots + rm.slots ≤ R.slots := by decide) :
    own_BackW p l e R s m args below meth c T locs cells slots pc 3 Ls (argsL.reverse ++ .ref b :: rest) rest rm Q Z own := by
  have hZ' : Z.Warmed39 (s.setVm vm0).vm := hZ
  obtain ⟨v, _, ⟨T', L', k, n⟩, -, X', sn, gr, ⟨Lc, hQ, e1, e2, e3⟩, st⟩ := X.specialBackS hx (y := y) hni hown (mvT hZ' w1) (mvT hZ' w2) (mvT hZ' w4) hy (backOfS (W := W) hM hZ' w4 w3 hf hl) (g := mkF m pc Ls (argsL.reverse ++ .ref b :: rest)) rfl (by rw [hml]; exact hsz) (Steps.refl _) (a := b) (argsL := argsL) (rest := rest) (lenOf hdd hlen) rfl (by show 2 * 0 + _ ≤ _; omega) hdec (fun _ _ => ⟨has, eT, hc, hs⟩)
  dsimp only [Pt.U, Pt.locs, Pt.cells, Pt.slots] at X' e1 e2 e3 st hQ sn gr
  subst e1 e2 e3
  rw [eT] at gr
  exact ⟨v, T', Lc, X', hS.trans sn (Nat.le_trans hk gr), State.Warmed39.trans (t := s.setVm vm0) hZ sn.1, by rw [show (s.setVm T'.vm).vm = T'.vm from rfl, sn.1.alike.findClass]; exact hown, hQ, fun _ k => st.trans k⟩
end OwnCallsW
theorem own_wS {Z : State} {a0 : Array Value} (hw : ∀ d ∈ own_ws, d.before a0 Z = true) : ∀ a ∈ Bundle.stringAtoms, a.before a0 Z = true := fun a ha => by
  simp only [Bundle.stringAtoms, List.mem_cons, List.not_mem_nil, or_false] at ha
  rcases ha with rfl | rfl | rfl | rfl | rfl | rfl | rfl
  · exact hw _ (gw 2 rfl)
  · exact hw _ (gw 1 rfl)
  · exact hw _ (gw 23 rfl)
  · exact hw _ (gw 33 rfl)
  · exact hw _ (gw 31 rfl)
  · exact hw _ (gw 47 rfl)
  · exact hw _ (gw 48 rfl)
theorem own_notCast {Z : State} {a0 : Array Value} {C S K : String} {n : Nat} (w : (Cond.superclass C S).before a0 Z = true) (w2 : (Cond.noSuperclass S).before a0 Z = true) (wi : (Cond.instantiable K n).before a0 Z = true) (h1 : C ≠ K) (h2 : S ≠ K) : ∃ c t, Z.vm.findClass C = some c ∧ Z.vm.findClass K = some t ∧ Z.vm.assignable c t = false := by
  obtain ⟨t, k, g1, g2, g3, g4, -, -⟩ := Cond.instantiable_spec wi
  obtain ⟨o, ko, a1, a2, a3, -, -⟩ := Cond.noSuperclass_spec w2
  have ne1 := ids_ne a1 g1 h2
  have nsO : NS Z S K := ⟨o, t, a1, g1, fun fuel => by
    cases fuel with
    | zero => rfl
    | succ f => simp [Vm.isSubclassAux, ne1, a2, a3]⟩
  obtain ⟨c, t', b1, b2, b3⟩ := NS.step w nsO h1
  cases g1.symm.trans b2
  obtain ⟨p, k1, kp, d1, d2, d3, d4, d5, -, d7⟩ := Cond.superclass_spec b1 w
  have ne2 := ids_ne b1 g1 h1
  have g5 : k.isInterface = false := by
    cases hq : k.isInterface with
    | false => rfl
    | true => rw [hq] at g4; cases g4
  refine ⟨c, t, b1, g1, ?_⟩
  show Z.vm.assignableAux (255 + 1) c t = false
  simp [Vm.assignableAux, ne2, d2, g2, d5, g3, g5, Vm.isSubclass, b3]
section OwnW
variable {Z : State} {a0 : Array Value}
def ww111 (hw : own_HW Z a0) := hw _ (gw 111 rfl)
def ww118 (hw : own_HW Z a0) := hw _ (gw 118 rfl)
def ww0 (hw : own_HW Z a0) := hw _ (gw 0 rfl)
def ww1 (hw : own_HW Z a0) := hw _ (gw 1 rfl)
def ww2 (hw : own_HW Z a0) := hw _ (gw 2 rfl)
def ww31 (hw : own_HW Z a0) := hw _ (gw 31 rfl)
def ww33 (hw : own_HW Z a0) := hw _ (gw 33 rfl)
def ww3 (hw : own_HW Z a0) := hw _ (gw 3 rfl)
def ww7 (hw : own_HW Z a0) := hw _ (gw 7 rfl)
def ww6 (hw : own_HW Z a0) := hw _ (gw 6 rfl)
def ww5 (hw : own_HW Z a0) := hw _ (gw 5 rfl)
def ww4 (hw : own_HW Z a0) := hw _ (gw 4 rfl)
def ww8 (hw : own_HW Z a0) := hw _ (gw 8 rfl)
def ww11 (hw : own_HW Z a0) := hw _ (gw 11 rfl)
def ww15 (hw : own_HW Z a0) := hw _ (gw 15 rfl)
def ww17 (hw : own_HW Z a0) := hw _ (gw 17 rfl)
def ww16 (hw : own_HW Z a0) := hw _ (gw 16 rfl)
def ww18 (hw : own_HW Z a0) := hw _ (gw 18 rfl)
def ww19 (hw : own_HW Z a0) := hw _ (gw 19 rfl)
def ww23 (hw : own_HW Z a0) := hw _ (gw 23 rfl)
def ww24 (hw : own_HW Z a0) := hw _ (gw 24 rfl)
def ww26 (hw : own_HW Z a0) := hw _ (gw 26 rfl)
def ww21 (hw : own_HW Z a0) := hw _ (gw 21 rfl)
def ww25 (hw : own_HW Z a0) := hw _ (gw 25 rfl)
def ww22 (hw : own_HW Z a0) := hw _ (gw 22 rfl)
def ww20 (hw : own_HW Z a0) := hw _ (gw 20 rfl)
def ww27 (hw : own_HW Z a0) := hw _ (gw 27 rfl)
def ww29 (hw : own_HW Z a0) := hw _ (gw 29 rfl)
def ww28 (hw : own_HW Z a0) := hw _ (gw 28 rfl)
def ww30 (hw : own_HW Z a0) := hw _ (gw 30 rfl)
def ww32 (hw : own_HW Z a0) := hw _ (gw 32 rfl)
def ww14 (hw : own_HW Z a0) := hw _ (gw 14 rfl)
def ww12 (hw : own_HW Z a0) := hw _ (gw 12 rfl)
def ww10 (hw : own_HW Z a0) := hw _ (gw 10 rfl)
def ww9 (hw : own_HW Z a0) := hw _ (gw 9 rfl)
def ww34 (hw : own_HW Z a0) := hw _ (gw 34 rfl)
def ww35 (hw : own_HW Z a0) := hw _ (gw 35 rfl)
def ww36 (hw : own_HW Z a0) := hw _ (gw 36 rfl)
def ww92 (hw : own_HW Z a0) := hw _ (gw 92 rfl)
def ww37 (hw : own_HW Z a0) := hw _ (gw 37 rfl)
def ww40 (hw : own_HW Z a0) := hw _ (gw 40 rfl)
def ww45 (hw : own_HW Z a0) := hw _ (gw 45 rfl)
def ww44 (hw : own_HW Z a0) := hw _ (gw 44 rfl)
def ww43 (hw : own_HW Z a0) := hw _ (gw 43 rfl)
def ww41 (hw : own_HW Z a0) := hw _ (gw 41 rfl)
def ww46 (hw : own_HW Z a0) := hw _ (gw 46 rfl)
def ww49 (hw : own_HW Z a0) := hw _ (gw 49 rfl)
def ww52 (hw : own_HW Z a0) := hw _ (gw 52 rfl)
def ww51 (hw : own_HW Z a0) := hw _ (gw 51 rfl)
def ww50 (hw : own_HW Z a0) := hw _ (gw 50 rfl)
def ww53 (hw : own_HW Z a0) := hw _ (gw 53 rfl)
def ww56 (hw : own_HW Z a0) := hw _ (gw 56 rfl)
def ww61 (hw : own_HW Z a0) := hw _ (gw 61 rfl)
def ww65 (hw : own_HW Z a0) := hw _ (gw 65 rfl)
def ww64 (hw : own_HW Z a0) := hw _ (gw 64 rfl)
def ww62 (hw : own_HW Z a0) := hw _ (gw 62 rfl)
def ww63 (hw : own_HW Z a0) := hw _ (gw 63 rfl)
def ww60 (hw : own_HW Z a0) := hw _ (gw 60 rfl)
def ww59 (hw : own_HW Z a0) := hw _ (gw 59 rfl)
def ww57 (hw : own_HW Z a0) := hw _ (gw 57 rfl)
def ww58 (hw : own_HW Z a0) := hw _ (gw 58 rfl)
def ww66 (hw : own_HW Z a0) := hw _ (gw 66 rfl)
def ww71 (hw : own_HW Z a0) := hw _ (gw 71 rfl)
def ww75 (hw : own_HW Z a0) := hw _ (gw 75 rfl)
def ww74 (hw : own_HW Z a0) := hw _ (gw 74 rfl)
def ww72 (hw : own_HW Z a0) := hw _ (gw 72 rfl)
def ww73 (hw : own_HW Z a0) := hw _ (gw 73 rfl)
def ww76 (hw : own_HW Z a0) := hw _ (gw 76 rfl)
def ww80 (hw : own_HW Z a0) := hw _ (gw 80 rfl)
def ww83 (hw : own_HW Z a0) := hw _ (gw 83 rfl)
def ww85 (hw : own_HW Z a0) := hw _ (gw 85 rfl)
def ww87 (hw : own_HW Z a0) := hw _ (gw 87 rfl)
def ww84 (hw : own_HW Z a0) := hw _ (gw 84 rfl)
def ww86 (hw : own_HW Z a0) := hw _ (gw 86 rfl)
def ww82 (hw : own_HW Z a0) := hw _ (gw 82 rfl)
def ww81 (hw : own_HW Z a0) := hw _ (gw 81 rfl)
def ww79 (hw : own_HW Z a0) := hw _ (gw 79 rfl)
def ww78 (hw : own_HW Z a0) := hw _ (gw 78 rfl)
def ww77 (hw : own_HW Z a0) := hw _ (gw 77 rfl)
def ww70 (hw : own_HW Z a0) := hw _ (gw 70 rfl)
def ww69 (hw : own_HW Z a0) := hw _ (gw 69 rfl)
def ww67 (hw : own_HW Z a0) := hw _ (gw 67 rfl)
def ww68 (hw : own_HW Z a0) := hw _ (gw 68 rfl)
def ww55 (hw : own_HW Z a0) := hw _ (gw 55 rfl)
def ww54 (hw : own_HW Z a0) := hw _ (gw 54 rfl)
def ww88 (hw : own_HW Z a0) := hw _ (gw 88 rfl)
def ww90 (hw : own_HW Z a0) := hw _ (gw 90 rfl)
def ww89 (hw : own_HW Z a0) := hw _ (gw 89 rfl)
def ww91 (hw : own_HW Z a0) := hw _ (gw 91 rfl)
def ww39 (hw : own_HW Z a0) := hw _ (gw 39 rfl)
def ww38 (hw : own_HW Z a0) := hw _ (gw 38 rfl)
def ww93 (hw : own_HW Z a0) := hw _ (gw 93 rfl)
def ww98 (hw : own_HW Z a0) := hw _ (gw 98 rfl)
def ww100 (hw : own_HW Z a0) := hw _ (gw 100 rfl)
def ww105 (hw : own_HW Z a0) := hw _ (gw 105 rfl)
def ww106 (hw : own_HW Z a0) := hw _ (gw 106 rfl)
def ww108 (hw : own_HW Z a0) := hw _ (gw 108 rfl)
def ww107 (hw : own_HW Z a0) := hw _ (gw 107 rfl)
def ww104 (hw : own_HW Z a0) := hw _ (gw 104 rfl)
def ww103 (hw : own_HW Z a0) := hw _ (gw 103 rfl)
def ww101 (hw : own_HW Z a0) := hw _ (gw 101 rfl)
def ww102 (hw : own_HW Z a0) := hw _ (gw 102 rfl)
def ww97 (hw : own_HW Z a0) := hw _ (gw 97 rfl)
def ww96 (hw : own_HW Z a0) := hw _ (gw 96 rfl)
def ww94 (hw : own_HW Z a0) := hw _ (gw 94 rfl)
def ww95 (hw : own_HW Z a0) := hw _ (gw 95 rfl)
def ww109 (hw : own_HW Z a0) := hw _ (gw 109 rfl)
def ww110 (hw : own_HW Z a0) := hw _ (gw 110 rfl)
end OwnW
theorem own_and3 (x : Int32) : x &&& 3 = 0 ∨ x &&& 3 = 1 ∨ x &&& 3 = 2 ∨ x &&& 3 = 3 := by
  have h := Jvm.Kit.i32_mask x 3 (k := 2) (by decide) (by decide +kernel)
  have e0 : (0 : Int32).toInt = 0 := by decide +kernel
  have e1 : (1 : Int32).toInt = 1 := by decide +kernel
  have e2 : (2 : Int32).toInt = 2 := by decide +kernel
  have e3 : (3 : Int32).toInt = 3 := by decide +kernel
  simp only [← Int32.toInt_inj, e0, e1, e2, e3]
  omega
theorem own_m3 {y x : Int32} (h : y = x &&& 3) : y % 3 = 0 ∨ y % 3 = 1 ∨ y % 3 = 2 := by
  subst h
  rcases own_and3 x with h | h | h | h <;> rw [h] <;> decide +kernel
theorem own_nar255 {y x : Int32} (h : y = x &&& 255) : nar .char y = y := by subst h; exact i2c_mask x
theorem own_i2c255 {y x : Int32} (h : y = x &&& 255) : y.toUInt32.toUInt16.toUInt32.toInt32 = y := by subst h; exact i2c_mask x
theorem own_lt255 {y x : Int32} (h : y = x &&& 255) : ¬ ((255 : Int32) < y) := by
  subst h
  have h := Jvm.Kit.i32_mask x 255 (k := 8) (by decide) (by decide +kernel)
  have e : (255 : Int32).toInt = 255 := by decide +kernel
  rw [Int32.lt_iff_toInt_lt, e]; omega
theorem own_i2b2 {y x : Int32} (h : y = x.toInt8.toInt32) : y.toInt8.toInt32 = y := by
  subst h; rw [Int8.toInt8_toInt32]
theorem own_b255 {b y x : Int32} (hb : b = y.toInt8.toInt32) (h : y = x &&& 255) : b &&& 255 = y := by
  subst hb
  have h1 := Jvm.Kit.i32_mask (y.toInt8.toInt32) 255 (k := 8) (by decide) (by decide +kernel)
  have h2 := Jvm.Kit.i32_mask x 255 (k := 8) (by decide) (by decide +kernel)
  rw [← h] at h2
  have h3 : y.toInt8.toInt32.toInt = y.toInt.bmod 256 := by rw [Int8.toInt_toInt32, Int32.toInt_toInt8]
  rw [← Int32.toInt_inj, h1, h3, Int.bmod_def]
  split <;> omega
theorem own_beq {b c y z u v : Int32} (h1 : b = y.toInt8.toInt32) (h2 : c = z.toInt8.toInt32) (h : y = z) : b = c := by rw [h1, h2, h]
theorem own_bne {b c y z u v : Int32} (h1 : b = y.toInt8.toInt32) (h2 : c = z.toInt8.toInt32) (m1 : y = u &&& 255) (m2 : z = v &&& 255) (h : ¬ y = z) : ¬ b = c := fun q => h (by rw [← own_b255 h1 m1, ← own_b255 h2 m2, q])
theorem own_ltk {y x k : Int32} (h : y = x &&& 255) (hk : 255 < k.toInt) : y < k := by
  subst h
  have h := Jvm.Kit.i32_mask x 255 (k := 8) (by decide) (by decide +kernel)
  rw [Int32.lt_iff_toInt_lt]; omega
abbrev C_0 : String := "java/lang/String"
abbrev bc1 : ByteArray := method_2_code
theorem d1_0 : decode bc1 0 = .ok (.iload_n 0, 1) := by decide +kernel
theorem d1_1 : decode bc1 1 = .ok (.newarray .char, 2) := by decide +kernel
theorem d1_3 : decode bc1 3 = .ok (.astore 4, 2) := by decide +kernel
theorem d1_5 : decode bc1 5 = .ok (.aload 4, 2) := by decide +kernel
theorem d1_7 : decode bc1 7 = .ok (.iconst 0, 1) := by decide +kernel
theorem d1_8 : decode bc1 8 = .ok (.iload_n 1, 1) := by decide +kernel
theorem d1_9 : decode bc1 9 = .ok (.castore, 1) := by decide +kernel
theorem d1_10 : decode bc1 10 = .ok (.iload_n 0, 1) := by decide +kernel
theorem d1_11 : decode bc1 11 = .ok (.iconst 1, 1) := by decide +kernel
theorem d1_12 : decode bc1 12 = .ok (.if_icmp .le 8, 3) := by decide +kernel
theorem d1_20 : decode bc1 20 = .ok (.iload_n 0, 1) := by decide +kernel
theorem d1_21 : decode bc1 21 = .ok (.iconst 2, 1) := by decide +kernel
theorem d1_22 : decode bc1 22 = .ok (.if_icmp .le 8, 3) := by decide +kernel
theorem d1_30 : decode bc1 30 = .ok (.aload 4, 2) := by decide +kernel
theorem d1_32 : decode bc1 32 = .ok (.areturn, 1) := by decide +kernel
abbrev M_0 : MethodName := ⟨"com/example/ringstead/ringstead/store/KeyEqualsPinLaw", "chars", "(ICCC)[C"⟩
theorem pn_0 : plainName "com/example/ringstead/ringstead/store/KeyEqualsPinLaw" = true := by first | (simp [plainName, overriddenIn]; done) | decide +kernel
theorem pd_0 : parseMethodDescriptor "(ICCC)[C" = some ⟨[.int, .char, .char, .char], some (.array .char)⟩ := by decide +kernel
abbrev bc2 : ByteArray := jdk_42_method_3_code
theorem d2_0 : decode bc2 0 = .ok (.aload_n 0, 1) := by decide +kernel
theorem d2_1 : decode bc2 1 = .ok (.aload_n 1, 1) := by decide +kernel
theorem d2_2 : decode bc2 2 = .ok (.iconst 0, 1) := by decide +kernel
theorem d2_3 : decode bc2 3 = .ok (.aload_n 1, 1) := by decide +kernel
theorem d2_4 : decode bc2 4 = .ok (.arraylength, 1) := by decide +kernel
theorem d2_5 : decode bc2 5 = .ok (.aconst_null, 1) := by decide +kernel
theorem d2_6 : decode bc2 6 = .ok (.invokespecial 27, 3) := by decide +kernel
abbrev bc3 : ByteArray := jdk_42_method_149_code
theorem d3_0 : decode bc3 0 = .ok (.aload_n 0, 1) := by decide +kernel
theorem d3_1 : decode bc3 1 = .ok (.invokespecial 1, 3) := by decide +kernel
theorem d3_4 : decode bc3 4 = .ok (.iload_n 3, 1) := by decide +kernel
theorem d3_5 : decode bc3 5 = .ok (.ifCond .ne 22, 3) := by decide +kernel
theorem d3_27 : decode bc3 27 = .ok (.getstatic 38, 3) := by decide +kernel
theorem d3_30 : decode bc3 30 = .ok (.ifCond .eq 28, 3) := by decide +kernel
theorem d3_33 : decode bc3 33 = .ok (.aload_n 1, 1) := by decide +kernel
theorem d3_34 : decode bc3 34 = .ok (.iload_n 2, 1) := by decide +kernel
theorem d3_35 : decode bc3 35 = .ok (.iload_n 3, 1) := by decide +kernel
theorem d3_36 : decode bc3 36 = .ok (.invokestatic 177, 3) := by decide +kernel
abbrev bc5 : ByteArray := jdk_52_method_16_code
theorem d5_0 : decode bc5 0 = .ok (.iload_n 2, 1) := by decide +kernel
theorem d5_1 : decode bc5 1 = .ok (.newarray .byte, 2) := by decide +kernel
theorem d5_3 : decode bc5 3 = .ok (.astore_n 3, 1) := by decide +kernel
theorem d5_4 : decode bc5 4 = .ok (.aload_n 0, 1) := by decide +kernel
theorem d5_5 : decode bc5 5 = .ok (.iload_n 1, 1) := by decide +kernel
theorem d5_6 : decode bc5 6 = .ok (.aload_n 3, 1) := by decide +kernel
theorem d5_7 : decode bc5 7 = .ok (.iconst 0, 1) := by decide +kernel
theorem d5_8 : decode bc5 8 = .ok (.iload_n 2, 1) := by decide +kernel
theorem d5_9 : decode bc5 9 = .ok (.invokestatic 115, 3) := by decide +kernel
abbrev bc6 : ByteArray := jdk_52_method_21_code
theorem d6_0 : decode bc6 0 = .ok (.iconst 0, 1) := by decide +kernel
theorem d6_1 : decode bc6 1 = .ok (.istore 5, 2) := by decide +kernel
theorem d6_3 : decode bc6 3 = .ok (.iload 5, 2) := by decide +kernel
theorem d6_5 : decode bc6 5 = .ok (.iload 4, 2) := by decide +kernel
theorem d6_7 : decode bc6 7 = .ok (.if_icmp .ge 37, 3) := by decide +kernel
theorem d6_10 : decode bc6 10 = .ok (.aload_n 0, 1) := by decide +kernel
theorem d6_11 : decode bc6 11 = .ok (.iload_n 1, 1) := by decide +kernel
theorem d6_12 : decode bc6 12 = .ok (.caload, 1) := by decide +kernel
theorem d6_13 : decode bc6 13 = .ok (.istore 6, 2) := by decide +kernel
theorem d6_15 : decode bc6 15 = .ok (.iload 6, 2) := by decide +kernel
theorem d6_17 : decode bc6 17 = .ok (.sipush 255, 3) := by decide +kernel
theorem d6_20 : decode bc6 20 = .ok (.if_icmp .le 6, 3) := by decide +kernel
theorem d6_26 : decode bc6 26 = .ok (.aload_n 2, 1) := by decide +kernel
theorem d6_27 : decode bc6 27 = .ok (.iload_n 3, 1) := by decide +kernel
theorem d6_28 : decode bc6 28 = .ok (.iload 6, 2) := by decide +kernel
theorem d6_30 : decode bc6 30 = .ok (.i2b, 1) := by decide +kernel
theorem d6_31 : decode bc6 31 = .ok (.bastore, 1) := by decide +kernel
theorem d6_32 : decode bc6 32 = .ok (.iinc 1 1, 3) := by decide +kernel
theorem d6_35 : decode bc6 35 = .ok (.iinc 3 1, 3) := by decide +kernel
theorem d6_38 : decode bc6 38 = .ok (.iinc 5 1, 3) := by decide +kernel
theorem d6_41 : decode bc6 41 = .ok (.goto (-38), 3) := by decide +kernel
theorem d6_44 : decode bc6 44 = .ok (.iload 4, 2) := by decide +kernel
theorem d6_46 : decode bc6 46 = .ok (.ireturn, 1) := by decide +kernel
abbrev M_1 : MethodName := ⟨"java/lang/StringUTF16", "compress", "([CI[BII)I"⟩
theorem pn_1 : plainName "java/lang/StringUTF16" = true := by first | (simp [plainName, overriddenIn]; done) | decide +kernel
theorem pd_1 : parseMethodDescriptor "([CI[BII)I" = some ⟨[(.array .char), .int, (.array .byte), .int, .int], some .int⟩ := by decide +kernel
theorem d5_12 : decode bc5 12 = .ok (.istore 4, 2) := by decide +kernel
theorem d5_14 : decode bc5 14 = .ok (.iload 4, 2) := by decide +kernel
theorem d5_16 : decode bc5 16 = .ok (.iload_n 2, 1) := by decide +kernel
theorem d5_17 : decode bc5 17 = .ok (.if_icmp .eq 40, 3) := by decide +kernel
theorem d5_57 : decode bc5 57 = .ok (.aload_n 3, 1) := by decide +kernel
theorem d5_58 : decode bc5 58 = .ok (.areturn, 1) := by decide +kernel
abbrev M_2 : MethodName := ⟨"java/lang/StringUTF16", "compress", "([CII)[B"⟩
theorem pd_2 : parseMethodDescriptor "([CII)[B" = some ⟨[(.array .char), .int, .int], some (.array .byte)⟩ := by decide +kernel
theorem d3_39 : decode bc3 39 = .ok (.astore 5, 2) := by decide +kernel
theorem d3_41 : decode bc3 41 = .ok (.aload_n 0, 1) := by decide +kernel
theorem d3_42 : decode bc3 42 = .ok (.aload 5, 2) := by decide +kernel
theorem d3_44 : decode bc3 44 = .ok (.iload_n 3, 1) := by decide +kernel
theorem d3_45 : decode bc3 45 = .ok (.invokestatic 47, 3) := by decide +kernel
abbrev bc7 : ByteArray := jdk_52_method_15_code
theorem d7_0 : decode bc7 0 = .ok (.iload_n 1, 1) := by decide +kernel
theorem d7_1 : decode bc7 1 = .ok (.aload_n 0, 1) := by decide +kernel
theorem d7_2 : decode bc7 2 = .ok (.arraylength, 1) := by decide +kernel
theorem d7_3 : decode bc7 3 = .ok (.isub, 1) := by decide +kernel
theorem d7_4 : decode bc7 4 = .ok (.bipush 31, 2) := by decide +kernel
theorem d7_6 : decode bc7 6 = .ok (.iushr, 1) := by decide +kernel
theorem d7_7 : decode bc7 7 = .ok (.i2b, 1) := by decide +kernel
theorem d7_8 : decode bc7 8 = .ok (.ireturn, 1) := by decide +kernel
abbrev M_3 : MethodName := ⟨"java/lang/StringUTF16", "coderFromArrayLen", "([BI)B"⟩
theorem pd_3 : parseMethodDescriptor "([BI)B" = some ⟨[(.array .byte), .int], some .byte⟩ := by decide +kernel
theorem d3_48 : decode bc3 48 = .ok (.putfield 15, 3) := by decide +kernel
theorem d3_51 : decode bc3 51 = .ok (.aload_n 0, 1) := by decide +kernel
theorem d3_52 : decode bc3 52 = .ok (.aload 5, 2) := by decide +kernel
theorem d3_54 : decode bc3 54 = .ok (.putfield 9, 3) := by decide +kernel
theorem own_sl0 {Z : State} {a0 : Array Value} (hw : own_HW Z a0) : Jvm.RoadKit.slotOf Z "java/lang/String" "value" "[B" ≠ Jvm.RoadKit.slotOf Z "java/lang/String" "coder" "B" := slot_ne (Or.inr (ww33 hw)) (Or.inr (ww31 hw)) (by decide) (t := (.array .byte)) (t' := .byte) (by decide) (by decide)
theorem d3_57 : decode bc3 57 = .ok (.return_, 1) := by decide +kernel
theorem own_sl1 {Z : State} {a0 : Array Value} (hw : own_HW Z a0) : Jvm.RoadKit.slotOf Z "java/lang/String" "coder" "B" ≠ Jvm.RoadKit.slotOf Z "java/lang/String" "value" "[B" := slot_ne (Or.inr (ww31 hw)) (Or.inr (ww33 hw)) (by decide) (t := .byte) (t' := (.array .byte)) (by decide) (by decide)
abbrev M_4 : MethodName := ⟨"java/lang/String", "<init>", "([CIILjava/lang/Void;)V"⟩
theorem pn_2 : plainName "java/lang/String" = true := by first | (simp [plainName, overriddenIn]; done) | decide +kernel
theorem pd_4 : parseMethodDescriptor "([CIILjava/lang/Void;)V" = some ⟨[(.array .char), .int, .int, (.object "java/lang/Void")], none⟩ := by decide +kernel
theorem d2_9 : decode bc2 9 = .ok (.return_, 1) := by decide +kernel
abbrev M_5 : MethodName := ⟨"java/lang/String", "<init>", "([C)V"⟩
theorem pd_5 : parseMethodDescriptor "([C)V" = some ⟨[(.array .char)], none⟩ := by decide +kernel
abbrev C_1 : String := "com/example/ringstead/ringstead/store/Key"
abbrev C_2 : String := "Ljava/lang/String;"
abbrev bc8 : ByteArray := prog_110_method_1_code
theorem d8_0 : decode bc8 0 = .ok (.aload_n 0, 1) := by decide +kernel
theorem d8_1 : decode bc8 1 = .ok (.invokespecial 1, 3) := by decide +kernel
abbrev bc9 : ByteArray := jdk_30_method_1_code
theorem d9_0 : decode bc9 0 = .ok (.aload_n 0, 1) := by decide +kernel
theorem d9_1 : decode bc9 1 = .ok (.invokespecial 1, 3) := by decide +kernel
theorem d9_4 : decode bc9 4 = .ok (.return_, 1) := by decide +kernel
abbrev M_6 : MethodName := ⟨"java/lang/Record", "<init>", "()V"⟩
theorem pn_3 : plainName "java/lang/Record" = true := by first | (simp [plainName, overriddenIn]; done) | decide +kernel
theorem pd_6 : parseMethodDescriptor "()V" = some ⟨[], none⟩ := by decide +kernel
theorem d8_4 : decode bc8 4 = .ok (.aload_n 1, 1) := by decide +kernel
theorem d8_5 : decode bc8 5 = .ok (.ldc 7, 2) := by decide +kernel
theorem d8_7 : decode bc8 7 = .ok (.invokestatic 9, 3) := by decide +kernel
abbrev bc10 : ByteArray := jdk_31_method_11_code
theorem d10_0 : decode bc10 0 = .ok (.aload_n 0, 1) := by decide +kernel
theorem d10_1 : decode bc10 1 = .ok (.ifnonnull 12, 3) := by decide +kernel
theorem d10_13 : decode bc10 13 = .ok (.aload_n 0, 1) := by decide +kernel
theorem d10_14 : decode bc10 14 = .ok (.areturn, 1) := by decide +kernel
abbrev M_7 : MethodName := ⟨"java/util/Objects", "requireNonNull", "(Ljava/lang/Object;Ljava/lang/String;)Ljava/lang/Object;"⟩
theorem pn_4 : plainName "java/util/Objects" = true := by first | (simp [plainName, overriddenIn]; done) | decide +kernel
theorem pd_7 : parseMethodDescriptor "(Ljava/lang/Object;Ljava/lang/String;)Ljava/lang/Object;" = some ⟨[(.object "java/lang/Object"), (.object "java/lang/String")], some (.object "java/lang/Object")⟩ := by decide +kernel
theorem d8_10 : decode bc8 10 = .ok (.pop, 1) := by decide +kernel
theorem d8_11 : decode bc8 11 = .ok (.aload_n 1, 1) := by decide +kernel
theorem d8_12 : decode bc8 12 = .ok (.invokestatic 15, 3) := by decide +kernel
abbrev bc11 : ByteArray := prog_110_method_6_code
theorem d11_0 : decode bc11 0 = .ok (.iconst 0, 1) := by decide +kernel
theorem d11_1 : decode bc11 1 = .ok (.istore_n 1, 1) := by decide +kernel
theorem d11_2 : decode bc11 2 = .ok (.iconst 0, 1) := by decide +kernel
theorem d11_3 : decode bc11 3 = .ok (.istore_n 2, 1) := by decide +kernel
theorem d11_4 : decode bc11 4 = .ok (.iload_n 2, 1) := by decide +kernel
theorem d11_5 : decode bc11 5 = .ok (.aload_n 0, 1) := by decide +kernel
theorem d11_6 : decode bc11 6 = .ok (.invokevirtual 107, 3) := by decide +kernel
abbrev bc12 : ByteArray := jdk_42_method_54_code
theorem d12_0 : decode bc12 0 = .ok (.aload_n 0, 1) := by decide +kernel
theorem d12_1 : decode bc12 1 = .ok (.getfield 9, 3) := by decide +kernel
theorem d12_4 : decode bc12 4 = .ok (.arraylength, 1) := by decide +kernel
theorem d12_5 : decode bc12 5 = .ok (.aload_n 0, 1) := by decide +kernel
theorem d12_6 : decode bc12 6 = .ok (.invokevirtual 335, 3) := by decide +kernel
abbrev bc13 : ByteArray := jdk_42_method_152_code
theorem d13_0 : decode bc13 0 = .ok (.getstatic 38, 3) := by decide +kernel
theorem d13_3 : decode bc13 3 = .ok (.ifCond .eq 10, 3) := by decide +kernel
theorem d13_6 : decode bc13 6 = .ok (.aload_n 0, 1) := by decide +kernel
theorem d13_7 : decode bc13 7 = .ok (.getfield 15, 3) := by decide +kernel
theorem d13_10 : decode bc13 10 = .ok (.goto 4, 3) := by decide +kernel
theorem d13_14 : decode bc13 14 = .ok (.ireturn, 1) := by decide +kernel
abbrev M_8 : MethodName := ⟨"java/lang/String", "coder", "()B"⟩
theorem pd_8 : parseMethodDescriptor "()B" = some ⟨[], some .byte⟩ := by decide +kernel
theorem d12_9 : decode bc12 9 = .ok (.ishr, 1) := by decide +kernel
theorem d12_10 : decode bc12 10 = .ok (.ireturn, 1) := by decide +kernel
abbrev M_9 : MethodName := ⟨"java/lang/String", "length", "()I"⟩
theorem pd_9 : parseMethodDescriptor "()I" = some ⟨[], some .int⟩ := by decide +kernel
theorem d11_9 : decode bc11 9 = .ok (.if_icmp .ge 103, 3) := by decide +kernel
theorem d11_12 : decode bc11 12 = .ok (.aload_n 0, 1) := by decide +kernel
theorem d11_13 : decode bc11 13 = .ok (.iload_n 2, 1) := by decide +kernel
theorem d11_14 : decode bc11 14 = .ok (.invokevirtual 110, 3) := by decide +kernel
abbrev bc14 : ByteArray := jdk_42_method_56_code
theorem d14_0 : decode bc14 0 = .ok (.aload_n 0, 1) := by decide +kernel
theorem d14_1 : decode bc14 1 = .ok (.invokevirtual 492, 3) := by decide +kernel
abbrev bc15 : ByteArray := jdk_42_method_154_code
theorem d15_0 : decode bc15 0 = .ok (.getstatic 38, 3) := by decide +kernel
theorem d15_3 : decode bc15 3 = .ok (.ifCond .eq 14, 3) := by decide +kernel
theorem d15_6 : decode bc15 6 = .ok (.aload_n 0, 1) := by decide +kernel
theorem d15_7 : decode bc15 7 = .ok (.getfield 15, 3) := by decide +kernel
theorem d15_10 : decode bc15 10 = .ok (.ifCond .ne 7, 3) := by decide +kernel
theorem d15_13 : decode bc15 13 = .ok (.iconst 1, 1) := by decide +kernel
theorem d15_14 : decode bc15 14 = .ok (.goto 4, 3) := by decide +kernel
theorem d15_18 : decode bc15 18 = .ok (.ireturn, 1) := by decide +kernel
abbrev M_10 : MethodName := ⟨"java/lang/String", "isLatin1", "()Z"⟩
theorem pd_10 : parseMethodDescriptor "()Z" = some ⟨[], some .boolean⟩ := by decide +kernel
theorem d14_4 : decode bc14 4 = .ok (.ifCond .eq 12, 3) := by decide +kernel
theorem d14_7 : decode bc14 7 = .ok (.aload_n 0, 1) := by decide +kernel
theorem d14_8 : decode bc14 8 = .ok (.getfield 9, 3) := by decide +kernel
theorem d14_11 : decode bc14 11 = .ok (.iload_n 1, 1) := by decide +kernel
theorem d14_12 : decode bc14 12 = .ok (.invokestatic 495, 3) := by decide +kernel
abbrev bc16 : ByteArray := jdk_43_method_2_code
theorem d16_0 : decode bc16 0 = .ok (.iload_n 1, 1) := by decide +kernel
theorem d16_1 : decode bc16 1 = .ok (.aload_n 0, 1) := by decide +kernel
theorem d16_2 : decode bc16 2 = .ok (.arraylength, 1) := by decide +kernel
theorem d16_3 : decode bc16 3 = .ok (.invokestatic 9, 3) := by decide +kernel
abbrev bc17 : ByteArray := jdk_42_method_155_code
theorem d17_0 : decode bc17 0 = .ok (.iload_n 0, 1) := by decide +kernel
theorem d17_1 : decode bc17 1 = .ok (.iload_n 1, 1) := by decide +kernel
theorem d17_2 : decode bc17 2 = .ok (.getstatic 1053, 3) := by decide +kernel
abbrev C_3 : String := "jdk/internal/util/Preconditions"
abbrev C_4 : String := "Ljava/util/function/BiFunction;"
theorem d17_5 : decode bc17 5 = .ok (.invokestatic 1059, 3) := by decide +kernel
abbrev bc18 : ByteArray := jdk_41_method_11_code
theorem d18_0 : decode bc18 0 = .ok (.iload_n 0, 1) := by decide +kernel
theorem d18_1 : decode bc18 1 = .ok (.ifCond .lt 8, 3) := by decide +kernel
theorem d18_4 : decode bc18 4 = .ok (.iload_n 0, 1) := by decide +kernel
theorem d18_5 : decode bc18 5 = .ok (.iload_n 1, 1) := by decide +kernel
theorem d18_6 : decode bc18 6 = .ok (.if_icmp .lt 10, 3) := by decide +kernel
theorem d18_16 : decode bc18 16 = .ok (.iload_n 0, 1) := by decide +kernel
theorem d18_17 : decode bc18 17 = .ok (.ireturn, 1) := by decide +kernel
abbrev M_11 : MethodName := ⟨"jdk/internal/util/Preconditions", "checkIndex", "(IILjava/util/function/BiFunction;)I"⟩
theorem pn_5 : plainName "jdk/internal/util/Preconditions" = true := by first | (simp [plainName, overriddenIn]; done) | decide +kernel
theorem pd_11 : parseMethodDescriptor "(IILjava/util/function/BiFunction;)I" = some ⟨[.int, .int, (.object "java/util/function/BiFunction")], some .int⟩ := by decide +kernel
theorem d17_8 : decode bc17 8 = .ok (.pop, 1) := by decide +kernel
theorem d17_9 : decode bc17 9 = .ok (.return_, 1) := by decide +kernel
abbrev M_12 : MethodName := ⟨"java/lang/String", "checkIndex", "(II)V"⟩
theorem pd_12 : parseMethodDescriptor "(II)V" = some ⟨[.int, .int], none⟩ := by decide +kernel
theorem d16_6 : decode bc16 6 = .ok (.aload_n 0, 1) := by decide +kernel
theorem d16_7 : decode bc16 7 = .ok (.iload_n 1, 1) := by decide +kernel
theorem d16_8 : decode bc16 8 = .ok (.baload, 1) := by decide +kernel
theorem d16_9 : decode bc16 9 = .ok (.sipush 255, 3) := by decide +kernel
theorem d16_12 : decode bc16 12 = .ok (.iand, 1) := by decide +kernel
theorem d16_13 : decode bc16 13 = .ok (.i2c, 1) := by decide +kernel
theorem d16_14 : decode bc16 14 = .ok (.ireturn, 1) := by decide +kernel
abbrev M_13 : MethodName := ⟨"java/lang/StringLatin1", "charAt", "([BI)C"⟩
theorem pn_6 : plainName "java/lang/StringLatin1" = true := by first | (simp [plainName, overriddenIn]; done) | decide +kernel
theorem pd_13 : parseMethodDescriptor "([BI)C" = some ⟨[(.array .byte), .int], some .char⟩ := by decide +kernel
theorem d14_15 : decode bc14 15 = .ok (.ireturn, 1) := by decide +kernel
abbrev M_14 : MethodName := ⟨"java/lang/String", "charAt", "(I)C"⟩
theorem pd_14 : parseMethodDescriptor "(I)C" = some ⟨[.int], some .char⟩ := by decide +kernel
theorem d11_17 : decode bc11 17 = .ok (.istore_n 3, 1) := by decide +kernel
theorem d11_18 : decode bc11 18 = .ok (.iload_n 3, 1) := by decide +kernel
theorem d11_19 : decode bc11 19 = .ok (.sipush 128, 3) := by decide +kernel
theorem d11_22 : decode bc11 22 = .ok (.if_icmp .ge 9, 3) := by decide +kernel
theorem d11_25 : decode bc11 25 = .ok (.iinc 1 1, 3) := by decide +kernel
theorem d11_28 : decode bc11 28 = .ok (.goto 78, 3) := by decide +kernel
theorem d11_106 : decode bc11 106 = .ok (.iinc 2 1, 3) := by decide +kernel
theorem d11_109 : decode bc11 109 = .ok (.goto (-105), 3) := by decide +kernel
theorem d11_112 : decode bc11 112 = .ok (.iload_n 1, 1) := by decide +kernel
theorem d11_113 : decode bc11 113 = .ok (.ireturn, 1) := by decide +kernel
theorem d11_31 : decode bc11 31 = .ok (.iload_n 3, 1) := by decide +kernel
theorem d11_32 : decode bc11 32 = .ok (.sipush 2048, 3) := by decide +kernel
theorem d11_35 : decode bc11 35 = .ok (.if_icmp .ge 9, 3) := by decide +kernel
theorem d11_38 : decode bc11 38 = .ok (.iinc 1 2, 3) := by decide +kernel
theorem d11_41 : decode bc11 41 = .ok (.goto 65, 3) := by decide +kernel
abbrev M_15 : MethodName := ⟨"com/example/ringstead/ringstead/store/Key", "utf8Length", "(Ljava/lang/String;)I"⟩
theorem pn_7 : plainName "com/example/ringstead/ringstead/store/Key" = true := by first | (simp [plainName, overriddenIn]; done) | decide +kernel
theorem pd_15 : parseMethodDescriptor "(Ljava/lang/String;)I" = some ⟨[(.object "java/lang/String")], some .int⟩ := by decide +kernel
theorem d8_15 : decode bc8 15 = .ok (.invokestatic 21, 3) := by decide +kernel
abbrev bc19 : ByteArray := prog_110_method_8_code
theorem d19_0 : decode bc19 0 = .ok (.iload_n 0, 1) := by decide +kernel
theorem d19_1 : decode bc19 1 = .ok (.iconst 1, 1) := by decide +kernel
theorem d19_2 : decode bc19 2 = .ok (.if_icmp .lt 10, 3) := by decide +kernel
theorem d19_5 : decode bc19 5 = .ok (.iload_n 0, 1) := by decide +kernel
theorem d19_6 : decode bc19 6 = .ok (.sipush 1024, 3) := by decide +kernel
theorem d19_9 : decode bc19 9 = .ok (.if_icmp .le 17, 3) := by decide +kernel
theorem d19_26 : decode bc19 26 = .ok (.return_, 1) := by decide +kernel
abbrev M_16 : MethodName := ⟨"com/example/ringstead/ringstead/store/Key", "checkLength", "(I)V"⟩
theorem pd_16 : parseMethodDescriptor "(I)V" = some ⟨[.int], none⟩ := by decide +kernel
theorem d8_18 : decode bc8 18 = .ok (.aload_n 0, 1) := by decide +kernel
theorem d8_19 : decode bc8 19 = .ok (.aload_n 1, 1) := by decide +kernel
theorem d8_20 : decode bc8 20 = .ok (.putfield 25, 3) := by decide +kernel
theorem d8_23 : decode bc8 23 = .ok (.return_, 1) := by decide +kernel
abbrev M_17 : MethodName := ⟨"com/example/ringstead/ringstead/store/Key", "<init>", "(Ljava/lang/String;)V"⟩
theorem pd_17 : parseMethodDescriptor "(Ljava/lang/String;)V" = some ⟨[(.object "java/lang/String")], none⟩ := by decide +kernel
abbrev bc20 : ByteArray := prog_110_method_3_code
theorem d20_0 : decode bc20 0 = .ok (.aload_n 0, 1) := by decide +kernel
theorem d20_1 : decode bc20 1 = .ok (.aload_n 1, 1) := by decide +kernel
theorem d20_2 : decode bc20 2 = .ok (.if_acmp .eq 29, 3) := by decide +kernel
theorem d20_5 : decode bc20 5 = .ok (.aload_n 1, 1) := by decide +kernel
theorem d20_6 : decode bc20 6 = .ok (.instanceof 16, 3) := by decide +kernel
theorem d20_9 : decode bc20 9 = .ok (.ifCond .eq 26, 3) := by decide +kernel
theorem d20_12 : decode bc20 12 = .ok (.aload_n 1, 1) := by decide +kernel
theorem d20_13 : decode bc20 13 = .ok (.checkcast 16, 3) := by decide +kernel
theorem d20_16 : decode bc20 16 = .ok (.astore_n 2, 1) := by decide +kernel
theorem d20_17 : decode bc20 17 = .ok (.aload_n 0, 1) := by decide +kernel
theorem d20_18 : decode bc20 18 = .ok (.getfield 25, 3) := by decide +kernel
theorem d20_21 : decode bc20 21 = .ok (.aload_n 2, 1) := by decide +kernel
theorem d20_22 : decode bc20 22 = .ok (.getfield 25, 3) := by decide +kernel
theorem d20_25 : decode bc20 25 = .ok (.invokevirtual 95, 3) := by decide +kernel
abbrev bc21 : ByteArray := jdk_42_method_66_code
theorem d21_0 : decode bc21 0 = .ok (.aload_n 0, 1) := by decide +kernel
theorem d21_1 : decode bc21 1 = .ok (.aload_n 1, 1) := by decide +kernel
theorem d21_2 : decode bc21 2 = .ok (.if_acmp .ne 5, 3) := by decide +kernel
theorem d21_7 : decode bc21 7 = .ok (.aload_n 1, 1) := by decide +kernel
theorem d21_8 : decode bc21 8 = .ok (.instanceof 10, 3) := by decide +kernel
theorem d21_11 : decode bc21 11 = .ok (.ifCond .eq 43, 3) := by decide +kernel
theorem d21_14 : decode bc21 14 = .ok (.aload_n 1, 1) := by decide +kernel
theorem d21_15 : decode bc21 15 = .ok (.checkcast 10, 3) := by decide +kernel
theorem d21_18 : decode bc21 18 = .ok (.astore_n 2, 1) := by decide +kernel
theorem d21_19 : decode bc21 19 = .ok (.getstatic 38, 3) := by decide +kernel
theorem d21_22 : decode bc21 22 = .ok (.ifCond .eq 14, 3) := by decide +kernel
theorem d21_25 : decode bc21 25 = .ok (.aload_n 0, 1) := by decide +kernel
theorem d21_26 : decode bc21 26 = .ok (.getfield 15, 3) := by decide +kernel
theorem d21_29 : decode bc21 29 = .ok (.aload_n 2, 1) := by decide +kernel
theorem d21_30 : decode bc21 30 = .ok (.getfield 15, 3) := by decide +kernel
theorem d21_33 : decode bc21 33 = .ok (.if_icmp .ne 21, 3) := by decide +kernel
theorem d21_36 : decode bc21 36 = .ok (.aload_n 0, 1) := by decide +kernel
theorem d21_37 : decode bc21 37 = .ok (.getfield 9, 3) := by decide +kernel
theorem d21_40 : decode bc21 40 = .ok (.aload_n 2, 1) := by decide +kernel
theorem d21_41 : decode bc21 41 = .ok (.getfield 9, 3) := by decide +kernel
theorem d21_44 : decode bc21 44 = .ok (.invokestatic 541, 3) := by decide +kernel
abbrev bc22 : ByteArray := jdk_43_method_13_code
theorem d22_0 : decode bc22 0 = .ok (.aload_n 0, 1) := by decide +kernel
theorem d22_1 : decode bc22 1 = .ok (.arraylength, 1) := by decide +kernel
theorem d22_2 : decode bc22 2 = .ok (.aload_n 1, 1) := by decide +kernel
theorem d22_3 : decode bc22 3 = .ok (.arraylength, 1) := by decide +kernel
theorem d22_4 : decode bc22 4 = .ok (.if_icmp .ne 30, 3) := by decide +kernel
theorem d22_7 : decode bc22 7 = .ok (.iconst 0, 1) := by decide +kernel
theorem d22_8 : decode bc22 8 = .ok (.istore_n 2, 1) := by decide +kernel
theorem d22_9 : decode bc22 9 = .ok (.iload_n 2, 1) := by decide +kernel
theorem d22_10 : decode bc22 10 = .ok (.aload_n 0, 1) := by decide +kernel
theorem d22_11 : decode bc22 11 = .ok (.arraylength, 1) := by decide +kernel
theorem d22_12 : decode bc22 12 = .ok (.if_icmp .ge 20, 3) := by decide +kernel
theorem d22_15 : decode bc22 15 = .ok (.aload_n 0, 1) := by decide +kernel
theorem d22_16 : decode bc22 16 = .ok (.iload_n 2, 1) := by decide +kernel
theorem d22_17 : decode bc22 17 = .ok (.baload, 1) := by decide +kernel
theorem d22_18 : decode bc22 18 = .ok (.aload_n 1, 1) := by decide +kernel
theorem d22_19 : decode bc22 19 = .ok (.iload_n 2, 1) := by decide +kernel
theorem d22_20 : decode bc22 20 = .ok (.baload, 1) := by decide +kernel
theorem d22_21 : decode bc22 21 = .ok (.if_icmp .eq 5, 3) := by decide +kernel
theorem d22_26 : decode bc22 26 = .ok (.iinc 2 1, 3) := by decide +kernel
theorem d22_29 : decode bc22 29 = .ok (.goto (-20), 3) := by decide +kernel
theorem d22_32 : decode bc22 32 = .ok (.iconst 1, 1) := by decide +kernel
theorem d22_33 : decode bc22 33 = .ok (.ireturn, 1) := by decide +kernel
abbrev M_18 : MethodName := ⟨"java/lang/StringLatin1", "equals", "([B[B)Z"⟩
theorem pd_18 : parseMethodDescriptor "([B[B)Z" = some ⟨[(.array .byte), (.array .byte)], some .boolean⟩ := by decide +kernel
theorem d21_47 : decode bc21 47 = .ok (.ifCond .eq 7, 3) := by decide +kernel
theorem d21_50 : decode bc21 50 = .ok (.iconst 1, 1) := by decide +kernel
theorem d21_51 : decode bc21 51 = .ok (.goto 4, 3) := by decide +kernel
theorem d21_55 : decode bc21 55 = .ok (.ireturn, 1) := by decide +kernel
abbrev M_19 : MethodName := ⟨"java/lang/String", "equals", "(Ljava/lang/Object;)Z"⟩
theorem pd_19 : parseMethodDescriptor "(Ljava/lang/Object;)Z" = some ⟨[(.object "java/lang/Object")], some .boolean⟩ := by decide +kernel
theorem d20_28 : decode bc20 28 = .ok (.ifCond .eq 7, 3) := by decide +kernel
theorem d20_31 : decode bc20 31 = .ok (.iconst 1, 1) := by decide +kernel
theorem d20_32 : decode bc20 32 = .ok (.goto 4, 3) := by decide +kernel
theorem d20_36 : decode bc20 36 = .ok (.ireturn, 1) := by decide +kernel
abbrev M_20 : MethodName := ⟨"com/example/ringstead/ringstead/store/Key", "equals", "(Ljava/lang/Object;)Z"⟩
theorem d20_35 : decode bc20 35 = .ok (.iconst 0, 1) := by decide +kernel
theorem d22_24 : decode bc22 24 = .ok (.iconst 0, 1) := by decide +kernel
theorem d22_25 : decode bc22 25 = .ok (.ireturn, 1) := by decide +kernel
theorem d21_54 : decode bc21 54 = .ok (.iconst 0, 1) := by decide +kernel
theorem d1_15 : decode bc1 15 = .ok (.aload 4, 2) := by decide +kernel
theorem d1_17 : decode bc1 17 = .ok (.iconst 1, 1) := by decide +kernel
theorem d1_18 : decode bc1 18 = .ok (.iload_n 2, 1) := by decide +kernel
theorem d1_19 : decode bc1 19 = .ok (.castore, 1) := by decide +kernel
theorem d22_34 : decode bc22 34 = .ok (.iconst 0, 1) := by decide +kernel
theorem d22_35 : decode bc22 35 = .ok (.ireturn, 1) := by decide +kernel
theorem d1_25 : decode bc1 25 = .ok (.aload 4, 2) := by decide +kernel
theorem d1_27 : decode bc1 27 = .ok (.iconst 2, 1) := by decide +kernel
theorem d1_28 : decode bc1 28 = .ok (.iload_n 3, 1) := by decide +kernel
theorem d1_29 : decode bc1 29 = .ok (.castore, 1) := by decide +kernel
def Q1_2 (Z : State) (p1 : Int32) (p2 : Int32) (p3 : Int32) (h0 : Heap) (n0 : Nat) (v : Option Value) (h : Heap) (L : List Loc) : Prop := (∃ (i7 : Int32) (b4 : Addr) (k4 : ClassId), i7 = (nar .char p1) ∧ v = some (.ref b4) ∧ Fr n0 L ∧ h0.size ≤ b4 ∧ b4 < h.size ∧ Keep h0 h [] ∧ Exa Z h b4 "[C" ∧ Arv Z h b4 k4 .char (1 : Int32) [(.int i7)] (.int (0 : Int32)))
theorem rm1_2 (l : Launch) (Z : State) (a0 : Array Value) (hw : own_HW Z a0) (p1 : Int32) (p2 : Int32) (p3 : Int32) (h0 : Heap) (n0 : Nat) (O0 : Old Z n0 h0) : own_Met l Z M_0 bc1 5 (some (.array .char)) ({ frames := 0, cells := 1, slots := 1, locals := 0 } : Room) #[(.int 1), (.int p1), (.int p2), (.int p3)] h0 (Q1_2 Z p1 p2 p3 h0 n0) := by
  refine own_body (L0 := #[vI 1, vI p1, vI p2, vI p3, .unset]) (plainFor_of_name pn_0) (fun m => by first | (simp [entryFrame, mkF, argsToLocals, Value.category]; done) | rfl) fun p e s m below meth c s₁ EN hx hby hml hown hnm hret X0 hZ e0 hh pre0 fin => ?_
  have N0 := Fr.nil n0
  obtain ⟨T4, h4, k4, X4, e4, E4, A4, Ex4, st4⟩ := newPE (aty := .char) X0 hx hZ (ww7 hw) e0 (g := (mkF m 1 #[vI 1, vI p1, vI p2, vI p3, .unset] [(.int 1)])) rfl (hb hby d1_1) rfl (by decide +kernel) (cap := 1) (by decide +kernel) (by decide) (by decide) (by decide) (ad := "[C") (by decide +kernel)
  obtain ⟨b4, g4⟩ : ∃ z, z = h0.size := ⟨_, rfl⟩
  rw [← g4] at A4 Ex4 st4
  have O4 : Old Z n0 h4 := O0.ext E4
  have bd_b4 : h0.size ≤ b4 := Nat.le_of_eq g4.symm
  have g_b4 : n0 ≤ b4 := Nat.le_trans (own_z O0) bd_b4
  have sz_b4 : h0.size ≤ b4 := Nat.le_trans (Nat.le_refl _) bd_b4
  have lt_b4 : b4 < h4.size := A4.lt
  have V4 : Arv Z h4 b4 k4 .char (1 : Int32) [] (.int (0 : Int32)) := Arv.new A4 (by decide +kernel)
  have Vp5 : Arv Z h4 b4 k4 .char (1 : Int32) [(.int 0)] (.int (0 : Int32)) := V4.pad (pad_rep [] (.int (0 : Int32)) 1)
  obtain ⟨cl6, Ar6, qk6, Sz6, Nn6, Hh6, Gg6⟩ := id Vp5
  have hin6 : ¬ ((0 : Int32) < 0 ∨ cl6.slots.size ≤ ((0 : Int32)).toNatClampNeg) := inb_of Sz6 ⟨by decide +kernel, by decide +kernel⟩
  obtain ⟨i7, hi7⟩ : ∃ z, z = (nar .char p1) := ⟨_, rfl⟩
  obtain ⟨T8, h8, X8, e8, W8, st8⟩ := stC X4 hx hZ e4 Ar6 (j := (0 : Int32)) hin6 (g := (mkF m 9 #[vI 1, vI p1, vI p2, vI p3, vR b4] [(.int p1), (.int 0), (.ref b4)])) rfl rfl (hb hby d1_9)
  rw [show (nar .char p1) = i7 from (hi7.symm : (nar .char p1) = i7)] at W8
  have O8 : Old Z n0 h8 := O4.wr W8 g_b4
  have V8 : Arv Z h8 b4 k4 .char (1 : Int32) [(.int i7)] (.int (0 : Int32)) := Arv.set Ar6 qk6 Sz6 Nn6 Hh6 Gg6 ((hi7.symm : (nar .char p1) = i7) ▸ fits_nar_char _) W8 0 rfl (Nat.le_of_ble_eq_true rfl)
  have N8 := Fr.snoc X8 N0 g_b4
  have f9 : Exa Z h8 b4 "[C" := (Exa.wr W8 Ex4)
  refine fin (some (.ref b4)) _ _ _ _ X8 nofun (fun fs hr => pre0 _ ?_) (own_atH e8 ?_) (by decide) (by decide)
  · refine o_iloadN X0 hx hby d1_0 rfl (st4 _ (o_astore X4 hx hby d1_3 rfl (Ls' := #[vI 1, vI p1, vI p2, vI p3, vR b4]) rfl (o_aload X4 hx hby d1_5 rfl rfl (o_iconst X4 hx hby d1_7 (x := 0) rfl (o_iloadN X4 hx hby d1_8 rfl (st8 _ (o_iloadN X8 hx hby d1_10 rfl (o_iconst X8 hx hby d1_11 (x := 1) rfl (o_icmpY X8 hx hby d1_12 (pc := 12) (pc' := 20) (by decide +kernel) (by decide) (by decide) (o_iloadN X8 hx hby d1_20 rfl (o_iconst X8 hx hby d1_21 (x := 2) rfl (o_icmpY X8 hx hby d1_22 (pc := 22) (pc' := 30) (by decide +kernel) (by decide) (by decide) (o_aload X8 hx hby d1_30 rfl rfl ?_)))))))))))))
    show Steps p.tables e below (T8.setTop (mkF m 32 #[vI 1, vI p1, vI p2, vI p3, vR b4] [(.ref b4)])) _
    jvm_step X8.here [X8.here.top, hx, (hb hby d1_32), X8.method', hret, Value.isRef, FieldType.isReference]
    first | (intro acts; rw [hr _ acts rfl rfl rfl]) | rw [hr _ _ rfl rfl rfl]
    exact Steps.refl _
  · exact ⟨i7, b4, k4, hi7, rfl, N8, sz_b4, (own_t lt_b4 (Keep.of_wr W8).1), (((Keep.refl h0 []).ext E4).wr W8 (Or.inr sz_b4)), f9, V8⟩
def Q6_6 (Z : State) (a1 : Addr) (a2 : Addr) (p3 : Int32) (k4 : ClassId) (k9 : ClassId) (h0 : Heap) (n0 : Nat) (v : Option Value) (h : Heap) (L : List Loc) : Prop := (∃ (i8 : Int32), i8 = (p3.toInt8.toInt32) ∧ v = some (.int 1) ∧ Fr n0 L ∧ Keep h0 h [a2] ∧ Exa Z h a2 "[B" ∧ Arv Z h a2 k9 .byte (1 : Int32) [(.int i8)] (.int (0 : Int32)))
theorem rm6_6 (l : Launch) (Z : State) (a0 : Array Value) (hw : own_HW Z a0) (a1 : Addr) (a2 : Addr) (p3 : Int32) (k4 : ClassId) (k9 : ClassId) (h0 : Heap) (n0 : Nat) (O0 : Old Z n0 h0) (V5 : Arv Z h0 a1 k4 .char (1 : Int32) [(.int p3)] (.int (0 : Int32))) (hk7 : ¬ ((255 : Int32) < p3)) (V10 : Arv Z h0 a2 k9 .byte (1 : Int32) [] (.int (0 : Int32))) (g_a2 : n0 ≤ a2) (E_14 : Exa Z h0 a2 "[B") : own_Met l Z M_1 bc6 7 (some .int) ({ frames := 0, cells := 0, slots := 0, locals := 0 } : Room) #[(.ref a1), (.int 0), (.ref a2), (.int 0), (.int 1)] h0 (Q6_6 Z a1 a2 p3 k4 k9 h0 n0) := by
  refine own_body (L0 := #[vR a1, vI 0, vR a2, vI 0, vI 1, .unset, .unset]) (plainFor_of_name pn_1) (fun m => by first | (simp [entryFrame, mkF, argsToLocals, Value.category]; done) | rfl) fun p e s m below meth c s₁ EN hx hby hml hown hnm hret X0 hZ e0 hh pre0 fin => ?_
  have N0 := Fr.nil n0
  obtain ⟨cl6, Ar6, -, Sz6, -, Hh6, -⟩ := id V5
  have hin6 : ¬ ((0 : Int32) < 0 ∨ cl6.slots.size ≤ ((0 : Int32)).toNatClampNeg) := inb_of Sz6 ⟨by decide +kernel, by decide +kernel⟩
  have hat6 : cl6.slots[((0 : Int32)).toNatClampNeg]? = some (.int p3) := Has.at Hh6 hin6 rfl
  obtain ⟨i8, hi8⟩ : ∃ z, z = (p3.toInt8.toInt32) := ⟨_, rfl⟩
  have Vp11 : Arv Z h0 a2 k9 .byte (1 : Int32) [(.int 0)] (.int (0 : Int32)) := V10.pad (pad_rep [] (.int (0 : Int32)) 1)
  obtain ⟨cl12, Ar12, qk12, Sz12, Nn12, Hh12, Gg12⟩ := id Vp11
  have hin12 : ¬ ((0 : Int32) < 0 ∨ cl12.slots.size ≤ ((0 : Int32)).toNatClampNeg) := inb_of Sz12 ⟨by decide +kernel, by decide +kernel⟩
  obtain ⟨T13, h13, X13, e13, W13, st13⟩ := stB X0 hx hZ e0 Ar12 (j := (0 : Int32)) hin12 (g := (mkF m 31 #[vR a1, vI 0, vR a2, vI 0, vI 1, vI 0, vI p3] [(.int i8), (.int 0), (.ref a2)])) rfl rfl (hb hby d6_31)
  rw [show nar .byte i8 = i8 from (own_i2b2 hi8 : (i8.toInt8.toInt32) = i8)] at W13
  have O13 : Old Z n0 h13 := O0.wr W13 g_a2
  have V13 : Arv Z h13 a2 k9 .byte (1 : Int32) [(.int i8)] (.int (0 : Int32)) := Arv.set Ar12 qk12 Sz12 Nn12 Hh12 Gg12 ((own_i2b2 hi8 : (i8.toInt8.toInt32) = i8) ▸ fits_nar_byte _) W13 0 rfl (Nat.le_of_ble_eq_true rfl)
  have N13 := Fr.snoc X13 N0 g_a2
  have f15 : Exa Z h13 a2 "[B" := (Exa.wr W13 E_14)
  refine fin (some (.int 1)) _ _ _ _ X13 nofun (fun fs hr => pre0 _ ?_) (own_atH e13 ?_) (by decide) (by decide)
  · refine o_iconst X0 hx hby d6_0 (x := 0) rfl (o_istore X0 hx hby d6_1 (Ls' := #[vR a1, vI 0, vR a2, vI 0, vI 1, vI 0, .unset]) rfl (o_iload X0 hx hby d6_3 rfl (o_iload X0 hx hby d6_5 rfl (o_icmpN X0 hx hby d6_7 (by decide +kernel) (o_aloadN X0 hx hby d6_10 rfl rfl (o_iloadN X0 hx hby d6_11 rfl (X0.caload hx (j := (0 : Int32)) (v := (.int p3)) (by rw [e0]; exact Ar6.1) (State.isArrayOf_alike hZ.alike Ar6.2.1) Ar6.2.2 hin6 hat6 (g := (mkF m 12 #[vR a1, vI 0, vR a2, vI 0, vI 1, vI 0, .unset] [(.int 0), (.ref a1)])) rfl rfl (hb hby d6_12) _ (o_istore X0 hx hby d6_13 (Ls' := #[vR a1, vI 0, vR a2, vI 0, vI 1, vI 0, vI p3]) rfl (o_iload X0 hx hby d6_15 rfl (o_sipush X0 hx hby d6_17 (x := 255) rfl (o_icmpY X0 hx hby d6_20 (pc := 20) (pc' := 26) (flt hk7).2.2.2 (by decide) (by decide) (o_aloadN X0 hx hby d6_26 rfl rfl (o_iloadN X0 hx hby d6_27 rfl (o_iload X0 hx hby d6_28 rfl (o_i2b X0 hx hby d6_30 (z := i8) hi8.symm (st13 _ (o_iinc X13 hx hby d6_32 rfl (z := (1 : Int32)) (k' := 1) rfl (by decide +kernel) (Ls' := #[vR a1, vI 1, vR a2, vI 0, vI 1, vI 0, vI p3]) rfl (o_iinc X13 hx hby d6_35 rfl (z := (1 : Int32)) (k' := 1) rfl (by decide +kernel) (Ls' := #[vR a1, vI 1, vR a2, vI 1, vI 1, vI 0, vI p3]) rfl (o_iinc X13 hx hby d6_38 rfl (z := (1 : Int32)) (k' := 1) rfl (by decide +kernel) (Ls' := #[vR a1, vI 1, vR a2, vI 1, vI 1, vI 1, vI p3]) rfl (o_goto X13 hx hby d6_41 (pc := 41) (pc' := 3) (by decide) (by decide) (o_iload X13 hx hby d6_3 rfl (o_iload X13 hx hby d6_5 rfl (o_icmpY X13 hx hby d6_7 (pc := 7) (pc' := 44) (by decide +kernel) (by decide) (by decide) (o_iload X13 hx hby d6_44 rfl ?_))))))))))))))))))))))))
    exact retI X13 hx hret (hb hby d6_46) hr
  · exact ⟨i8, hi8, rfl, N13, ((Keep.refl h0 [a2]).wr W13 (Or.inl (List.mem_of_getElem? (i := 0) rfl))), f15, V13⟩
def Q5_5 (Z : State) (a1 : Addr) (p3 : Int32) (k4 : ClassId) (h0 : Heap) (n0 : Nat) (v : Option Value) (h : Heap) (L : List Loc) : Prop := (∃ (i9 : Int32) (b2 : Addr) (k2 : ClassId), i9 = (p3.toInt8.toInt32) ∧ v = some (.ref b2) ∧ Fr n0 L ∧ h0.size ≤ b2 ∧ b2 < h.size ∧ Keep h0 h [] ∧ Exa Z h b2 "[B" ∧ Arv Z h b2 k2 .byte (1 : Int32) [(.int i9)] (.int (0 : Int32)))
theorem rm5_5 (l : Launch) (Z : State) (a0 : Array Value) (hw : own_HW Z a0) (a1 : Addr) (p3 : Int32) (k4 : ClassId) (h0 : Heap) (n0 : Nat) (O0 : Old Z n0 h0) (V5 : Arv Z h0 a1 k4 .char (1 : Int32) [(.int p3)] (.int (0 : Int32))) (hk6 : ¬ ((255 : Int32) < p3)) : own_Met l Z M_2 bc5 6 (some (.array .byte)) ({ frames := 1, cells := 1, slots := 1, locals := 18 } : Room) #[(.ref a1), (.int 0), (.int 1)] h0 (Q5_5 Z a1 p3 k4 h0 n0) := by
  refine own_body (L0 := #[vR a1, vI 0, vI 1, .unset, .unset, .unset]) (plainFor_of_name pn_1) (fun m => by first | (simp [entryFrame, mkF, argsToLocals, Value.category]; done) | rfl) fun p e s m below meth c s₁ EN hx hby hml hown hnm hret X0 hZ e0 hh pre0 fin => ?_
  have N0 := Fr.nil n0
  obtain ⟨T2, h2, k2, X2, e2, E2, A2, Ex2, st2⟩ := newPE (aty := .byte) X0 hx hZ (ww23 hw) e0 (g := (mkF m 1 #[vR a1, vI 0, vI 1, .unset, .unset, .unset] [(.int 1)])) rfl (hb hby d5_1) rfl (by decide +kernel) (cap := 1) (by decide +kernel) (by decide) (by decide) (by decide) (ad := "[B") (by decide +kernel)
  obtain ⟨b2, g2⟩ : ∃ z, z = h0.size := ⟨_, rfl⟩
  rw [← g2] at A2 Ex2 st2
  have O2 : Old Z n0 h2 := O0.ext E2
  have bd_b2 : h0.size ≤ b2 := Nat.le_of_eq g2.symm
  have g_b2 : n0 ≤ b2 := Nat.le_trans (own_z O0) bd_b2
  have sz_b2 : h0.size ≤ b2 := Nat.le_trans (Nat.le_refl _) bd_b2
  have lt_b2 : b2 < h2.size := A2.lt
  have V2 : Arv Z h2 b2 k2 .byte (1 : Int32) [] (.int (0 : Int32)) := Arv.new A2 (by decide +kernel)
  have f7 : Arv Z h2 a1 k4 .char (1 : Int32) [(.int p3)] (.int (0 : Int32)) := (V5.ext E2)
  obtain ⟨_, T8, L8, X8, hQ8, st8⟩ := own_cS X2 hx hZ hown (ww24 hw) (ww25 hw) (ww21 hw) (ww26 hw) (rm6_6 l Z a0 hw a1 b2 p3 k4 k2 h2 n0 O2 f7 hk6 V2 g_b2 Ex2) e2 pd_1 hml (hb hby d5_9) (Ls := #[vR a1, vI 0, vI 1, vR b2, .unset, .unset]) (W := 0) (argsL := [(.ref a1), (.int 0), (.ref b2), (.int 0), (.int 1)]) (rest := [])
  obtain ⟨i9, u10, rfl, u12, Ku13, u14, u15⟩ := hQ8
  have Ou13 : Old Z n0 T8.heap := O2.keep Ku13 (allS g_b2 all0)
  have N8 := Fr.app N0 u12
  refine fin (some (.ref b2)) _ _ _ _ X8 nofun (fun fs hr => pre0 _ ?_) ?_ (by decide) (by decide)
  · refine o_iloadN X0 hx hby d5_0 rfl (st2 _ (o_astoreN X2 hx hby d5_3 rfl (Ls' := #[vR a1, vI 0, vI 1, vR b2, .unset, .unset]) rfl (o_aloadN X2 hx hby d5_4 rfl rfl (o_iloadN X2 hx hby d5_5 rfl (o_aloadN X2 hx hby d5_6 rfl rfl (o_iconst X2 hx hby d5_7 (x := 0) rfl (o_iloadN X2 hx hby d5_8 rfl (st8 _ (o_istore X8 hx hby d5_12 (Ls' := #[vR a1, vI 0, vI 1, vR b2, vI 1, .unset]) rfl (o_iload X8 hx hby d5_14 rfl (o_iloadN X8 hx hby d5_16 rfl (o_icmpY X8 hx hby d5_17 (pc := 17) (pc' := 57) (by decide +kernel) (by decide) (by decide) (o_aloadN X8 hx hby d5_57 rfl rfl ?_)))))))))))))
    show Steps p.tables e below (T8.setTop (mkF m 58 #[vR a1, vI 0, vI 1, vR b2, vI 1, .unset] [(.ref b2)])) _
    jvm_step X8.here [X8.here.top, hx, (hb hby d5_58), X8.method', hret, Value.isRef, FieldType.isReference]
    first | (intro acts; rw [hr _ acts rfl rfl rfl]) | rw [hr _ _ rfl rfl rfl]
    exact Steps.refl _
  · exact ⟨i9, b2, k2, u10, rfl, N8, sz_b2, (own_t lt_b2 Ku13.1), (((Keep.refl h0 []).ext E2).trans Ku13 (allS (Or.inr sz_b2) all0)), u14, u15⟩
def Q7_7 (Z : State) (a1 : Addr) (p2 : Int32) (k3 : ClassId) (h0 : Heap) (n0 : Nat) (v : Option Value) (h : Heap) (L : List Loc) : Prop := (v = some (.int 0) ∧ Fr n0 L ∧ h = h0)
theorem rm7_7 (l : Launch) (Z : State) (a0 : Array Value) (hw : own_HW Z a0) (a1 : Addr) (p2 : Int32) (k3 : ClassId) (h0 : Heap) (n0 : Nat) (O0 : Old Z n0 h0) (V4 : Arv Z h0 a1 k3 .byte (1 : Int32) [(.int p2)] (.int (0 : Int32))) : own_Met l Z M_3 bc7 2 (some .byte) ({ frames := 0, cells := 0, slots := 0, locals := 0 } : Room) #[(.ref a1), (.int 1)] h0 (Q7_7 Z a1 p2 k3 h0 n0) := by
  refine own_body (L0 := #[vR a1, vI 1]) (plainFor_of_name pn_1) (fun m => by first | (simp [entryFrame, mkF, argsToLocals, Value.category]; done) | rfl) fun p e s m below meth c s₁ EN hx hby hml hown hnm hret X0 hZ e0 hh pre0 fin => ?_
  have N0 := Fr.nil n0
  obtain ⟨cl5, Ar5, -, Sz5, Nn5, -, -⟩ := id V4
  refine fin (some (.int 0)) _ _ _ _ X0 nofun (fun fs hr => pre0 _ ?_) (own_atH e0 ?_) (by decide) (by decide)
  · refine o_iloadN X0 hx hby d7_0 rfl (o_aloadN X0 hx hby d7_1 rfl rfl (X0.arraylength hx (by rw [e0]; exact Ar5.1) (State.isArrayOf_alike hZ.alike Ar5.2.1) (g := (mkF m 2 #[vR a1, vI 1] [(.ref a1), (.int 1)])) rfl rfl (hb hby d7_2) _ ?_))
    rw [len_of Sz5 Nn5]
    refine o_isub X0 hx hby d7_3 (z := (0 : Int32)) (by decide +kernel) (o_bipush X0 hx hby d7_4 (x := 31) rfl (o_iushr X0 hx hby d7_6 (z := (0 : Int32)) (by decide +kernel) (o_i2b X0 hx hby d7_7 (z := (0 : Int32)) (by decide +kernel) ?_)))
    exact retN X0 hx (t := .byte) hret (by simp) (hb hby d7_8) hr
  · exact ⟨rfl, N0, rfl⟩
def Q3_4 (Z : State) (a1 : Addr) (a2 : Addr) (p4 : Int32) (p8 : Int32) (k9 : ClassId) (h0 : Heap) (n0 : Nat) (v : Option Value) (h : Heap) (L : List Loc) : Prop := (∃ (i13 : Int32) (b14 : Addr) (k15 : ClassId), i13 = (p8.toInt8.toInt32) ∧ v = none ∧ Fr n0 L ∧ h0.size ≤ b14 ∧ b14 < h.size ∧ Keep h0 h [a1] ∧ Exa Z h a1 C_0 ∧ Fld Z h a1 C_0 "coder" "B" (.int 0) ∧ Fld Z h a1 C_0 "value" "[B" (.ref b14) ∧ Exa Z h b14 "[B" ∧ Arv Z h b14 k15 .byte (1 : Int32) [(.int i13)] (.int (0 : Int32)))
theorem rm3_4 (l : Launch) (Z : State) (a0 : Array Value) (hw : own_HW Z a0) (a1 : Addr) (a2 : Addr) (p4 : Int32) (p8 : Int32) (k9 : ClassId) (h0 : Heap) (n0 : Nat) (O0 : Old Z n0 h0) (S_5 : Sta Z Z.heap C_0 "COMPACT_STRINGS" "Z" (.int p4)) (hk7 : ¬ (p4 = (0 : Int32))) (V10 : Arv Z h0 a2 k9 .char (1 : Int32) [(.int p8)] (.int (0 : Int32))) (hk11 : ¬ ((255 : Int32) < p8)) (E_28 : Exa Z h0 a1 C_0) (F29 : Fld Z h0 a1 C_0 "coder" "B" (.int 0)) (F30 : Fld Z h0 a1 C_0 "value" "[B" .null) (g_a1 : n0 ≤ a1) (lt_a1 : a1 < h0.size) : own_Met l Z M_4 bc3 6 none ({ frames := 2, cells := 1, slots := 1, locals := 35 } : Room) #[(.ref a1), (.ref a2), (.int 0), (.int 1), .null] h0 (Q3_4 Z a1 a2 p4 p8 k9 h0 n0) := by
  refine own_body (L0 := #[vR a1, vR a2, vI 0, vI 1, vN, .unset]) (plainFor_of_name pn_2) (fun m => by first | (simp [entryFrame, mkF, argsToLocals, Value.category]; done) | rfl) fun p e s m below meth c s₁ EN hx hby hml hown hnm hret X0 hZ e0 hh pre0 fin => ?_
  have N0 := Fr.nil n0
  obtain ⟨T3, X3, e3, st3⟩ := initO X0 hx hZ hown (ww15 hw) (ww16 hw) (ww17 hw) e0 (g := (mkF m 1 #[vR a1, vR a2, vI 0, vI 1, vN, .unset] [(.ref a1)])) rfl (by rw [hml]; rfl) rfl (hb hby d3_1) (by decide) (W := 0) (by show 2 * 0 + _ ≤ _; exact Nat.le_of_eq rfl) (by decide)
  obtain ⟨T6, X6, e6, st6⟩ := getS2 X3 hx hZ hown (host := "") (Or.inl (ww18 hw)) Via.refl e3 (Sta.ext O0.2 S_5) (g := (mkF m 27 #[vR a1, vR a2, vI 0, vI 1, vN, .unset] [])) rfl (hb hby d3_27)
  obtain ⟨_, T12, L12, X12, hQ12, st12⟩ := own_cS X6 hx hZ hown (ww19 hw) (ww20 hw) (ww21 hw) (ww22 hw) (rm5_5 l Z a0 hw a2 p8 k9 h0 n0 O0 V10 hk11) e6 pd_2 hml (hb hby d3_36) (Ls := #[vR a1, vR a2, vI 0, vI 1, vN, .unset]) (W := 0) (argsL := [(.ref a2), (.int 0), (.int 1)]) (rest := [])
  obtain ⟨i13, b14, k15, u16, rfl, u18, u19, u20, Ku21, u22, u23⟩ := hQ12
  have Ou21 : Old Z n0 T12.heap := O0.keep Ku21 all0
  have g_b14 : n0 ≤ b14 := Nat.le_trans (own_z O0) u19
  have sz_b14 : h0.size ≤ b14 := Nat.le_trans (Nat.le_refl _) u19
  have N12 := Fr.app N0 u18
  obtain ⟨_, T24, L24, X24, hQ24, st24⟩ := own_cS X12 hx hZ hown (ww27 hw) (ww28 hw) (ww21 hw) (ww29 hw) (rm7_7 l Z a0 hw b14 i13 k15 T12.heap n0 Ou21 u23) rfl pd_3 hml (hb hby d3_45) (Ls := #[vR a1, vR a2, vI 0, vI 1, vN, vR b14]) (W := 1) (argsL := [(.ref b14), (.int 1)]) (rest := [(.ref a1)])
  obtain ⟨rfl, u26, u27⟩ := hQ24
  have N24 := Fr.app N12 u26
  have f31 : Fld Z T12.heap a1 C_0 "coder" "B" (.int 0) := (F29.keep Ku21 nin0)
  have f32 : Exa Z T12.heap a1 C_0 := (E_28.keep Ku21)
  obtain ⟨T33, h33, X33, e33, W33, st33⟩ := putFN X24 hx hZ hown (ww30 hw) Via.refl u27 f31 f32 (Or.inr ⟨(ww31 hw), rfl, hnm⟩) (ww1 hw) (ty := .byte) (v' := (.int 0)) (by decide) (by exact congrArg Value.int (by decide +kernel : (nar .byte (0 : Int32)) = (0 : Int32))) ((by decide +kernel : (nar .byte (0 : Int32)) = (0 : Int32)) ▸ fits_nar_byte _) (g := (mkF m 48 #[vR a1, vR a2, vI 0, vI 1, vN, vR b14] [(.int 0), (.ref a1)])) rfl rfl (hb hby d3_48)
  have O33 : Old Z n0 h33 := Ou21.wr W33 g_a1
  have Fw33 : Fld Z h33 a1 C_0 "coder" "B" (.int 0) := Fld.same W33 f31
  have N33 := Fr.snoc X33 N24 g_a1
  have f34 : Fld Z h33 a1 C_0 "value" "[B" .null := (Fld.other W33 (F30.keep Ku21 nin0) (Or.inr (own_sl0 hw)))
  have f35 : Exa Z h33 a1 C_0 := (Exa.wr W33 f32)
  obtain ⟨T36, h36, X36, e36, W36, st36⟩ := putF X33 hx hZ hown (host := "") (Or.inl (ww32 hw)) Via.refl e33 f34 f35 (Or.inr ⟨(ww33 hw), rfl, hnm⟩) (ww1 hw) (ty := (.array .byte)) (by decide) rfl rfl (g := (mkF m 54 #[vR a1, vR a2, vI 0, vI 1, vN, vR b14] [(.ref b14), (.ref a1)])) rfl rfl (hb hby d3_54)
  have O36 : Old Z n0 h36 := O33.wr W36 g_a1
  have Fw36 : Fld Z h36 a1 C_0 "value" "[B" (.ref b14) := Fld.same W36 f34
  have N36 := Fr.snoc X36 N33 g_a1
  have f37 : Exa Z h36 a1 C_0 := (Exa.wr W36 f35)
  have f38 : Fld Z h36 a1 C_0 "coder" "B" (.int 0) := (Fld.other W36 Fw33 (Or.inr (own_sl1 hw)))
  have f39 : Exa Z h36 b14 "[B" := (Exa.wr W36 (Exa.wr W33 u22))
  have f40 : Arv Z h36 b14 k15 .byte (1 : Int32) [(.int i13)] (.int (0 : Int32)) := ((u23.other W33 (Ne.symm (own_n lt_a1 u19))).other W36 (Ne.symm (own_n lt_a1 u19)))
  refine fin none _ _ _ _ X36 (fun _ => rfl) (fun fs hr => pre0 _ ?_) (own_atH e36 ?_) (by decide) (by decide)
  · refine o_aloadN X0 hx hby d3_0 rfl rfl (st3 _ (o_iloadN X3 hx hby d3_4 rfl (o_ifY X3 hx hby d3_5 (pc := 5) (pc' := 27) (by decide +kernel) (by decide) (by decide) (st6 _ (o_ifN X6 hx hby d3_30 ((if0 _ _).trans (feq hk7).1) (o_aloadN X6 hx hby d3_33 rfl rfl (o_iloadN X6 hx hby d3_34 rfl (o_iloadN X6 hx hby d3_35 rfl (st12 _ (o_astore X12 hx hby d3_39 rfl (Ls' := #[vR a1, vR a2, vI 0, vI 1, vN, vR b14]) rfl (o_aloadN X12 hx hby d3_41 rfl rfl (o_aload X12 hx hby d3_42 rfl rfl (o_iloadN X12 hx hby d3_44 rfl (st24 _ (st33 _ (o_aloadN X33 hx hby d3_51 rfl rfl (o_aload X33 hx hby d3_52 rfl rfl (st36 _ ?_))))))))))))))))))
    exact X36.returnOut hx hret (hb hby d3_57) hr
  · exact ⟨i13, b14, k15, u16, rfl, N36, sz_b14, (own_t (own_t u20 (Keep.of_wr W33).1) (Keep.of_wr W36).1), ((((Keep.refl h0 [a1]).trans Ku21 all0).wr W33 (Or.inl (List.mem_of_getElem? (i := 0) rfl))).wr W36 (Or.inl (List.mem_of_getElem? (i := 0) rfl))), f37, f38, Fw36, f39, f40⟩
def Q2_3 (Z : State) (a1 : Addr) (a2 : Addr) (p3 : Int32) (k4 : ClassId) (p7 : Int32) (h0 : Heap) (n0 : Nat) (v : Option Value) (h : Heap) (L : List Loc) : Prop := (∃ (i15 : Int32) (b16 : Addr) (k17 : ClassId), i15 = (p3.toInt8.toInt32) ∧ v = none ∧ Fr n0 L ∧ h0.size ≤ b16 ∧ b16 < h.size ∧ Keep h0 h [a1] ∧ Exa Z h a1 C_0 ∧ Fld Z h a1 C_0 "coder" "B" (.int 0) ∧ Fld Z h a1 C_0 "value" "[B" (.ref b16) ∧ Exa Z h b16 "[B" ∧ Arv Z h b16 k17 .byte (1 : Int32) [(.int i15)] (.int (0 : Int32)))
theorem rm2_3 (l : Launch) (Z : State) (a0 : Array Value) (hw : own_HW Z a0) (a1 : Addr) (a2 : Addr) (p3 : Int32) (k4 : ClassId) (p7 : Int32) (h0 : Heap) (n0 : Nat) (O0 : Old Z n0 h0) (V5 : Arv Z h0 a2 k4 .char (1 : Int32) [(.int p3)] (.int (0 : Int32))) (S_8 : Sta Z Z.heap C_0 "COMPACT_STRINGS" "Z" (.int p7)) (hk9 : ¬ (p7 = (0 : Int32))) (hk10 : ¬ ((255 : Int32) < p3)) (E_11 : Exa Z h0 a1 C_0) (F12 : Fld Z h0 a1 C_0 "coder" "B" (.int 0)) (F13 : Fld Z h0 a1 C_0 "value" "[B" .null) (g_a1 : n0 ≤ a1) (lt_a1 : a1 < h0.size) : own_Met l Z M_5 bc2 2 none ({ frames := 3, cells := 1, slots := 1, locals := 52 } : Room) #[(.ref a1), (.ref a2)] h0 (Q2_3 Z a1 a2 p3 k4 p7 h0 n0) := by
  refine own_body (L0 := #[vR a1, vR a2]) (plainFor_of_name pn_2) (fun m => by first | (simp [entryFrame, mkF, argsToLocals, Value.category]; done) | rfl) fun p e s m below meth c s₁ EN hx hby hml hown hnm hret X0 hZ e0 hh pre0 fin => ?_
  have N0 := Fr.nil n0
  obtain ⟨cl6, Ar6, -, Sz6, Nn6, -, -⟩ := id V5
  obtain ⟨_, T14, L14, X14, hQ14, st14⟩ := own_cI X0 hx hZ hown (ww11 hw) (ww12 hw) (ww2 hw) (ww14 hw) (rm3_4 l Z a0 hw a1 a2 p7 p3 k4 h0 n0 O0 S_8 hk9 V5 hk10 E_11 F12 F13 g_a1 lt_a1) e0 pd_4 hml (hb hby d2_6) (Ls := #[vR a1, vR a2]) (W := 0) (argsL := [(.ref a2), (.int 0), (.int 1), .null]) (rest := []) (b := a1)
  obtain ⟨i15, b16, k17, u18, rfl, u20, u21, u22, Ku23, u24, u25, u26, u27, u28⟩ := hQ14
  have Ou23 : Old Z n0 T14.heap := O0.keep Ku23 (allS g_a1 all0)
  have g_b16 : n0 ≤ b16 := Nat.le_trans (own_z O0) u21
  have sz_b16 : h0.size ≤ b16 := Nat.le_trans (Nat.le_refl _) u21
  have N14 := Fr.app N0 u20
  refine fin none _ _ _ _ X14 (fun _ => rfl) (fun fs hr => pre0 _ ?_) ?_ (by decide) (by decide)
  · refine o_aloadN X0 hx hby d2_0 rfl rfl (o_aloadN X0 hx hby d2_1 rfl rfl (o_iconst X0 hx hby d2_2 (x := 0) rfl (o_aloadN X0 hx hby d2_3 rfl rfl (X0.arraylength hx (by rw [e0]; exact Ar6.1) (State.isArrayOf_alike hZ.alike Ar6.2.1) (g := (mkF m 4 #[vR a1, vR a2] [(.ref a2), (.int 0), (.ref a2), (.ref a1)])) rfl rfl (hb hby d2_4) _ ?_))))
    rw [len_of Sz6 Nn6]
    refine o_null X0 hx hby d2_5 (st14 _ ?_)
    exact X14.returnOut hx hret (hb hby d2_9) hr
  · exact ⟨i15, b16, k17, u18, rfl, N14, sz_b16, u22, ((Keep.refl h0 [a1]).trans Ku23 (allS (Or.inl (List.mem_of_getElem? (i := 0) rfl)) all0)), u24, u25, u26, u27, u28⟩
def Q9_9 (Z : State) (a1 : Addr) (h0 : Heap) (n0 : Nat) (v : Option Value) (h : Heap) (L : List Loc) : Prop := (v = none ∧ Fr n0 L ∧ h = h0)
theorem rm9_9 (l : Launch) (Z : State) (a0 : Array Value) (hw : own_HW Z a0) (a1 : Addr) (h0 : Heap) (n0 : Nat) (O0 : Old Z n0 h0) : own_Met l Z M_6 bc9 1 none ({ frames := 1, cells := 0, slots := 0, locals := 12 } : Room) #[(.ref a1)] h0 (Q9_9 Z a1 h0 n0) := by
  refine own_body (L0 := #[vR a1]) (plainFor_of_name pn_3) (fun m => by first | (simp [entryFrame, mkF, argsToLocals, Value.category]; done) | rfl) fun p e s m below meth c s₁ EN hx hby hml hown hnm hret X0 hZ e0 hh pre0 fin => ?_
  have N0 := Fr.nil n0
  obtain ⟨T2, X2, e2, st2⟩ := initO X0 hx hZ hown (ww45 hw) (ww16 hw) (ww17 hw) e0 (g := (mkF m 1 #[vR a1] [(.ref a1)])) rfl (by rw [hml]; rfl) rfl (hb hby d9_1) (by decide) (W := 0) (by show 2 * 0 + _ ≤ _; exact Nat.le_of_eq rfl) (by decide)
  refine fin none _ _ _ _ X2 (fun _ => rfl) (fun fs hr => pre0 _ ?_) (own_atH e2 ?_) (by decide) (by decide)
  · refine o_aloadN X0 hx hby d9_0 rfl rfl (st2 _ ?_)
    exact X2.returnOut hx hret (hb hby d9_4) hr
  · exact ⟨rfl, N0, rfl⟩
def Q10_10 (Z : State) (a1 : Addr) (a2 : Addr) (h0 : Heap) (n0 : Nat) (v : Option Value) (h : Heap) (L : List Loc) : Prop := (v = some (.ref a1) ∧ Fr n0 L ∧ h = h0)
theorem rm10_10 (l : Launch) (Z : State) (a0 : Array Value) (hw : own_HW Z a0) (a1 : Addr) (a2 : Addr) (h0 : Heap) (n0 : Nat) (O0 : Old Z n0 h0) : own_Met l Z M_7 bc10 2 (some (.object "java/lang/Object")) ({ frames := 0, cells := 0, slots := 0, locals := 0 } : Room) #[(.ref a1), (.ref a2)] h0 (Q10_10 Z a1 a2 h0 n0) := by
  refine own_body (L0 := #[vR a1, vR a2]) (plainFor_of_name pn_4) (fun m => by first | (simp [entryFrame, mkF, argsToLocals, Value.category]; done) | rfl) fun p e s m below meth c s₁ EN hx hby hml hown hnm hret X0 hZ e0 hh pre0 fin => ?_
  have N0 := Fr.nil n0
  refine fin (some (.ref a1)) _ _ _ _ X0 nofun (fun fs hr => pre0 _ ?_) (own_atH e0 ?_) (by decide) (by decide)
  · refine o_aloadN X0 hx hby d10_0 rfl rfl (o_ifnonnullY X0 hx hby d10_1 (pc := 1) (pc' := 13) (by decide) (by decide) (o_aloadN X0 hx hby d10_13 rfl rfl ?_))
    show Steps p.tables e below (s₁.setTop (mkF m 14 #[vR a1, vR a2] [(.ref a1)])) _
    jvm_step X0.here [X0.here.top, hx, (hb hby d10_14), X0.method', hret, Value.isRef, FieldType.isReference]
    first | (intro acts; rw [hr _ acts rfl rfl rfl]) | rw [hr _ _ rfl rfl rfl]
    exact Steps.refl _
  · exact ⟨rfl, N0, rfl⟩
def Q13_13 (Z : State) (a1 : Addr) (p2 : Int32) (h0 : Heap) (n0 : Nat) (v : Option Value) (h : Heap) (L : List Loc) : Prop := (v = some (.int 0) ∧ Fr n0 L ∧ h = h0)
theorem rm13_13 (l : Launch) (Z : State) (a0 : Array Value) (hw : own_HW Z a0) (a1 : Addr) (p2 : Int32) (h0 : Heap) (n0 : Nat) (O0 : Old Z n0 h0) (S_3 : Sta Z Z.heap C_0 "COMPACT_STRINGS" "Z" (.int p2)) (hk5 : ¬ (p2 = (0 : Int32))) (F6 : Fld Z h0 a1 C_0 "coder" "B" (.int 0)) : own_Met l Z M_8 bc13 1 (some .byte) ({ frames := 0, cells := 0, slots := 0, locals := 0 } : Room) #[(.ref a1)] h0 (Q13_13 Z a1 p2 h0 n0) := by
  refine own_body (L0 := #[vR a1]) (plainFor_of_name pn_2) (fun m => by first | (simp [entryFrame, mkF, argsToLocals, Value.category]; done) | rfl) fun p e s m below meth c s₁ EN hx hby hml hown hnm hret X0 hZ e0 hh pre0 fin => ?_
  have N0 := Fr.nil n0
  obtain ⟨T4, X4, e4, st4⟩ := getS2 X0 hx hZ hown (host := "") (Or.inl (ww18 hw)) Via.refl e0 (Sta.ext O0.2 S_3) (g := (mkF m 0 #[vR a1] [])) rfl (hb hby d13_0)
  obtain ⟨T7, X7, e7, st7⟩ := getF X4 hx hZ hown (host := "") (Or.inl (ww30 hw)) Via.refl e4 F6 (g := (mkF m 7 #[vR a1] [(.ref a1)])) rfl rfl (hb hby d13_7)
  refine fin (some (.int 0)) _ _ _ _ X7 nofun (fun fs hr => pre0 _ ?_) (own_atH e7 ?_) (by decide) (by decide)
  · refine st4 _ (o_ifN X4 hx hby d13_3 ((if0 _ _).trans (feq hk5).1) (o_aloadN X4 hx hby d13_6 rfl rfl (st7 _ (o_goto X7 hx hby d13_10 (pc := 10) (pc' := 14) (by decide) (by decide) ?_))))
    exact retN X7 hx (t := .byte) hret (by simp) (hb hby d13_14) hr
  · exact ⟨rfl, N0, rfl⟩
def Q12_12 (Z : State) (a1 : Addr) (a2 : Addr) (p5 : Int32) (k6 : ClassId) (p10 : Int32) (h0 : Heap) (n0 : Nat) (v : Option Value) (h : Heap) (L : List Loc) : Prop := (v = some (.int 1) ∧ Fr n0 L ∧ h = h0)
theorem rm12_12 (l : Launch) (Z : State) (a0 : Array Value) (hw : own_HW Z a0) (a1 : Addr) (a2 : Addr) (p5 : Int32) (k6 : ClassId) (p10 : Int32) (h0 : Heap) (n0 : Nat) (O0 : Old Z n0 h0) (F3 : Fld Z h0 a1 C_0 "value" "[B" (.ref a2)) (V7 : Arv Z h0 a2 k6 .byte (1 : Int32) [(.int p5)] (.int (0 : Int32))) (E_9 : Exa Z h0 a1 C_0) (S_11 : Sta Z Z.heap C_0 "COMPACT_STRINGS" "Z" (.int p10)) (hk12 : ¬ (p10 = (0 : Int32))) (F13 : Fld Z h0 a1 C_0 "coder" "B" (.int 0)) : own_Met l Z M_9 bc12 1 (some .int) ({ frames := 1, cells := 0, slots := 0, locals := 13 } : Room) #[(.ref a1)] h0 (Q12_12 Z a1 a2 p5 k6 p10 h0 n0) := by
  refine own_body (L0 := #[vR a1]) (plainFor_of_name pn_2) (fun m => by first | (simp [entryFrame, mkF, argsToLocals, Value.category]; done) | rfl) fun p e s m below meth c s₁ EN hx hby hml hown hnm hret X0 hZ e0 hh pre0 fin => ?_
  have N0 := Fr.nil n0
  obtain ⟨T4, X4, e4, st4⟩ := getF X0 hx hZ hown (host := "") (Or.inl (ww32 hw)) Via.refl e0 F3 (g := (mkF m 1 #[vR a1] [(.ref a1)])) rfl rfl (hb hby d12_1)
  obtain ⟨cl8, Ar8, -, Sz8, Nn8, -, -⟩ := id V7
  obtain ⟨_, T14, L14, X14, hQ14, st14⟩ := own_cV X4 hx hZ hown (ww61 hw) (ww62 hw) (notFace_of_selects (args := #[]) (mvT hZ (ww64 hw))) (ww64 hw) (ww63 hw) (ww2 hw) (ww65 hw) E_9 (rm13_13 l Z a0 hw a1 p10 h0 n0 O0 S_11 hk12 F13) e4 pd_8 hml (hb hby d12_6) (Ls := #[vR a1]) (W := 1) (argsL := []) (rest := [(.int 1)])
  obtain ⟨rfl, u16, u17⟩ := hQ14
  have N14 := Fr.app N0 u16
  refine fin (some (.int 1)) _ _ _ _ X14 nofun (fun fs hr => pre0 _ ?_) (own_atH u17 ?_) (by decide) (by decide)
  · refine o_aloadN X0 hx hby d12_0 rfl rfl (st4 _ (X4.arraylength hx (by rw [e4]; exact Ar8.1) (State.isArrayOf_alike hZ.alike Ar8.2.1) (g := (mkF m 4 #[vR a1] [(.ref a2)])) rfl rfl (hb hby d12_4) _ ?_))
    rw [len_of Sz8 Nn8]
    refine o_aloadN X4 hx hby d12_5 rfl rfl (st14 _ (o_ishr X14 hx hby d12_9 (z := (1 : Int32)) (by decide +kernel) ?_))
    exact retI X14 hx hret (hb hby d12_10) hr
  · exact ⟨rfl, N14, rfl⟩
def Q15_15 (Z : State) (a1 : Addr) (p2 : Int32) (h0 : Heap) (n0 : Nat) (v : Option Value) (h : Heap) (L : List Loc) : Prop := (v = some (.int 1) ∧ Fr n0 L ∧ h = h0)
theorem rm15_15 (l : Launch) (Z : State) (a0 : Array Value) (hw : own_HW Z a0) (a1 : Addr) (p2 : Int32) (h0 : Heap) (n0 : Nat) (O0 : Old Z n0 h0) (S_3 : Sta Z Z.heap C_0 "COMPACT_STRINGS" "Z" (.int p2)) (hk5 : ¬ (p2 = (0 : Int32))) (F6 : Fld Z h0 a1 C_0 "coder" "B" (.int 0)) : own_Met l Z M_10 bc15 1 (some .boolean) ({ frames := 0, cells := 0, slots := 0, locals := 0 } : Room) #[(.ref a1)] h0 (Q15_15 Z a1 p2 h0 n0) := by
  refine own_body (L0 := #[vR a1]) (plainFor_of_name pn_2) (fun m => by first | (simp [entryFrame, mkF, argsToLocals, Value.category]; done) | rfl) fun p e s m below meth c s₁ EN hx hby hml hown hnm hret X0 hZ e0 hh pre0 fin => ?_
  have N0 := Fr.nil n0
  obtain ⟨T4, X4, e4, st4⟩ := getS2 X0 hx hZ hown (host := "") (Or.inl (ww18 hw)) Via.refl e0 (Sta.ext O0.2 S_3) (g := (mkF m 0 #[vR a1] [])) rfl (hb hby d15_0)
  obtain ⟨T7, X7, e7, st7⟩ := getF X4 hx hZ hown (host := "") (Or.inl (ww30 hw)) Via.refl e4 F6 (g := (mkF m 7 #[vR a1] [(.ref a1)])) rfl rfl (hb hby d15_7)
  refine fin (some (.int 1)) _ _ _ _ X7 nofun (fun fs hr => pre0 _ ?_) (own_atH e7 ?_) (by decide) (by decide)
  · refine st4 _ (o_ifN X4 hx hby d15_3 ((if0 _ _).trans (feq hk5).1) (o_aloadN X4 hx hby d15_6 rfl rfl (st7 _ (o_ifN X7 hx hby d15_10 (by decide +kernel) (o_iconst X7 hx hby d15_13 (x := 1) rfl (o_goto X7 hx hby d15_14 (pc := 14) (pc' := 18) (by decide) (by decide) ?_))))))
    exact retN X7 hx (t := .boolean) hret (by simp) (hb hby d15_18) hr
  · exact ⟨rfl, N0, rfl⟩
def Q18_18 (Z : State) (va1 : Value) (h0 : Heap) (n0 : Nat) (v : Option Value) (h : Heap) (L : List Loc) : Prop := (v = some (.int 0) ∧ Fr n0 L ∧ h = h0)
theorem rm18_18 (l : Launch) (Z : State) (a0 : Array Value) (hw : own_HW Z a0) (va1 : Value) (h0 : Heap) (n0 : Nat) (O0 : Old Z n0 h0) (ir_va1 : va1.isRef = true) : own_Met l Z M_11 bc18 3 (some .int) ({ frames := 0, cells := 0, slots := 0, locals := 0 } : Room) #[(.int 0), (.int 1), va1] h0 (Q18_18 Z va1 h0 n0) := by
  refine own_body (L0 := #[vI 0, vI 1, .val va1]) (plainFor_of_name pn_5) (fun m => by rcases ref_cases ir_va1 with h | ⟨_, h⟩ <;> subst h <;> rfl) fun p e s m below meth c s₁ EN hx hby hml hown hnm hret X0 hZ e0 hh pre0 fin => ?_
  have N0 := Fr.nil n0
  refine fin (some (.int 0)) _ _ _ _ X0 nofun (fun fs hr => pre0 _ ?_) (own_atH e0 ?_) (by decide) (by decide)
  · refine o_iloadN X0 hx hby d18_0 rfl (o_ifN X0 hx hby d18_1 (by decide +kernel) (o_iloadN X0 hx hby d18_4 rfl (o_iloadN X0 hx hby d18_5 rfl (o_icmpY X0 hx hby d18_6 (pc := 6) (pc' := 16) (by decide +kernel) (by decide) (by decide) (o_iloadN X0 hx hby d18_16 rfl ?_)))))
    exact retI X0 hx hret (hb hby d18_17) hr
  · exact ⟨rfl, N0, rfl⟩
def Q17_17 (Z : State) (va1 : Value) (h0 : Heap) (n0 : Nat) (v : Option Value) (h : Heap) (L : List Loc) : Prop := (v = none ∧ Fr n0 L ∧ h = h0)
theorem rm17_17 (l : Launch) (Z : State) (a0 : Array Value) (hw : own_HW Z a0) (va1 : Value) (h0 : Heap) (n0 : Nat) (O0 : Old Z n0 h0) (S_2 : Sta Z Z.heap C_3 "SIOOBE_FORMATTER" C_4 va1) (ir_va1 : va1.isRef = true) : own_Met l Z M_12 bc17 2 none ({ frames := 1, cells := 0, slots := 0, locals := 14 } : Room) #[(.int 0), (.int 1)] h0 (Q17_17 Z va1 h0 n0) := by
  refine own_body (L0 := #[vI 0, vI 1]) (plainFor_of_name pn_2) (fun m => by first | (simp [entryFrame, mkF, argsToLocals, Value.category]; done) | rfl) fun p e s m below meth c s₁ EN hx hby hml hown hnm hret X0 hZ e0 hh pre0 fin => ?_
  have N0 := Fr.nil n0
  obtain ⟨T3, X3, e3, st3⟩ := getS2 X0 hx hZ hown (host := "") (Or.inl (ww83 hw)) Via.refl e0 (Sta.ext O0.2 S_2) (g := (mkF m 2 #[vI 0, vI 1] [(.int 1), (.int 0)])) rfl (hb hby d17_2)
  obtain ⟨_, T4, L4, X4, hQ4, st4⟩ := own_cS X3 hx hZ hown (ww85 hw) (ww86 hw) (ww84 hw) (ww87 hw) (rm18_18 l Z a0 hw va1 h0 n0 O0 ir_va1) e3 pd_11 hml (hb hby d17_5) (Ls := #[vI 0, vI 1]) (W := 0) (argsL := [(.int 0), (.int 1), va1]) (rest := [])
  obtain ⟨rfl, u6, u7⟩ := hQ4
  have N4 := Fr.app N0 u6
  refine fin none _ _ _ _ X4 (fun _ => rfl) (fun fs hr => pre0 _ ?_) (own_atH u7 ?_) (by decide) (by decide)
  · refine o_iloadN X0 hx hby d17_0 rfl (o_iloadN X0 hx hby d17_1 rfl (st3 _ (st4 _ (o_pop X4 hx hby d17_8 rfl ?_))))
    exact X4.returnOut hx hret (hb hby d17_9) hr
  · exact ⟨rfl, N4, rfl⟩
def Q16_16 (Z : State) (a1 : Addr) (p2 : Int32) (k3 : ClassId) (va6 : Value) (h0 : Heap) (n0 : Nat) (v : Option Value) (h : Heap) (L : List Loc) : Prop := (∃ (i13 : Int32), i13 = (p2 &&& (255 : Int32)) ∧ v = some (.int i13) ∧ Fr n0 L ∧ h = h0)
theorem rm16_16 (l : Launch) (Z : State) (a0 : Array Value) (hw : own_HW Z a0) (a1 : Addr) (p2 : Int32) (k3 : ClassId) (va6 : Value) (h0 : Heap) (n0 : Nat) (O0 : Old Z n0 h0) (V4 : Arv Z h0 a1 k3 .byte (1 : Int32) [(.int p2)] (.int (0 : Int32))) (S_7 : Sta Z Z.heap C_3 "SIOOBE_FORMATTER" C_4 va6) (ir_va6 : va6.isRef = true) : own_Met l Z M_13 bc16 2 (some .char) ({ frames := 2, cells := 0, slots := 0, locals := 27 } : Room) #[(.ref a1), (.int 0)] h0 (Q16_16 Z a1 p2 k3 va6 h0 n0) := by
  refine own_body (L0 := #[vR a1, vI 0]) (plainFor_of_name pn_6) (fun m => by first | (simp [entryFrame, mkF, argsToLocals, Value.category]; done) | rfl) fun p e s m below meth c s₁ EN hx hby hml hown hnm hret X0 hZ e0 hh pre0 fin => ?_
  have N0 := Fr.nil n0
  obtain ⟨cl5, Ar5, -, Sz5, Nn5, -, -⟩ := id V4
  obtain ⟨_, T8, L8, X8, hQ8, st8⟩ := own_cS X0 hx hZ hown (ww80 hw) (ww81 hw) (ww2 hw) (ww82 hw) (rm17_17 l Z a0 hw va6 h0 n0 O0 S_7 ir_va6) e0 pd_12 hml (hb hby d16_3) (Ls := #[vR a1, vI 0]) (W := 0) (argsL := [(.int 0), (.int 1)]) (rest := [])
  obtain ⟨rfl, u10, u11⟩ := hQ8
  have N8 := Fr.app N0 u10
  obtain ⟨cl12, Ar12, -, Sz12, -, Hh12, -⟩ := id V4
  have hin12 : ¬ ((0 : Int32) < 0 ∨ cl12.slots.size ≤ ((0 : Int32)).toNatClampNeg) := inb_of Sz12 ⟨by decide +kernel, by decide +kernel⟩
  have hat12 : cl12.slots[((0 : Int32)).toNatClampNeg]? = some (.int p2) := Has.at Hh12 hin12 rfl
  obtain ⟨i13, hi13⟩ : ∃ z, z = (p2 &&& (255 : Int32)) := ⟨_, rfl⟩
  refine fin (some (.int i13)) _ _ _ _ X8 nofun (fun fs hr => pre0 _ ?_) (own_atH u11 ?_) (by decide) (by decide)
  · refine o_iloadN X0 hx hby d16_0 rfl (o_aloadN X0 hx hby d16_1 rfl rfl (X0.arraylength hx (by rw [e0]; exact Ar5.1) (State.isArrayOf_alike hZ.alike Ar5.2.1) (g := (mkF m 2 #[vR a1, vI 0] [(.ref a1), (.int 0)])) rfl rfl (hb hby d16_2) _ ?_))
    rw [len_of Sz5 Nn5]
    refine st8 _ (o_aloadN X8 hx hby d16_6 rfl rfl (o_iloadN X8 hx hby d16_7 rfl (X8.baloadBytes hx (j := (0 : Int32)) (v := (.int p2)) (by rw [u11]; exact Ar12.1) (State.isArrayOf_alike hZ.alike Ar12.2.1) Ar12.2.2 hin12 hat12 (g := (mkF m 8 #[vR a1, vI 0] [(.int 0), (.ref a1)])) rfl rfl (hb hby d16_8) _ (o_sipush X8 hx hby d16_9 (x := 255) rfl (o_iand X8 hx hby d16_12 (z := i13) hi13.symm (o_i2c X8 hx hby d16_13 (z := i13) (own_i2c255 hi13) ?_))))))
    exact retN X8 hx (t := .char) hret (by simp) (hb hby d16_14) (by rw [(own_nar255 hi13)]; exact hr)
  · exact ⟨i13, hi13, rfl, N8, rfl⟩
def Q14_14 (Z : State) (a1 : Addr) (p3 : Int32) (a11 : Addr) (p14 : Int32) (k15 : ClassId) (va17 : Value) (h0 : Heap) (n0 : Nat) (v : Option Value) (h : Heap) (L : List Loc) : Prop := (∃ (i20 : Int32), i20 = (p14 &&& (255 : Int32)) ∧ v = some (.int i20) ∧ Fr n0 L ∧ h = h0)
theorem rm14_14 (l : Launch) (Z : State) (a0 : Array Value) (hw : own_HW Z a0) (a1 : Addr) (p3 : Int32) (a11 : Addr) (p14 : Int32) (k15 : ClassId) (va17 : Value) (h0 : Heap) (n0 : Nat) (O0 : Old Z n0 h0) (E_2 : Exa Z h0 a1 C_0) (S_4 : Sta Z Z.heap C_0 "COMPACT_STRINGS" "Z" (.int p3)) (hk5 : ¬ (p3 = (0 : Int32))) (F6 : Fld Z h0 a1 C_0 "coder" "B" (.int 0)) (F12 : Fld Z h0 a1 C_0 "value" "[B" (.ref a11)) (V16 : Arv Z h0 a11 k15 .byte (1 : Int32) [(.int p14)] (.int (0 : Int32))) (S_18 : Sta Z Z.heap C_3 "SIOOBE_FORMATTER" C_4 va17) (ir_va17 : va17.isRef = true) : own_Met l Z M_14 bc14 2 (some .char) ({ frames := 3, cells := 0, slots := 0, locals := 40 } : Room) #[(.ref a1), (.int 0)] h0 (Q14_14 Z a1 p3 a11 p14 k15 va17 h0 n0) := by
  refine own_body (L0 := #[vR a1, vI 0]) (plainFor_of_name pn_2) (fun m => by first | (simp [entryFrame, mkF, argsToLocals, Value.category]; done) | rfl) fun p e s m below meth c s₁ EN hx hby hml hown hnm hret X0 hZ e0 hh pre0 fin => ?_
  have N0 := Fr.nil n0
  obtain ⟨_, T7, L7, X7, hQ7, st7⟩ := own_cV X0 hx hZ hown (ww71 hw) (ww72 hw) (notFace_of_selects (args := #[]) (mvT hZ (ww74 hw))) (ww74 hw) (ww73 hw) (ww2 hw) (ww75 hw) E_2 (rm15_15 l Z a0 hw a1 p3 h0 n0 O0 S_4 hk5 F6) e0 pd_10 hml (hb hby d14_1) (Ls := #[vR a1, vI 0]) (W := 0) (argsL := []) (rest := [])
  obtain ⟨rfl, u9, u10⟩ := hQ7
  have N7 := Fr.app N0 u9
  obtain ⟨T13, X13, e13, st13⟩ := getF X7 hx hZ hown (host := "") (Or.inl (ww32 hw)) Via.refl u10 F12 (g := (mkF m 8 #[vR a1, vI 0] [(.ref a1)])) rfl rfl (hb hby d14_8)
  obtain ⟨_, T19, L19, X19, hQ19, st19⟩ := own_cS X13 hx hZ hown (ww76 hw) (ww77 hw) (ww78 hw) (ww79 hw) (rm16_16 l Z a0 hw a11 p14 k15 va17 h0 n0 O0 V16 S_18 ir_va17) e13 pd_13 hml (hb hby d14_12) (Ls := #[vR a1, vI 0]) (W := 0) (argsL := [(.ref a11), (.int 0)]) (rest := [])
  obtain ⟨i20, u21, rfl, u23, u24⟩ := hQ19
  have N19 := Fr.app N7 u23
  refine fin (some (.int i20)) _ _ _ _ X19 nofun (fun fs hr => pre0 _ ?_) (own_atH u24 ?_) (by decide) (by decide)
  · refine o_aloadN X0 hx hby d14_0 rfl rfl (st7 _ (o_ifN X7 hx hby d14_4 (by decide +kernel) (o_aloadN X7 hx hby d14_7 rfl rfl (st13 _ (o_iloadN X13 hx hby d14_11 rfl (st19 _ ?_))))))
    exact retN X19 hx (t := .char) hret (by simp) (hb hby d14_15) (by rw [(own_nar255 u21)]; exact hr)
  · exact ⟨i20, u21, rfl, N19, rfl⟩
def Q11_11 (Z : State) (a1 : Addr) (a3 : Addr) (p5 : Int32) (k6 : ClassId) (p8 : Int32) (va16 : Value) (h0 : Heap) (n0 : Nat) (v : Option Value) (h : Heap) (L : List Loc) : Prop := (∃ (i19 : Int32), i19 = (p5 &&& (255 : Int32)) ∧ i19 < (128 : Int32) ∧ v = some (.int 1) ∧ Fr n0 L ∧ h = h0) ∨ (∃ (i19 : Int32), i19 = (p5 &&& (255 : Int32)) ∧ ¬ (i19 < (128 : Int32)) ∧ v = some (.int 2) ∧ Fr n0 L ∧ h = h0)
theorem rm11_11 (l : Launch) (Z : State) (a0 : Array Value) (hw : own_HW Z a0) (a1 : Addr) (a3 : Addr) (p5 : Int32) (k6 : ClassId) (p8 : Int32) (va16 : Value) (h0 : Heap) (n0 : Nat) (O0 : Old Z n0 h0) (E_2 : Exa Z h0 a1 C_0) (F4 : Fld Z h0 a1 C_0 "value" "[B" (.ref a3)) (V7 : Arv Z h0 a3 k6 .byte (1 : Int32) [(.int p5)] (.int (0 : Int32))) (S_9 : Sta Z Z.heap C_0 "COMPACT_STRINGS" "Z" (.int p8)) (hk10 : ¬ (p8 = (0 : Int32))) (F11 : Fld Z h0 a1 C_0 "coder" "B" (.int 0)) (S_17 : Sta Z Z.heap C_3 "SIOOBE_FORMATTER" C_4 va16) (ir_va16 : va16.isRef = true) : own_Met l Z M_15 bc11 4 (some .int) ({ frames := 4, cells := 0, slots := 0, locals := 53 } : Room) #[(.ref a1)] h0 (Q11_11 Z a1 a3 p5 k6 p8 va16 h0 n0) := by
  refine own_body (L0 := #[vR a1, .unset, .unset, .unset]) (plainFor_of_name pn_7) (fun m => by first | (simp [entryFrame, mkF, argsToLocals, Value.category]; done) | rfl) fun p e s m below meth c s₁ EN hx hby hml hown hnm hret X0 hZ e0 hh pre0 fin => ?_
  have N0 := Fr.nil n0
  obtain ⟨_, T12, L12, X12, hQ12, st12⟩ := own_cV X0 hx hZ hown (ww56 hw) (ww57 hw) (notFace_of_selects (args := #[]) (mvT hZ (ww59 hw))) (ww59 hw) (ww58 hw) (ww2 hw) (ww60 hw) E_2 (rm12_12 l Z a0 hw a1 a3 p5 k6 p8 h0 n0 O0 F4 V7 E_2 S_9 hk10 F11) e0 pd_9 hml (hb hby d11_6) (Ls := #[vR a1, vI 0, vI 0, .unset]) (W := 1) (argsL := []) (rest := [(.int 0)])
  obtain ⟨rfl, u14, u15⟩ := hQ12
  have N12 := Fr.app N0 u14
  obtain ⟨_, T18, L18, X18, hQ18, st18⟩ := own_cV X12 hx hZ hown (ww66 hw) (ww67 hw) (notFace_of_selects (args := #[]) (mvT hZ (ww69 hw))) (ww69 hw) (ww68 hw) (ww2 hw) (ww70 hw) E_2 (rm14_14 l Z a0 hw a1 p8 a3 p5 k6 va16 h0 n0 O0 E_2 S_9 hk10 F11 F4 V7 S_17 ir_va16) u15 pd_14 hml (hb hby d11_14) (Ls := #[vR a1, vI 0, vI 0, .unset]) (W := 0) (argsL := [(.int 0)]) (rest := [])
  obtain ⟨i19, u20, rfl, u22, u23⟩ := hQ18
  have N18 := Fr.app N12 u22
  have pre24 : ∀ t, Steps p.tables e below (T18.setTop (mkF m 22 #[vR a1, vI 0, vI 0, vI i19] [(.int 128), (.int i19)])) t → Steps p.tables e below EN t := by
    intro t kt
    refine pre0 t ?_
    refine o_iconst X0 hx hby d11_0 (x := 0) rfl (o_istoreN X0 hx hby d11_1 (Ls' := #[vR a1, vI 0, .unset, .unset]) rfl (o_iconst X0 hx hby d11_2 (x := 0) rfl (o_istoreN X0 hx hby d11_3 (Ls' := #[vR a1, vI 0, vI 0, .unset]) rfl (o_iloadN X0 hx hby d11_4 rfl (o_aloadN X0 hx hby d11_5 rfl rfl (st12 _ (o_icmpN X12 hx hby d11_9 (by decide +kernel) (o_aloadN X12 hx hby d11_12 rfl rfl (o_iloadN X12 hx hby d11_13 rfl (st18 _ (o_istoreN X18 hx hby d11_17 (Ls' := #[vR a1, vI 0, vI 0, vI i19]) rfl (o_iloadN X18 hx hby d11_18 rfl (o_sipush X18 hx hby d11_19 (x := 128) rfl ?_)))))))))))))
    exact kt
  by_cases hc25 : i19 < (128 : Int32)
  · skip
    obtain ⟨_, T26, L26, X26, hQ26, st26⟩ := own_cV X18 hx hZ hown (ww56 hw) (ww57 hw) (notFace_of_selects (args := #[]) (mvT hZ (ww59 hw))) (ww59 hw) (ww58 hw) (ww2 hw) (ww60 hw) E_2 (rm12_12 l Z a0 hw a1 a3 p5 k6 p8 h0 n0 O0 F4 V7 E_2 S_9 hk10 F11) u23 pd_9 hml (hb hby d11_6) (Ls := #[vR a1, vI 1, vI 1, vI i19]) (W := 1) (argsL := []) (rest := [(.int 1)])
    obtain ⟨rfl, u28, u29⟩ := hQ26
    have N26 := Fr.app N18 u28
    refine fin (some (.int 1)) _ _ _ _ X26 nofun (fun fs hr => pre24 _ ?_) (own_atH u29 ?_) (by decide) (by decide)
    · refine o_icmpN X18 hx hby d11_22 (tlt hc25).2.1 (o_iinc X18 hx hby d11_25 rfl (z := (1 : Int32)) (k' := 1) rfl (by decide +kernel) (Ls' := #[vR a1, vI 1, vI 0, vI i19]) rfl (o_goto X18 hx hby d11_28 (pc := 28) (pc' := 106) (by decide) (by decide) (o_iinc X18 hx hby d11_106 rfl (z := (1 : Int32)) (k' := 1) rfl (by decide +kernel) (Ls' := #[vR a1, vI 1, vI 1, vI i19]) rfl (o_goto X18 hx hby d11_109 (pc := 109) (pc' := 4) (by decide) (by decide) (o_iloadN X18 hx hby d11_4 rfl (o_aloadN X18 hx hby d11_5 rfl rfl (st26 _ (o_icmpY X26 hx hby d11_9 (pc := 9) (pc' := 112) (by decide +kernel) (by decide) (by decide) (o_iloadN X26 hx hby d11_112 rfl ?_)))))))))
      exact retI X26 hx hret (hb hby d11_113) hr
    · exact Or.inl (⟨i19, u20, hc25, rfl, N26, rfl⟩)
  · skip
    obtain ⟨_, T30, L30, X30, hQ30, st30⟩ := own_cV X18 hx hZ hown (ww56 hw) (ww57 hw) (notFace_of_selects (args := #[]) (mvT hZ (ww59 hw))) (ww59 hw) (ww58 hw) (ww2 hw) (ww60 hw) E_2 (rm12_12 l Z a0 hw a1 a3 p5 k6 p8 h0 n0 O0 F4 V7 E_2 S_9 hk10 F11) u23 pd_9 hml (hb hby d11_6) (Ls := #[vR a1, vI 2, vI 1, vI i19]) (W := 1) (argsL := []) (rest := [(.int 1)])
    obtain ⟨rfl, u32, u33⟩ := hQ30
    have N30 := Fr.app N18 u32
    refine fin (some (.int 2)) _ _ _ _ X30 nofun (fun fs hr => pre24 _ ?_) (own_atH u33 ?_) (by decide) (by decide)
    · refine o_icmpY X18 hx hby d11_22 (pc := 22) (pc' := 31) (flt hc25).2.1 (by decide) (by decide) (o_iloadN X18 hx hby d11_31 rfl (o_sipush X18 hx hby d11_32 (x := 2048) rfl (o_icmpN X18 hx hby d11_35 (tlt (own_ltk u20 (by decide +kernel))).2.1 (o_iinc X18 hx hby d11_38 rfl (z := (2 : Int32)) (k' := 2) rfl (by decide +kernel) (Ls' := #[vR a1, vI 2, vI 0, vI i19]) rfl (o_goto X18 hx hby d11_41 (pc := 41) (pc' := 106) (by decide) (by decide) (o_iinc X18 hx hby d11_106 rfl (z := (1 : Int32)) (k' := 1) rfl (by decide +kernel) (Ls' := #[vR a1, vI 2, vI 1, vI i19]) rfl (o_goto X18 hx hby d11_109 (pc := 109) (pc' := 4) (by decide) (by decide) (o_iloadN X18 hx hby d11_4 rfl (o_aloadN X18 hx hby d11_5 rfl rfl (st30 _ (o_icmpY X30 hx hby d11_9 (pc := 9) (pc' := 112) (by decide +kernel) (by decide) (by decide) (o_iloadN X30 hx hby d11_112 rfl ?_))))))))))))
      exact retI X30 hx hret (hb hby d11_113) hr
    · exact Or.inr (⟨i19, u20, hc25, rfl, N30, rfl⟩)
def Q19_19 (Z : State)  (h0 : Heap) (n0 : Nat) (v : Option Value) (h : Heap) (L : List Loc) : Prop := (v = none ∧ Fr n0 L ∧ h = h0)
theorem rm19_19 (l : Launch) (Z : State) (a0 : Array Value) (hw : own_HW Z a0)  (h0 : Heap) (n0 : Nat) (O0 : Old Z n0 h0) : own_Met l Z M_16 bc19 1 none ({ frames := 0, cells := 0, slots := 0, locals := 0 } : Room) #[(.int 1)] h0 (Q19_19 Z  h0 n0) := by
  refine own_body (L0 := #[vI 1]) (plainFor_of_name pn_7) (fun m => by first | (simp [entryFrame, mkF, argsToLocals, Value.category]; done) | rfl) fun p e s m below meth c s₁ EN hx hby hml hown hnm hret X0 hZ e0 hh pre0 fin => ?_
  have N0 := Fr.nil n0
  refine fin none _ _ _ _ X0 (fun _ => rfl) (fun fs hr => pre0 _ ?_) (own_atH e0 ?_) (by decide) (by decide)
  · refine o_iloadN X0 hx hby d19_0 rfl (o_iconst X0 hx hby d19_1 (x := 1) rfl (o_icmpN X0 hx hby d19_2 (by decide +kernel) (o_iloadN X0 hx hby d19_5 rfl (o_sipush X0 hx hby d19_6 (x := 1024) rfl (o_icmpY X0 hx hby d19_9 (pc := 9) (pc' := 26) (by decide +kernel) (by decide) (by decide) ?_)))))
    exact X0.returnOut hx hret (hb hby d19_26) hr
  · exact ⟨rfl, N0, rfl⟩
def Q19_20 (Z : State)  (h0 : Heap) (n0 : Nat) (v : Option Value) (h : Heap) (L : List Loc) : Prop := (v = none ∧ Fr n0 L ∧ h = h0)
theorem rm19_20 (l : Launch) (Z : State) (a0 : Array Value) (hw : own_HW Z a0)  (h0 : Heap) (n0 : Nat) (O0 : Old Z n0 h0) : own_Met l Z M_16 bc19 1 none ({ frames := 0, cells := 0, slots := 0, locals := 0 } : Room) #[(.int 2)] h0 (Q19_20 Z  h0 n0) := by
  refine own_body (L0 := #[vI 2]) (plainFor_of_name pn_7) (fun m => by first | (simp [entryFrame, mkF, argsToLocals, Value.category]; done) | rfl) fun p e s m below meth c s₁ EN hx hby hml hown hnm hret X0 hZ e0 hh pre0 fin => ?_
  have N0 := Fr.nil n0
  refine fin none _ _ _ _ X0 (fun _ => rfl) (fun fs hr => pre0 _ ?_) (own_atH e0 ?_) (by decide) (by decide)
  · refine o_iloadN X0 hx hby d19_0 rfl (o_iconst X0 hx hby d19_1 (x := 1) rfl (o_icmpN X0 hx hby d19_2 (by decide +kernel) (o_iloadN X0 hx hby d19_5 rfl (o_sipush X0 hx hby d19_6 (x := 1024) rfl (o_icmpY X0 hx hby d19_9 (pc := 9) (pc' := 26) (by decide +kernel) (by decide) (by decide) ?_)))))
    exact X0.returnOut hx hret (hb hby d19_26) hr
  · exact ⟨rfl, N0, rfl⟩
def Q8_8 (Z : State) (a1 : Addr) (a2 : Addr) (a13 : Addr) (p15 : Int32) (k16 : ClassId) (p18 : Int32) (va22 : Value) (h0 : Heap) (n0 : Nat) (v : Option Value) (h : Heap) (L : List Loc) : Prop := (v = none ∧ Fr n0 L ∧ Keep h0 h [a1] ∧ Exa Z h a1 C_1 ∧ Fld Z h a1 C_1 "text" C_2 (.ref a2))
theorem rm8_8 (l : Launch) (Z : State) (a0 : Array Value) (hw : own_HW Z a0) (a1 : Addr) (a2 : Addr) (a13 : Addr) (p15 : Int32) (k16 : ClassId) (p18 : Int32) (va22 : Value) (h0 : Heap) (n0 : Nat) (O0 : Old Z n0 h0) (E_12 : Exa Z h0 a2 C_0) (F14 : Fld Z h0 a2 C_0 "value" "[B" (.ref a13)) (V17 : Arv Z h0 a13 k16 .byte (1 : Int32) [(.int p15)] (.int (0 : Int32))) (S_19 : Sta Z Z.heap C_0 "COMPACT_STRINGS" "Z" (.int p18)) (hk20 : ¬ (p18 = (0 : Int32))) (F21 : Fld Z h0 a2 C_0 "coder" "B" (.int 0)) (S_23 : Sta Z Z.heap C_3 "SIOOBE_FORMATTER" C_4 va22) (ir_va22 : va22.isRef = true) (E_46 : Exa Z h0 a1 C_1) (F47 : Fld Z h0 a1 C_1 "text" C_2 .null) (g_a1 : n0 ≤ a1) : own_MetW l Z M_17 bc8 2 none ({ frames := 5, cells := 2, slots := 20, locals := 68 } : Room) #[(.ref a1), (.ref a2)] h0 (Q8_8 Z a1 a2 a13 p15 k16 p18 va22 h0 n0) := by
  refine own_bodyW (L0 := #[vR a1, vR a2]) (plainFor_of_name pn_7) (fun m => by first | (simp [entryFrame, mkF, argsToLocals, Value.category]; done) | rfl) fun p e s m below meth c s₁ EN hx hby hml hown hnm hret X0 hZ e0 hh pre0 fin => ?_
  have N0 := Fr.nil n0
  have Y0 : h0.size ≤ h0.size := Nat.le_refl _
  have hS0 : s.Since s.vm h0.size := (State.WarmedH.refl s).since _
  obtain ⟨_, T3, L3, X3, hQ3, st3⟩ := own_cI X0 hx hZ hown (ww40 hw) (ww41 hw) (ww43 hw) (ww44 hw) (rm9_9 l Z a0 hw a1 h0 n0 O0) e0 pd_6 hml (hb hby d8_1) (Ls := #[vR a1, vR a2]) (W := 0) (argsL := []) (rest := []) (b := a1)
  obtain ⟨rfl, u5, u6⟩ := hQ3
  have N3 := Fr.app N0 u5
  obtain ⟨a7, T7, h7, k7, X7, e7, E7, hS7, hk7, hZ7, hown7, st7⟩ := ldcS (s := s) (vm0 := s.vm) X3 hx hZ hown (ww46 hw) (own_wS hw) u6 hS0 Y0 (g := (mkF m 5 #[vR a1, vR a2] [(.ref a2)])) rfl (hb hby d8_5) (n := 16) (by decide +kernel) (by decide) (by decide) (by decide)
  have O7 : Old Z n0 h7 := O0.ext E7
  obtain ⟨_, T8, L8, X8, hQ8, st8⟩ := own_cS X7 hx hZ7 hown7 (ww49 hw) (ww50 hw) (ww51 hw) (ww52 hw) (rm10_10 l Z a0 hw a2 a7 h7 n0 O7) e7 pd_7 hml (hb hby d8_7) (Ls := #[vR a1, vR a2]) (W := 0) (argsL := [(.ref a2), (.ref a7)]) (rest := [])
  obtain ⟨rfl, u10, u11⟩ := hQ8
  have N8 := Fr.app N3 u10
  have f24 : Exa Z h7 a2 C_0 := (Exa.ext E7 E_12)
  have f25 : Fld Z h7 a2 C_0 "value" "[B" (.ref a13) := (Fld.ext E7 F14)
  have f26 : Arv Z h7 a13 k16 .byte (1 : Int32) [(.int p15)] (.int (0 : Int32)) := (V17.ext E7)
  have f27 : Fld Z h7 a2 C_0 "coder" "B" (.int 0) := (Fld.ext E7 F21)
  have pre29 : ∀ t, Steps p.tables e below (T8.setTop (mkF m 12 #[vR a1, vR a2] [(.ref a2)])) t → Steps p.tables e below EN t := by
    intro t kt
    refine pre0 t ?_
    refine o_aloadN X0 hx hby d8_0 rfl rfl (st3 _ (o_aloadN X3 hx hby d8_4 rfl rfl (st7 _ (st8 _ (o_pop X8 hx hby d8_10 rfl (o_aloadN X8 hx hby d8_11 rfl rfl ?_))))))
    exact kt
  obtain ⟨_, T28, L28, X28, hQ28, st28⟩ := own_cS X8 hx hZ7 hown7 (ww53 hw) (ww54 hw) (ww36 hw) (ww55 hw) (rm11_11 l Z a0 hw a2 a13 p15 k16 p18 va22 h7 n0 O7 f24 f25 f26 S_19 hk20 f27 S_23 ir_va22) u11 pd_15 hml (hb hby d8_12) (Ls := #[vR a1, vR a2]) (W := 0) (argsL := [(.ref a2)]) (rest := [])
  rcases hQ28 with ⟨i30, u31, u32, rfl, u34, u35⟩ | ⟨i36, u37, u38, rfl, u40, u41⟩
  · skip
    have N28 := Fr.app N8 u34
    obtain ⟨_, T42, L42, X42, hQ42, st42⟩ := own_cS X28 hx hZ7 hown7 (ww88 hw) (ww89 hw) (ww36 hw) (ww90 hw) (rm19_19 l Z a0 hw  h7 n0 O7) u35 pd_16 hml (hb hby d8_15) (Ls := #[vR a1, vR a2]) (W := 0) (argsL := [(.int 1)]) (rest := [])
    obtain ⟨rfl, u44, u45⟩ := hQ42
    have N42 := Fr.app N28 u44
    have f48 : Fld Z h7 a1 C_1 "text" C_2 .null := (Fld.ext E7 F47)
    have f49 : Exa Z h7 a1 C_1 := (Exa.ext E7 E_46)
    obtain ⟨T50, h50, X50, e50, W50, st50⟩ := putF X42 hx hZ7 hown7 (host := "") (Or.inl (ww91 hw)) Via.refl u45 f48 f49 (Or.inr ⟨(ww92 hw), rfl, hnm⟩) (ww35 hw) (ty := (.object "java/lang/String")) (by decide) rfl rfl (g := (mkF m 20 #[vR a1, vR a2] [(.ref a2), (.ref a1)])) rfl rfl (hb hby d8_20)
    have O50 : Old Z n0 h50 := O7.wr W50 g_a1
    have Fw50 : Fld Z h50 a1 C_1 "text" C_2 (.ref a2) := Fld.same W50 f48
    have N50 := Fr.snoc X50 N42 g_a1
    have f51 : Exa Z h50 a1 C_1 := (Exa.wr W50 f49)
    refine fin none _ _ _ _ T7.vm _ X50 hS7 (by rw [e50]; exact (Nat.le_trans hk7 (Keep.of_wr W50).1)) (fun _ => rfl) (fun fs hr => pre29 _ ?_) (own_atH e50 ?_) (by decide) (by decide)
    · refine st28 _ (st42 _ (o_aloadN X42 hx hby d8_18 rfl rfl (o_aloadN X42 hx hby d8_19 rfl rfl (st50 _ ?_))))
      exact X50.returnOut hx hret (hb hby d8_23) hr
    · exact ⟨rfl, N50, (((Keep.refl h0 [a1]).ext E7).wr W50 (Or.inl (List.mem_of_getElem? (i := 0) rfl))), f51, Fw50⟩
  · skip
    have N28 := Fr.app N8 u40
    obtain ⟨_, T52, L52, X52, hQ52, st52⟩ := own_cS X28 hx hZ7 hown7 (ww88 hw) (ww89 hw) (ww36 hw) (ww90 hw) (rm19_20 l Z a0 hw  h7 n0 O7) u41 pd_16 hml (hb hby d8_15) (Ls := #[vR a1, vR a2]) (W := 0) (argsL := [(.int 2)]) (rest := [])
    obtain ⟨rfl, u54, u55⟩ := hQ52
    have N52 := Fr.app N28 u54
    have f56 : Fld Z h7 a1 C_1 "text" C_2 .null := (Fld.ext E7 F47)
    have f57 : Exa Z h7 a1 C_1 := (Exa.ext E7 E_46)
    obtain ⟨T58, h58, X58, e58, W58, st58⟩ := putF X52 hx hZ7 hown7 (host := "") (Or.inl (ww91 hw)) Via.refl u55 f56 f57 (Or.inr ⟨(ww92 hw), rfl, hnm⟩) (ww35 hw) (ty := (.object "java/lang/String")) (by decide) rfl rfl (g := (mkF m 20 #[vR a1, vR a2] [(.ref a2), (.ref a1)])) rfl rfl (hb hby d8_20)
    have O58 : Old Z n0 h58 := O7.wr W58 g_a1
    have Fw58 : Fld Z h58 a1 C_1 "text" C_2 (.ref a2) := Fld.same W58 f56
    have N58 := Fr.snoc X58 N52 g_a1
    have f59 : Exa Z h58 a1 C_1 := (Exa.wr W58 f57)
    refine fin none _ _ _ _ T7.vm _ X58 hS7 (by rw [e58]; exact (Nat.le_trans hk7 (Keep.of_wr W58).1)) (fun _ => rfl) (fun fs hr => pre29 _ ?_) (own_atH e58 ?_) (by decide) (by decide)
    · refine st28 _ (st52 _ (o_aloadN X52 hx hby d8_18 rfl rfl (o_aloadN X52 hx hby d8_19 rfl rfl (st58 _ ?_))))
      exact X58.returnOut hx hret (hb hby d8_23) hr
    · exact ⟨rfl, N58, (((Keep.refl h0 [a1]).ext E7).wr W58 (Or.inl (List.mem_of_getElem? (i := 0) rfl))), f59, Fw58⟩
def Q22_23 (Z : State) (a1 : Addr) (a2 : Addr) (p3 : Int32) (k4 : ClassId) (p7 : Int32) (k8 : ClassId) (h0 : Heap) (n0 : Nat) (v : Option Value) (h : Heap) (L : List Loc) : Prop := (v = some (.int 1) ∧ Fr n0 L ∧ h = h0)
theorem rm22_23 (l : Launch) (Z : State) (a0 : Array Value) (hw : own_HW Z a0) (a1 : Addr) (a2 : Addr) (p3 : Int32) (k4 : ClassId) (p7 : Int32) (k8 : ClassId) (h0 : Heap) (n0 : Nat) (O0 : Old Z n0 h0) (V5 : Arv Z h0 a1 k4 .byte (1 : Int32) [(.int p3)] (.int (0 : Int32))) (V9 : Arv Z h0 a2 k8 .byte (1 : Int32) [(.int p7)] (.int (0 : Int32))) (hk14 : p3 = p7) : own_Met l Z M_18 bc22 3 (some .boolean) ({ frames := 0, cells := 0, slots := 0, locals := 0 } : Room) #[(.ref a1), (.ref a2)] h0 (Q22_23 Z a1 a2 p3 k4 p7 k8 h0 n0) := by
  refine own_body (L0 := #[vR a1, vR a2, .unset]) (plainFor_of_name pn_6) (fun m => by first | (simp [entryFrame, mkF, argsToLocals, Value.category]; done) | rfl) fun p e s m below meth c s₁ EN hx hby hml hown hnm hret X0 hZ e0 hh pre0 fin => ?_
  have N0 := Fr.nil n0
  obtain ⟨cl6, Ar6, -, Sz6, Nn6, -, -⟩ := id V5
  obtain ⟨cl10, Ar10, -, Sz10, Nn10, -, -⟩ := id V9
  obtain ⟨cl11, Ar11, -, Sz11, Nn11, -, -⟩ := id V5
  obtain ⟨cl12, Ar12, -, Sz12, -, Hh12, -⟩ := id V5
  have hin12 : ¬ ((0 : Int32) < 0 ∨ cl12.slots.size ≤ ((0 : Int32)).toNatClampNeg) := inb_of Sz12 ⟨by decide +kernel, by decide +kernel⟩
  have hat12 : cl12.slots[((0 : Int32)).toNatClampNeg]? = some (.int p3) := Has.at Hh12 hin12 rfl
  obtain ⟨cl13, Ar13, -, Sz13, -, Hh13, -⟩ := id V9
  have hin13 : ¬ ((0 : Int32) < 0 ∨ cl13.slots.size ≤ ((0 : Int32)).toNatClampNeg) := inb_of Sz13 ⟨by decide +kernel, by decide +kernel⟩
  have hat13 : cl13.slots[((0 : Int32)).toNatClampNeg]? = some (.int p7) := Has.at Hh13 hin13 rfl
  obtain ⟨cl15, Ar15, -, Sz15, Nn15, -, -⟩ := id V5
  refine fin (some (.int 1)) _ _ _ _ X0 nofun (fun fs hr => pre0 _ ?_) (own_atH e0 ?_) (by decide) (by decide)
  · refine o_aloadN X0 hx hby d22_0 rfl rfl (X0.arraylength hx (by rw [e0]; exact Ar6.1) (State.isArrayOf_alike hZ.alike Ar6.2.1) (g := (mkF m 1 #[vR a1, vR a2, .unset] [(.ref a1)])) rfl rfl (hb hby d22_1) _ ?_)
    rw [len_of Sz6 Nn6]
    refine o_aloadN X0 hx hby d22_2 rfl rfl (X0.arraylength hx (by rw [e0]; exact Ar10.1) (State.isArrayOf_alike hZ.alike Ar10.2.1) (g := (mkF m 3 #[vR a1, vR a2, .unset] [(.ref a2), (.int 1)])) rfl rfl (hb hby d22_3) _ ?_)
    rw [len_of Sz10 Nn10]
    refine o_icmpN X0 hx hby d22_4 (by decide +kernel) (o_iconst X0 hx hby d22_7 (x := 0) rfl (o_istoreN X0 hx hby d22_8 (Ls' := #[vR a1, vR a2, vI 0]) rfl (o_iloadN X0 hx hby d22_9 rfl (o_aloadN X0 hx hby d22_10 rfl rfl (X0.arraylength hx (by rw [e0]; exact Ar11.1) (State.isArrayOf_alike hZ.alike Ar11.2.1) (g := (mkF m 11 #[vR a1, vR a2, vI 0] [(.ref a1), (.int 0)])) rfl rfl (hb hby d22_11) _ ?_)))))
    rw [len_of Sz11 Nn11]
    refine o_icmpN X0 hx hby d22_12 (by decide +kernel) (o_aloadN X0 hx hby d22_15 rfl rfl (o_iloadN X0 hx hby d22_16 rfl (X0.baloadBytes hx (j := (0 : Int32)) (v := (.int p3)) (by rw [e0]; exact Ar12.1) (State.isArrayOf_alike hZ.alike Ar12.2.1) Ar12.2.2 hin12 hat12 (g := (mkF m 17 #[vR a1, vR a2, vI 0] [(.int 0), (.ref a1)])) rfl rfl (hb hby d22_17) _ (o_aloadN X0 hx hby d22_18 rfl rfl (o_iloadN X0 hx hby d22_19 rfl (X0.baloadBytes hx (j := (0 : Int32)) (v := (.int p7)) (by rw [e0]; exact Ar13.1) (State.isArrayOf_alike hZ.alike Ar13.2.1) Ar13.2.2 hin13 hat13 (g := (mkF m 20 #[vR a1, vR a2, vI 0] [(.int 0), (.ref a2), (.int p3)])) rfl rfl (hb hby d22_20) _ (o_icmpY X0 hx hby d22_21 (pc := 21) (pc' := 26) (teq hk14).1 (by decide) (by decide) (o_iinc X0 hx hby d22_26 rfl (z := (1 : Int32)) (k' := 1) rfl (by decide +kernel) (Ls' := #[vR a1, vR a2, vI 1]) rfl (o_goto X0 hx hby d22_29 (pc := 29) (pc' := 9) (by decide) (by decide) (o_iloadN X0 hx hby d22_9 rfl (o_aloadN X0 hx hby d22_10 rfl rfl (X0.arraylength hx (by rw [e0]; exact Ar15.1) (State.isArrayOf_alike hZ.alike Ar15.2.1) (g := (mkF m 11 #[vR a1, vR a2, vI 1] [(.ref a1), (.int 1)])) rfl rfl (hb hby d22_11) _ ?_))))))))))))
    rw [len_of Sz15 Nn15]
    refine o_icmpY X0 hx hby d22_12 (pc := 12) (pc' := 32) (by decide +kernel) (by decide) (by decide) (o_iconst X0 hx hby d22_32 (x := 1) rfl ?_)
    exact retN X0 hx (t := .boolean) hret (by simp) (hb hby d22_33) hr
  · exact ⟨rfl, N0, rfl⟩
def Q21_22 (Z : State) (a1 : Addr) (a2 : Addr) (p7 : Int32) (a15 : Addr) (a18 : Addr) (p21 : Int32) (k22 : ClassId) (p24 : Int32) (k25 : ClassId) (h0 : Heap) (n0 : Nat) (v : Option Value) (h : Heap) (L : List Loc) : Prop := (v = some (.int 1) ∧ Fr n0 L ∧ h = h0)
theorem rm21_22 (l : Launch) (Z : State) (a0 : Array Value) (hw : own_HW Z a0) (a1 : Addr) (a2 : Addr) (p7 : Int32) (a15 : Addr) (a18 : Addr) (p21 : Int32) (k22 : ClassId) (p24 : Int32) (k25 : ClassId) (h0 : Heap) (n0 : Nat) (O0 : Old Z n0 h0) (hne3 : a1 ≠ a2) (E_4 : Exa Z h0 a2 C_0) (S_8 : Sta Z Z.heap C_0 "COMPACT_STRINGS" "Z" (.int p7)) (hk10 : ¬ (p7 = (0 : Int32))) (F11 : Fld Z h0 a1 C_0 "coder" "B" (.int 0)) (F13 : Fld Z h0 a2 C_0 "coder" "B" (.int 0)) (F16 : Fld Z h0 a1 C_0 "value" "[B" (.ref a15)) (F19 : Fld Z h0 a2 C_0 "value" "[B" (.ref a18)) (V23 : Arv Z h0 a15 k22 .byte (1 : Int32) [(.int p21)] (.int (0 : Int32))) (V26 : Arv Z h0 a18 k25 .byte (1 : Int32) [(.int p24)] (.int (0 : Int32))) (hk27 : p21 = p24) : own_Met l Z M_19 bc21 3 (some .boolean) ({ frames := 1, cells := 0, slots := 0, locals := 14 } : Room) #[(.ref a1), (.ref a2)] h0 (Q21_22 Z a1 a2 p7 a15 a18 p21 k22 p24 k25 h0 n0) := by
  refine own_body (L0 := #[vR a1, vR a2, .unset]) (plainFor_of_name pn_2) (fun m => by first | (simp [entryFrame, mkF, argsToLocals, Value.category]; done) | rfl) fun p e s m below meth c s₁ EN hx hby hml hown hnm hret X0 hZ e0 hh pre0 fin => ?_
  have N0 := Fr.nil n0
  obtain ⟨T5, X5, e5, st5⟩ := instY X0 hx hZ hown (ww105 hw) e0 (Ins.self E_4) (g := (mkF m 8 #[vR a1, vR a2, .unset] [(.ref a2)])) rfl rfl (hb hby d21_8)
  obtain ⟨T6, X6, e6, st6⟩ := castY X5 hx hZ hown (ww105 hw) e5 (Ins.self E_4) (g := (mkF m 15 #[vR a1, vR a2, .unset] [(.ref a2)])) rfl rfl (hb hby d21_15)
  obtain ⟨T9, X9, e9, st9⟩ := getS2 X6 hx hZ hown (host := "") (Or.inl (ww18 hw)) Via.refl e6 (Sta.ext O0.2 S_8) (g := (mkF m 19 #[vR a1, vR a2, vR a2] [])) rfl (hb hby d21_19)
  obtain ⟨T12, X12, e12, st12⟩ := getF X9 hx hZ hown (host := "") (Or.inl (ww30 hw)) Via.refl e9 F11 (g := (mkF m 26 #[vR a1, vR a2, vR a2] [(.ref a1)])) rfl rfl (hb hby d21_26)
  obtain ⟨T14, X14, e14, st14⟩ := getF X12 hx hZ hown (host := "") (Or.inl (ww30 hw)) Via.refl e12 F13 (g := (mkF m 30 #[vR a1, vR a2, vR a2] [(.ref a2), (.int 0)])) rfl rfl (hb hby d21_30)
  obtain ⟨T17, X17, e17, st17⟩ := getF X14 hx hZ hown (host := "") (Or.inl (ww32 hw)) Via.refl e14 F16 (g := (mkF m 37 #[vR a1, vR a2, vR a2] [(.ref a1)])) rfl rfl (hb hby d21_37)
  obtain ⟨T20, X20, e20, st20⟩ := getF X17 hx hZ hown (host := "") (Or.inl (ww32 hw)) Via.refl e17 F19 (g := (mkF m 41 #[vR a1, vR a2, vR a2] [(.ref a2), (.ref a15)])) rfl rfl (hb hby d21_41)
  obtain ⟨_, T28, L28, X28, hQ28, st28⟩ := own_cS X20 hx hZ hown (ww106 hw) (ww107 hw) (ww78 hw) (ww108 hw) (rm22_23 l Z a0 hw a15 a18 p21 k22 p24 k25 h0 n0 O0 V23 V26 hk27) e20 pd_18 hml (hb hby d21_44) (Ls := #[vR a1, vR a2, vR a2]) (W := 0) (argsL := [(.ref a15), (.ref a18)]) (rest := [])
  obtain ⟨rfl, u30, u31⟩ := hQ28
  have N28 := Fr.app N0 u30
  refine fin (some (.int 1)) _ _ _ _ X28 nofun (fun fs hr => pre0 _ ?_) (own_atH u31 ?_) (by decide) (by decide)
  · refine o_aloadN X0 hx hby d21_0 rfl rfl (o_aloadN X0 hx hby d21_1 rfl rfl (Jvm.RoadKit.acmp (g := (mkF m 2 #[vR a1, vR a2, .unset] [(.ref a2), (.ref a1)])) X0 hx rfl rfl rfl (pc0 := 2) (pc' := 7) (same := false) rfl (hb hby d21_2) rfl (decide_eq_false fun q => hne3 (Value.ref.inj q)) (by decide) (by decide) (o_aloadN X0 hx hby d21_7 rfl rfl (st5 _ (o_ifN X5 hx hby d21_11 (by decide +kernel) (o_aloadN X5 hx hby d21_14 rfl rfl (st6 _ (o_astoreN X6 hx hby d21_18 rfl (Ls' := #[vR a1, vR a2, vR a2]) rfl (st9 _ (o_ifN X9 hx hby d21_22 ((if0 _ _).trans (feq hk10).1) (o_aloadN X9 hx hby d21_25 rfl rfl (st12 _ (o_aloadN X12 hx hby d21_29 rfl rfl (st14 _ (o_icmpN X14 hx hby d21_33 (by decide +kernel) (o_aloadN X14 hx hby d21_36 rfl rfl (st17 _ (o_aloadN X17 hx hby d21_40 rfl rfl (st20 _ (st28 _ (o_ifN X28 hx hby d21_47 (by decide +kernel) (o_iconst X28 hx hby d21_50 (x := 1) rfl (o_goto X28 hx hby d21_51 (pc := 51) (pc' := 55) (by decide) (by decide) ?_)))))))))))))))))))))))
    exact retN X28 hx (t := .boolean) hret (by simp) (hb hby d21_55) hr
  · exact ⟨rfl, N28, rfl⟩
def Q20_21 (Z : State) (a1 : Addr) (a2 : Addr) (a7 : Addr) (a10 : Addr) (p16 : Int32) (a21 : Addr) (a23 : Addr) (p25 : Int32) (k26 : ClassId) (p28 : Int32) (k29 : ClassId) (h0 : Heap) (n0 : Nat) (v : Option Value) (h : Heap) (L : List Loc) : Prop := (v = some (.int 1) ∧ Fr n0 L ∧ h = h0)
theorem rm20_21 (l : Launch) (Z : State) (a0 : Array Value) (hw : own_HW Z a0) (a1 : Addr) (a2 : Addr) (a7 : Addr) (a10 : Addr) (p16 : Int32) (a21 : Addr) (a23 : Addr) (p25 : Int32) (k26 : ClassId) (p28 : Int32) (k29 : ClassId) (h0 : Heap) (n0 : Nat) (O0 : Old Z n0 h0) (hne3 : a1 ≠ a2) (E_4 : Exa Z h0 a2 C_1) (F8 : Fld Z h0 a1 C_1 "text" C_2 (.ref a7)) (F11 : Fld Z h0 a2 C_1 "text" C_2 (.ref a10)) (E_13 : Exa Z h0 a7 C_0) (hne14 : a7 ≠ a10) (E_15 : Exa Z h0 a10 C_0) (S_17 : Sta Z Z.heap C_0 "COMPACT_STRINGS" "Z" (.int p16)) (hk18 : ¬ (p16 = (0 : Int32))) (F19 : Fld Z h0 a7 C_0 "coder" "B" (.int 0)) (F20 : Fld Z h0 a10 C_0 "coder" "B" (.int 0)) (F22 : Fld Z h0 a7 C_0 "value" "[B" (.ref a21)) (F24 : Fld Z h0 a10 C_0 "value" "[B" (.ref a23)) (V27 : Arv Z h0 a21 k26 .byte (1 : Int32) [(.int p25)] (.int (0 : Int32))) (V30 : Arv Z h0 a23 k29 .byte (1 : Int32) [(.int p28)] (.int (0 : Int32))) (hk31 : p25 = p28) : own_Met l Z M_20 bc20 3 (some .boolean) ({ frames := 2, cells := 0, slots := 0, locals := 28 } : Room) #[(.ref a1), (.ref a2)] h0 (Q20_21 Z a1 a2 a7 a10 p16 a21 a23 p25 k26 p28 k29 h0 n0) := by
  refine own_body (L0 := #[vR a1, vR a2, .unset]) (plainFor_of_name pn_7) (fun m => by first | (simp [entryFrame, mkF, argsToLocals, Value.category]; done) | rfl) fun p e s m below meth c s₁ EN hx hby hml hown hnm hret X0 hZ e0 hh pre0 fin => ?_
  have N0 := Fr.nil n0
  obtain ⟨T5, X5, e5, st5⟩ := instY X0 hx hZ hown (ww98 hw) e0 (Ins.self E_4) (g := (mkF m 6 #[vR a1, vR a2, .unset] [(.ref a2)])) rfl rfl (hb hby d20_6)
  obtain ⟨T6, X6, e6, st6⟩ := castY X5 hx hZ hown (ww98 hw) e5 (Ins.self E_4) (g := (mkF m 13 #[vR a1, vR a2, .unset] [(.ref a2)])) rfl rfl (hb hby d20_13)
  obtain ⟨T9, X9, e9, st9⟩ := getF X6 hx hZ hown (host := "") (Or.inl (ww91 hw)) Via.refl e6 F8 (g := (mkF m 18 #[vR a1, vR a2, vR a2] [(.ref a1)])) rfl rfl (hb hby d20_18)
  obtain ⟨T12, X12, e12, st12⟩ := getF X9 hx hZ hown (host := "") (Or.inl (ww91 hw)) Via.refl e9 F11 (g := (mkF m 22 #[vR a1, vR a2, vR a2] [(.ref a2), (.ref a7)])) rfl rfl (hb hby d20_22)
  obtain ⟨_, T32, L32, X32, hQ32, st32⟩ := own_cV X12 hx hZ hown (ww100 hw) (ww101 hw) (notFace_of_selects (args := #[]) (mvT hZ (ww103 hw))) (ww103 hw) (ww102 hw) (ww2 hw) (ww104 hw) E_13 (rm21_22 l Z a0 hw a7 a10 p16 a21 a23 p25 k26 p28 k29 h0 n0 O0 hne14 E_15 S_17 hk18 F19 F20 F22 F24 V27 V30 hk31) e12 pd_19 hml (hb hby d20_25) (Ls := #[vR a1, vR a2, vR a2]) (W := 0) (argsL := [(.ref a10)]) (rest := [])
  obtain ⟨rfl, u34, u35⟩ := hQ32
  have N32 := Fr.app N0 u34
  refine fin (some (.int 1)) _ _ _ _ X32 nofun (fun fs hr => pre0 _ ?_) (own_atH u35 ?_) (by decide) (by decide)
  · refine o_aloadN X0 hx hby d20_0 rfl rfl (o_aloadN X0 hx hby d20_1 rfl rfl (Jvm.RoadKit.acmp (g := (mkF m 2 #[vR a1, vR a2, .unset] [(.ref a2), (.ref a1)])) X0 hx rfl rfl rfl (pc0 := 2) (pc' := 5) (same := false) rfl (hb hby d20_2) rfl (decide_eq_false fun q => hne3 (Value.ref.inj q)) (by decide) (by decide) (o_aloadN X0 hx hby d20_5 rfl rfl (st5 _ (o_ifN X5 hx hby d20_9 (by decide +kernel) (o_aloadN X5 hx hby d20_12 rfl rfl (st6 _ (o_astoreN X6 hx hby d20_16 rfl (Ls' := #[vR a1, vR a2, vR a2]) rfl (o_aloadN X6 hx hby d20_17 rfl rfl (st9 _ (o_aloadN X9 hx hby d20_21 rfl rfl (st12 _ (st32 _ (o_ifN X32 hx hby d20_28 (by decide +kernel) (o_iconst X32 hx hby d20_31 (x := 1) rfl (o_goto X32 hx hby d20_32 (pc := 32) (pc' := 36) (by decide) (by decide) ?_))))))))))))))))
    exact retN X32 hx (t := .boolean) hret (by simp) (hb hby d20_36) hr
  · exact ⟨rfl, N32, rfl⟩
def Q20_24 (Z : State) (a1 : Addr) (h0 : Heap) (n0 : Nat) (v : Option Value) (h : Heap) (L : List Loc) : Prop := (v = some (.int 1) ∧ Fr n0 L ∧ h = h0)
theorem rm20_24 (l : Launch) (Z : State) (a0 : Array Value) (hw : own_HW Z a0) (a1 : Addr) (h0 : Heap) (n0 : Nat) (O0 : Old Z n0 h0) : own_Met l Z M_20 bc20 3 (some .boolean) ({ frames := 0, cells := 0, slots := 0, locals := 0 } : Room) #[(.ref a1), (.ref a1)] h0 (Q20_24 Z a1 h0 n0) := by
  refine own_body (L0 := #[vR a1, vR a1, .unset]) (plainFor_of_name pn_7) (fun m => by first | (simp [entryFrame, mkF, argsToLocals, Value.category]; done) | rfl) fun p e s m below meth c s₁ EN hx hby hml hown hnm hret X0 hZ e0 hh pre0 fin => ?_
  have N0 := Fr.nil n0
  refine fin (some (.int 1)) _ _ _ _ X0 nofun (fun fs hr => pre0 _ ?_) (own_atH e0 ?_) (by decide) (by decide)
  · refine o_aloadN X0 hx hby d20_0 rfl rfl (o_aloadN X0 hx hby d20_1 rfl rfl (Jvm.RoadKit.acmp (g := (mkF m 2 #[vR a1, vR a1, .unset] [(.ref a1), (.ref a1)])) X0 hx rfl rfl rfl (pc0 := 2) (pc' := 31) (same := true) rfl (hb hby d20_2) rfl (decide_eq_true rfl) (by decide) (by decide) (o_iconst X0 hx hby d20_31 (x := 1) rfl (o_goto X0 hx hby d20_32 (pc := 32) (pc' := 36) (by decide) (by decide) ?_))))
    exact retN X0 hx (t := .boolean) hret (by simp) (hb hby d20_36) hr
  · exact ⟨rfl, N0, rfl⟩
def Q20_25 (Z : State) (a1 : Addr) (h0 : Heap) (n0 : Nat) (v : Option Value) (h : Heap) (L : List Loc) : Prop := (v = some (.int 0) ∧ Fr n0 L ∧ h = h0)
theorem rm20_25 (l : Launch) (Z : State) (a0 : Array Value) (hw : own_HW Z a0) (a1 : Addr) (h0 : Heap) (n0 : Nat) (O0 : Old Z n0 h0) : own_Met l Z M_20 bc20 3 (some .boolean) ({ frames := 0, cells := 0, slots := 0, locals := 0 } : Room) #[(.ref a1), .null] h0 (Q20_25 Z a1 h0 n0) := by
  refine own_body (L0 := #[vR a1, vN, .unset]) (plainFor_of_name pn_7) (fun m => by first | (simp [entryFrame, mkF, argsToLocals, Value.category]; done) | rfl) fun p e s m below meth c s₁ EN hx hby hml hown hnm hret X0 hZ e0 hh pre0 fin => ?_
  have N0 := Fr.nil n0
  refine fin (some (.int 0)) _ _ _ _ X0 nofun (fun fs hr => pre0 _ ?_) (own_atH e0 ?_) (by decide) (by decide)
  · refine o_aloadN X0 hx hby d20_0 rfl rfl (o_aloadN X0 hx hby d20_1 rfl rfl (Jvm.RoadKit.acmp (g := (mkF m 2 #[vR a1, vN, .unset] [.null, (.ref a1)])) X0 hx rfl rfl rfl (pc0 := 2) (pc' := 5) (same := false) rfl (hb hby d20_2) rfl (decide_eq_false nofun) (by decide) (by decide) (o_aloadN X0 hx hby d20_5 rfl rfl (X0.instanceofNull hx (g := (mkF m 6 #[vR a1, vN, .unset] [.null])) rfl rfl (hb hby d20_6) _ (o_ifY X0 hx hby d20_9 (pc := 9) (pc' := 35) (by decide +kernel) (by decide) (by decide) (o_iconst X0 hx hby d20_35 (x := 0) rfl ?_))))))
    exact retN X0 hx (t := .boolean) hret (by simp) (hb hby d20_36) hr
  · exact ⟨rfl, N0, rfl⟩
def Q20_26 (Z : State) (a1 : Addr) (a2 : Addr) (h0 : Heap) (n0 : Nat) (v : Option Value) (h : Heap) (L : List Loc) : Prop := (v = some (.int 0) ∧ Fr n0 L ∧ h = h0)
theorem rm20_26 (l : Launch) (Z : State) (a0 : Array Value) (hw : own_HW Z a0) (a1 : Addr) (a2 : Addr) (h0 : Heap) (n0 : Nat) (O0 : Old Z n0 h0) (hne3 : a1 ≠ a2) (E_4 : Exa Z h0 a2 C_0) : own_Met l Z M_20 bc20 3 (some .boolean) ({ frames := 0, cells := 0, slots := 0, locals := 0 } : Room) #[(.ref a1), (.ref a2)] h0 (Q20_26 Z a1 a2 h0 n0) := by
  refine own_body (L0 := #[vR a1, vR a2, .unset]) (plainFor_of_name pn_7) (fun m => by first | (simp [entryFrame, mkF, argsToLocals, Value.category]; done) | rfl) fun p e s m below meth c s₁ EN hx hby hml hown hnm hret X0 hZ e0 hh pre0 fin => ?_
  have N0 := Fr.nil n0
  obtain ⟨T5, X5, e5, st5⟩ := instNo X0 hx hZ hown (ww98 hw) e0 E_4 (own_notCast (ww109 hw) (ww110 hw) (ww35 hw) (by decide) (by decide)) (g := (mkF m 6 #[vR a1, vR a2, .unset] [(.ref a2)])) rfl rfl (hb hby d20_6)
  refine fin (some (.int 0)) _ _ _ _ X5 nofun (fun fs hr => pre0 _ ?_) (own_atH e5 ?_) (by decide) (by decide)
  · refine o_aloadN X0 hx hby d20_0 rfl rfl (o_aloadN X0 hx hby d20_1 rfl rfl (Jvm.RoadKit.acmp (g := (mkF m 2 #[vR a1, vR a2, .unset] [(.ref a2), (.ref a1)])) X0 hx rfl rfl rfl (pc0 := 2) (pc' := 5) (same := false) rfl (hb hby d20_2) rfl (decide_eq_false fun q => hne3 (Value.ref.inj q)) (by decide) (by decide) (o_aloadN X0 hx hby d20_5 rfl rfl (st5 _ (o_ifY X5 hx hby d20_9 (pc := 9) (pc' := 35) (by decide +kernel) (by decide) (by decide) (o_iconst X5 hx hby d20_35 (x := 0) rfl ?_))))))
    exact retN X5 hx (t := .boolean) hret (by simp) (hb hby d20_36) hr
  · exact ⟨rfl, N0, rfl⟩
def Q22_29 (Z : State) (a1 : Addr) (a2 : Addr) (p3 : Int32) (k4 : ClassId) (p7 : Int32) (k8 : ClassId) (h0 : Heap) (n0 : Nat) (v : Option Value) (h : Heap) (L : List Loc) : Prop := (v = some (.int 0) ∧ Fr n0 L ∧ h = h0)
theorem rm22_29 (l : Launch) (Z : State) (a0 : Array Value) (hw : own_HW Z a0) (a1 : Addr) (a2 : Addr) (p3 : Int32) (k4 : ClassId) (p7 : Int32) (k8 : ClassId) (h0 : Heap) (n0 : Nat) (O0 : Old Z n0 h0) (V5 : Arv Z h0 a1 k4 .byte (1 : Int32) [(.int p3)] (.int (0 : Int32))) (V9 : Arv Z h0 a2 k8 .byte (1 : Int32) [(.int p7)] (.int (0 : Int32))) (hk14 : ¬ (p3 = p7)) : own_Met l Z M_18 bc22 3 (some .boolean) ({ frames := 0, cells := 0, slots := 0, locals := 0 } : Room) #[(.ref a1), (.ref a2)] h0 (Q22_29 Z a1 a2 p3 k4 p7 k8 h0 n0) := by
  refine own_body (L0 := #[vR a1, vR a2, .unset]) (plainFor_of_name pn_6) (fun m => by first | (simp [entryFrame, mkF, argsToLocals, Value.category]; done) | rfl) fun p e s m below meth c s₁ EN hx hby hml hown hnm hret X0 hZ e0 hh pre0 fin => ?_
  have N0 := Fr.nil n0
  obtain ⟨cl6, Ar6, -, Sz6, Nn6, -, -⟩ := id V5
  obtain ⟨cl10, Ar10, -, Sz10, Nn10, -, -⟩ := id V9
  obtain ⟨cl11, Ar11, -, Sz11, Nn11, -, -⟩ := id V5
  obtain ⟨cl12, Ar12, -, Sz12, -, Hh12, -⟩ := id V5
  have hin12 : ¬ ((0 : Int32) < 0 ∨ cl12.slots.size ≤ ((0 : Int32)).toNatClampNeg) := inb_of Sz12 ⟨by decide +kernel, by decide +kernel⟩
  have hat12 : cl12.slots[((0 : Int32)).toNatClampNeg]? = some (.int p3) := Has.at Hh12 hin12 rfl
  obtain ⟨cl13, Ar13, -, Sz13, -, Hh13, -⟩ := id V9
  have hin13 : ¬ ((0 : Int32) < 0 ∨ cl13.slots.size ≤ ((0 : Int32)).toNatClampNeg) := inb_of Sz13 ⟨by decide +kernel, by decide +kernel⟩
  have hat13 : cl13.slots[((0 : Int32)).toNatClampNeg]? = some (.int p7) := Has.at Hh13 hin13 rfl
  refine fin (some (.int 0)) _ _ _ _ X0 nofun (fun fs hr => pre0 _ ?_) (own_atH e0 ?_) (by decide) (by decide)
  · refine o_aloadN X0 hx hby d22_0 rfl rfl (X0.arraylength hx (by rw [e0]; exact Ar6.1) (State.isArrayOf_alike hZ.alike Ar6.2.1) (g := (mkF m 1 #[vR a1, vR a2, .unset] [(.ref a1)])) rfl rfl (hb hby d22_1) _ ?_)
    rw [len_of Sz6 Nn6]
    refine o_aloadN X0 hx hby d22_2 rfl rfl (X0.arraylength hx (by rw [e0]; exact Ar10.1) (State.isArrayOf_alike hZ.alike Ar10.2.1) (g := (mkF m 3 #[vR a1, vR a2, .unset] [(.ref a2), (.int 1)])) rfl rfl (hb hby d22_3) _ ?_)
    rw [len_of Sz10 Nn10]
    refine o_icmpN X0 hx hby d22_4 (by decide +kernel) (o_iconst X0 hx hby d22_7 (x := 0) rfl (o_istoreN X0 hx hby d22_8 (Ls' := #[vR a1, vR a2, vI 0]) rfl (o_iloadN X0 hx hby d22_9 rfl (o_aloadN X0 hx hby d22_10 rfl rfl (X0.arraylength hx (by rw [e0]; exact Ar11.1) (State.isArrayOf_alike hZ.alike Ar11.2.1) (g := (mkF m 11 #[vR a1, vR a2, vI 0] [(.ref a1), (.int 0)])) rfl rfl (hb hby d22_11) _ ?_)))))
    rw [len_of Sz11 Nn11]
    refine o_icmpN X0 hx hby d22_12 (by decide +kernel) (o_aloadN X0 hx hby d22_15 rfl rfl (o_iloadN X0 hx hby d22_16 rfl (X0.baloadBytes hx (j := (0 : Int32)) (v := (.int p3)) (by rw [e0]; exact Ar12.1) (State.isArrayOf_alike hZ.alike Ar12.2.1) Ar12.2.2 hin12 hat12 (g := (mkF m 17 #[vR a1, vR a2, vI 0] [(.int 0), (.ref a1)])) rfl rfl (hb hby d22_17) _ (o_aloadN X0 hx hby d22_18 rfl rfl (o_iloadN X0 hx hby d22_19 rfl (X0.baloadBytes hx (j := (0 : Int32)) (v := (.int p7)) (by rw [e0]; exact Ar13.1) (State.isArrayOf_alike hZ.alike Ar13.2.1) Ar13.2.2 hin13 hat13 (g := (mkF m 20 #[vR a1, vR a2, vI 0] [(.int 0), (.ref a2), (.int p3)])) rfl rfl (hb hby d22_20) _ (o_icmpN X0 hx hby d22_21 (feq hk14).1 (o_iconst X0 hx hby d22_24 (x := 0) rfl ?_))))))))
    exact retN X0 hx (t := .boolean) hret (by simp) (hb hby d22_25) hr
  · exact ⟨rfl, N0, rfl⟩
def Q21_28 (Z : State) (a1 : Addr) (a2 : Addr) (p7 : Int32) (a15 : Addr) (a18 : Addr) (p21 : Int32) (k22 : ClassId) (p24 : Int32) (k25 : ClassId) (h0 : Heap) (n0 : Nat) (v : Option Value) (h : Heap) (L : List Loc) : Prop := (v = some (.int 0) ∧ Fr n0 L ∧ h = h0)
theorem rm21_28 (l : Launch) (Z : State) (a0 : Array Value) (hw : own_HW Z a0) (a1 : Addr) (a2 : Addr) (p7 : Int32) (a15 : Addr) (a18 : Addr) (p21 : Int32) (k22 : ClassId) (p24 : Int32) (k25 : ClassId) (h0 : Heap) (n0 : Nat) (O0 : Old Z n0 h0) (hne3 : a1 ≠ a2) (E_4 : Exa Z h0 a2 C_0) (S_8 : Sta Z Z.heap C_0 "COMPACT_STRINGS" "Z" (.int p7)) (hk10 : ¬ (p7 = (0 : Int32))) (F11 : Fld Z h0 a1 C_0 "coder" "B" (.int 0)) (F13 : Fld Z h0 a2 C_0 "coder" "B" (.int 0)) (F16 : Fld Z h0 a1 C_0 "value" "[B" (.ref a15)) (F19 : Fld Z h0 a2 C_0 "value" "[B" (.ref a18)) (V23 : Arv Z h0 a15 k22 .byte (1 : Int32) [(.int p21)] (.int (0 : Int32))) (V26 : Arv Z h0 a18 k25 .byte (1 : Int32) [(.int p24)] (.int (0 : Int32))) (hk27 : ¬ (p21 = p24)) : own_Met l Z M_19 bc21 3 (some .boolean) ({ frames := 1, cells := 0, slots := 0, locals := 14 } : Room) #[(.ref a1), (.ref a2)] h0 (Q21_28 Z a1 a2 p7 a15 a18 p21 k22 p24 k25 h0 n0) := by
  refine own_body (L0 := #[vR a1, vR a2, .unset]) (plainFor_of_name pn_2) (fun m => by first | (simp [entryFrame, mkF, argsToLocals, Value.category]; done) | rfl) fun p e s m below meth c s₁ EN hx hby hml hown hnm hret X0 hZ e0 hh pre0 fin => ?_
  have N0 := Fr.nil n0
  obtain ⟨T5, X5, e5, st5⟩ := instY X0 hx hZ hown (ww105 hw) e0 (Ins.self E_4) (g := (mkF m 8 #[vR a1, vR a2, .unset] [(.ref a2)])) rfl rfl (hb hby d21_8)
  obtain ⟨T6, X6, e6, st6⟩ := castY X5 hx hZ hown (ww105 hw) e5 (Ins.self E_4) (g := (mkF m 15 #[vR a1, vR a2, .unset] [(.ref a2)])) rfl rfl (hb hby d21_15)
  obtain ⟨T9, X9, e9, st9⟩ := getS2 X6 hx hZ hown (host := "") (Or.inl (ww18 hw)) Via.refl e6 (Sta.ext O0.2 S_8) (g := (mkF m 19 #[vR a1, vR a2, vR a2] [])) rfl (hb hby d21_19)
  obtain ⟨T12, X12, e12, st12⟩ := getF X9 hx hZ hown (host := "") (Or.inl (ww30 hw)) Via.refl e9 F11 (g := (mkF m 26 #[vR a1, vR a2, vR a2] [(.ref a1)])) rfl rfl (hb hby d21_26)
  obtain ⟨T14, X14, e14, st14⟩ := getF X12 hx hZ hown (host := "") (Or.inl (ww30 hw)) Via.refl e12 F13 (g := (mkF m 30 #[vR a1, vR a2, vR a2] [(.ref a2), (.int 0)])) rfl rfl (hb hby d21_30)
  obtain ⟨T17, X17, e17, st17⟩ := getF X14 hx hZ hown (host := "") (Or.inl (ww32 hw)) Via.refl e14 F16 (g := (mkF m 37 #[vR a1, vR a2, vR a2] [(.ref a1)])) rfl rfl (hb hby d21_37)
  obtain ⟨T20, X20, e20, st20⟩ := getF X17 hx hZ hown (host := "") (Or.inl (ww32 hw)) Via.refl e17 F19 (g := (mkF m 41 #[vR a1, vR a2, vR a2] [(.ref a2), (.ref a15)])) rfl rfl (hb hby d21_41)
  obtain ⟨_, T28, L28, X28, hQ28, st28⟩ := own_cS X20 hx hZ hown (ww106 hw) (ww107 hw) (ww78 hw) (ww108 hw) (rm22_29 l Z a0 hw a15 a18 p21 k22 p24 k25 h0 n0 O0 V23 V26 hk27) e20 pd_18 hml (hb hby d21_44) (Ls := #[vR a1, vR a2, vR a2]) (W := 0) (argsL := [(.ref a15), (.ref a18)]) (rest := [])
  obtain ⟨rfl, u30, u31⟩ := hQ28
  have N28 := Fr.app N0 u30
  refine fin (some (.int 0)) _ _ _ _ X28 nofun (fun fs hr => pre0 _ ?_) (own_atH u31 ?_) (by decide) (by decide)
  · refine o_aloadN X0 hx hby d21_0 rfl rfl (o_aloadN X0 hx hby d21_1 rfl rfl (Jvm.RoadKit.acmp (g := (mkF m 2 #[vR a1, vR a2, .unset] [(.ref a2), (.ref a1)])) X0 hx rfl rfl rfl (pc0 := 2) (pc' := 7) (same := false) rfl (hb hby d21_2) rfl (decide_eq_false fun q => hne3 (Value.ref.inj q)) (by decide) (by decide) (o_aloadN X0 hx hby d21_7 rfl rfl (st5 _ (o_ifN X5 hx hby d21_11 (by decide +kernel) (o_aloadN X5 hx hby d21_14 rfl rfl (st6 _ (o_astoreN X6 hx hby d21_18 rfl (Ls' := #[vR a1, vR a2, vR a2]) rfl (st9 _ (o_ifN X9 hx hby d21_22 ((if0 _ _).trans (feq hk10).1) (o_aloadN X9 hx hby d21_25 rfl rfl (st12 _ (o_aloadN X12 hx hby d21_29 rfl rfl (st14 _ (o_icmpN X14 hx hby d21_33 (by decide +kernel) (o_aloadN X14 hx hby d21_36 rfl rfl (st17 _ (o_aloadN X17 hx hby d21_40 rfl rfl (st20 _ (st28 _ (o_ifY X28 hx hby d21_47 (pc := 47) (pc' := 54) (by decide +kernel) (by decide) (by decide) (o_iconst X28 hx hby d21_54 (x := 0) rfl ?_))))))))))))))))))))))
    exact retN X28 hx (t := .boolean) hret (by simp) (hb hby d21_55) hr
  · exact ⟨rfl, N28, rfl⟩
def Q20_27 (Z : State) (a1 : Addr) (a2 : Addr) (a7 : Addr) (a10 : Addr) (p16 : Int32) (a21 : Addr) (a23 : Addr) (p25 : Int32) (k26 : ClassId) (p28 : Int32) (k29 : ClassId) (h0 : Heap) (n0 : Nat) (v : Option Value) (h : Heap) (L : List Loc) : Prop := (v = some (.int 0) ∧ Fr n0 L ∧ h = h0)
theorem rm20_27 (l : Launch) (Z : State) (a0 : Array Value) (hw : own_HW Z a0) (a1 : Addr) (a2 : Addr) (a7 : Addr) (a10 : Addr) (p16 : Int32) (a21 : Addr) (a23 : Addr) (p25 : Int32) (k26 : ClassId) (p28 : Int32) (k29 : ClassId) (h0 : Heap) (n0 : Nat) (O0 : Old Z n0 h0) (hne3 : a1 ≠ a2) (E_4 : Exa Z h0 a2 C_1) (F8 : Fld Z h0 a1 C_1 "text" C_2 (.ref a7)) (F11 : Fld Z h0 a2 C_1 "text" C_2 (.ref a10)) (E_13 : Exa Z h0 a7 C_0) (hne14 : a7 ≠ a10) (E_15 : Exa Z h0 a10 C_0) (S_17 : Sta Z Z.heap C_0 "COMPACT_STRINGS" "Z" (.int p16)) (hk18 : ¬ (p16 = (0 : Int32))) (F19 : Fld Z h0 a7 C_0 "coder" "B" (.int 0)) (F20 : Fld Z h0 a10 C_0 "coder" "B" (.int 0)) (F22 : Fld Z h0 a7 C_0 "value" "[B" (.ref a21)) (F24 : Fld Z h0 a10 C_0 "value" "[B" (.ref a23)) (V27 : Arv Z h0 a21 k26 .byte (1 : Int32) [(.int p25)] (.int (0 : Int32))) (V30 : Arv Z h0 a23 k29 .byte (1 : Int32) [(.int p28)] (.int (0 : Int32))) (hk31 : ¬ (p25 = p28)) : own_Met l Z M_20 bc20 3 (some .boolean) ({ frames := 2, cells := 0, slots := 0, locals := 28 } : Room) #[(.ref a1), (.ref a2)] h0 (Q20_27 Z a1 a2 a7 a10 p16 a21 a23 p25 k26 p28 k29 h0 n0) := by
  refine own_body (L0 := #[vR a1, vR a2, .unset]) (plainFor_of_name pn_7) (fun m => by first | (simp [entryFrame, mkF, argsToLocals, Value.category]; done) | rfl) fun p e s m below meth c s₁ EN hx hby hml hown hnm hret X0 hZ e0 hh pre0 fin => ?_
  have N0 := Fr.nil n0
  obtain ⟨T5, X5, e5, st5⟩ := instY X0 hx hZ hown (ww98 hw) e0 (Ins.self E_4) (g := (mkF m 6 #[vR a1, vR a2, .unset] [(.ref a2)])) rfl rfl (hb hby d20_6)
  obtain ⟨T6, X6, e6, st6⟩ := castY X5 hx hZ hown (ww98 hw) e5 (Ins.self E_4) (g := (mkF m 13 #[vR a1, vR a2, .unset] [(.ref a2)])) rfl rfl (hb hby d20_13)
  obtain ⟨T9, X9, e9, st9⟩ := getF X6 hx hZ hown (host := "") (Or.inl (ww91 hw)) Via.refl e6 F8 (g := (mkF m 18 #[vR a1, vR a2, vR a2] [(.ref a1)])) rfl rfl (hb hby d20_18)
  obtain ⟨T12, X12, e12, st12⟩ := getF X9 hx hZ hown (host := "") (Or.inl (ww91 hw)) Via.refl e9 F11 (g := (mkF m 22 #[vR a1, vR a2, vR a2] [(.ref a2), (.ref a7)])) rfl rfl (hb hby d20_22)
  obtain ⟨_, T32, L32, X32, hQ32, st32⟩ := own_cV X12 hx hZ hown (ww100 hw) (ww101 hw) (notFace_of_selects (args := #[]) (mvT hZ (ww103 hw))) (ww103 hw) (ww102 hw) (ww2 hw) (ww104 hw) E_13 (rm21_28 l Z a0 hw a7 a10 p16 a21 a23 p25 k26 p28 k29 h0 n0 O0 hne14 E_15 S_17 hk18 F19 F20 F22 F24 V27 V30 hk31) e12 pd_19 hml (hb hby d20_25) (Ls := #[vR a1, vR a2, vR a2]) (W := 0) (argsL := [(.ref a10)]) (rest := [])
  obtain ⟨rfl, u34, u35⟩ := hQ32
  have N32 := Fr.app N0 u34
  refine fin (some (.int 0)) _ _ _ _ X32 nofun (fun fs hr => pre0 _ ?_) (own_atH u35 ?_) (by decide) (by decide)
  · refine o_aloadN X0 hx hby d20_0 rfl rfl (o_aloadN X0 hx hby d20_1 rfl rfl (Jvm.RoadKit.acmp (g := (mkF m 2 #[vR a1, vR a2, .unset] [(.ref a2), (.ref a1)])) X0 hx rfl rfl rfl (pc0 := 2) (pc' := 5) (same := false) rfl (hb hby d20_2) rfl (decide_eq_false fun q => hne3 (Value.ref.inj q)) (by decide) (by decide) (o_aloadN X0 hx hby d20_5 rfl rfl (st5 _ (o_ifN X5 hx hby d20_9 (by decide +kernel) (o_aloadN X5 hx hby d20_12 rfl rfl (st6 _ (o_astoreN X6 hx hby d20_16 rfl (Ls' := #[vR a1, vR a2, vR a2]) rfl (o_aloadN X6 hx hby d20_17 rfl rfl (st9 _ (o_aloadN X9 hx hby d20_21 rfl rfl (st12 _ (st32 _ (o_ifY X32 hx hby d20_28 (pc := 28) (pc' := 35) (by decide +kernel) (by decide) (by decide) (o_iconst X32 hx hby d20_35 (x := 0) rfl ?_)))))))))))))))
    exact retN X32 hx (t := .boolean) hret (by simp) (hb hby d20_36) hr
  · exact ⟨rfl, N32, rfl⟩
def Q1_30 (Z : State) (p1 : Int32) (p2 : Int32) (p3 : Int32) (h0 : Heap) (n0 : Nat) (v : Option Value) (h : Heap) (L : List Loc) : Prop := (∃ (i11 : Int32) (i7 : Int32) (b4 : Addr) (k4 : ClassId), i7 = (nar .char p1) ∧ i11 = (nar .char p2) ∧ v = some (.ref b4) ∧ Fr n0 L ∧ h0.size ≤ b4 ∧ b4 < h.size ∧ Keep h0 h [] ∧ Exa Z h b4 "[C" ∧ Arv Z h b4 k4 .char (2 : Int32) [(.int i7), (.int i11)] (.int (0 : Int32)))
theorem rm1_30 (l : Launch) (Z : State) (a0 : Array Value) (hw : own_HW Z a0) (p1 : Int32) (p2 : Int32) (p3 : Int32) (h0 : Heap) (n0 : Nat) (O0 : Old Z n0 h0) : own_Met l Z M_0 bc1 5 (some (.array .char)) ({ frames := 0, cells := 1, slots := 2, locals := 0 } : Room) #[(.int 2), (.int p1), (.int p2), (.int p3)] h0 (Q1_30 Z p1 p2 p3 h0 n0) := by
  refine own_body (L0 := #[vI 2, vI p1, vI p2, vI p3, .unset]) (plainFor_of_name pn_0) (fun m => by first | (simp [entryFrame, mkF, argsToLocals, Value.category]; done) | rfl) fun p e s m below meth c s₁ EN hx hby hml hown hnm hret X0 hZ e0 hh pre0 fin => ?_
  have N0 := Fr.nil n0
  obtain ⟨T4, h4, k4, X4, e4, E4, A4, Ex4, st4⟩ := newPE (aty := .char) X0 hx hZ (ww7 hw) e0 (g := (mkF m 1 #[vI 2, vI p1, vI p2, vI p3, .unset] [(.int 2)])) rfl (hb hby d1_1) rfl (by decide +kernel) (cap := 2) (by decide +kernel) (by decide) (by decide) (by decide) (ad := "[C") (by decide +kernel)
  obtain ⟨b4, g4⟩ : ∃ z, z = h0.size := ⟨_, rfl⟩
  rw [← g4] at A4 Ex4 st4
  have O4 : Old Z n0 h4 := O0.ext E4
  have bd_b4 : h0.size ≤ b4 := Nat.le_of_eq g4.symm
  have g_b4 : n0 ≤ b4 := Nat.le_trans (own_z O0) bd_b4
  have sz_b4 : h0.size ≤ b4 := Nat.le_trans (Nat.le_refl _) bd_b4
  have lt_b4 : b4 < h4.size := A4.lt
  have V4 : Arv Z h4 b4 k4 .char (2 : Int32) [] (.int (0 : Int32)) := Arv.new A4 (by decide +kernel)
  have Vp5 : Arv Z h4 b4 k4 .char (2 : Int32) [(.int 0)] (.int (0 : Int32)) := V4.pad (pad_rep [] (.int (0 : Int32)) 1)
  obtain ⟨cl6, Ar6, qk6, Sz6, Nn6, Hh6, Gg6⟩ := id Vp5
  have hin6 : ¬ ((0 : Int32) < 0 ∨ cl6.slots.size ≤ ((0 : Int32)).toNatClampNeg) := inb_of Sz6 ⟨by decide +kernel, by decide +kernel⟩
  obtain ⟨i7, hi7⟩ : ∃ z, z = (nar .char p1) := ⟨_, rfl⟩
  obtain ⟨T8, h8, X8, e8, W8, st8⟩ := stC X4 hx hZ e4 Ar6 (j := (0 : Int32)) hin6 (g := (mkF m 9 #[vI 2, vI p1, vI p2, vI p3, vR b4] [(.int p1), (.int 0), (.ref b4)])) rfl rfl (hb hby d1_9)
  rw [show (nar .char p1) = i7 from (hi7.symm : (nar .char p1) = i7)] at W8
  have O8 : Old Z n0 h8 := O4.wr W8 g_b4
  have V8 : Arv Z h8 b4 k4 .char (2 : Int32) [(.int i7)] (.int (0 : Int32)) := Arv.set Ar6 qk6 Sz6 Nn6 Hh6 Gg6 ((hi7.symm : (nar .char p1) = i7) ▸ fits_nar_char _) W8 0 rfl (Nat.le_of_ble_eq_true rfl)
  have N8 := Fr.snoc X8 N0 g_b4
  have Vp9 : Arv Z h8 b4 k4 .char (2 : Int32) [(.int i7), (.int 0)] (.int (0 : Int32)) := V8.pad (pad_rep [(.int i7)] (.int (0 : Int32)) 1)
  obtain ⟨cl10, Ar10, qk10, Sz10, Nn10, Hh10, Gg10⟩ := id Vp9
  have hin10 : ¬ ((1 : Int32) < 0 ∨ cl10.slots.size ≤ ((1 : Int32)).toNatClampNeg) := inb_of Sz10 ⟨by decide +kernel, by decide +kernel⟩
  obtain ⟨i11, hi11⟩ : ∃ z, z = (nar .char p2) := ⟨_, rfl⟩
  obtain ⟨T12, h12, X12, e12, W12, st12⟩ := stC X8 hx hZ e8 Ar10 (j := (1 : Int32)) hin10 (g := (mkF m 19 #[vI 2, vI p1, vI p2, vI p3, vR b4] [(.int p2), (.int 1), (.ref b4)])) rfl rfl (hb hby d1_19)
  rw [show (nar .char p2) = i11 from (hi11.symm : (nar .char p2) = i11)] at W12
  have O12 : Old Z n0 h12 := O8.wr W12 g_b4
  have V12 : Arv Z h12 b4 k4 .char (2 : Int32) [(.int i7), (.int i11)] (.int (0 : Int32)) := Arv.set Ar10 qk10 Sz10 Nn10 Hh10 Gg10 ((hi11.symm : (nar .char p2) = i11) ▸ fits_nar_char _) W12 1 rfl (Nat.le_of_ble_eq_true rfl)
  have N12 := Fr.snoc X12 N8 g_b4
  have f13 : Exa Z h12 b4 "[C" := (Exa.wr W12 (Exa.wr W8 Ex4))
  refine fin (some (.ref b4)) _ _ _ _ X12 nofun (fun fs hr => pre0 _ ?_) (own_atH e12 ?_) (by decide) (by decide)
  · refine o_iloadN X0 hx hby d1_0 rfl (st4 _ (o_astore X4 hx hby d1_3 rfl (Ls' := #[vI 2, vI p1, vI p2, vI p3, vR b4]) rfl (o_aload X4 hx hby d1_5 rfl rfl (o_iconst X4 hx hby d1_7 (x := 0) rfl (o_iloadN X4 hx hby d1_8 rfl (st8 _ (o_iloadN X8 hx hby d1_10 rfl (o_iconst X8 hx hby d1_11 (x := 1) rfl (o_icmpN X8 hx hby d1_12 (by decide +kernel) (o_aload X8 hx hby d1_15 rfl rfl (o_iconst X8 hx hby d1_17 (x := 1) rfl (o_iloadN X8 hx hby d1_18 rfl (st12 _ (o_iloadN X12 hx hby d1_20 rfl (o_iconst X12 hx hby d1_21 (x := 2) rfl (o_icmpY X12 hx hby d1_22 (pc := 22) (pc' := 30) (by decide +kernel) (by decide) (by decide) (o_aload X12 hx hby d1_30 rfl rfl ?_)))))))))))))))))
    show Steps p.tables e below (T12.setTop (mkF m 32 #[vI 2, vI p1, vI p2, vI p3, vR b4] [(.ref b4)])) _
    jvm_step X12.here [X12.here.top, hx, (hb hby d1_32), X12.method', hret, Value.isRef, FieldType.isReference]
    first | (intro acts; rw [hr _ acts rfl rfl rfl]) | rw [hr _ _ rfl rfl rfl]
    exact Steps.refl _
  · exact ⟨i11, i7, b4, k4, hi7, hi11, rfl, N12, sz_b4, (own_t (own_t lt_b4 (Keep.of_wr W8).1) (Keep.of_wr W12).1), ((((Keep.refl h0 []).ext E4).wr W8 (Or.inr sz_b4)).wr W12 (Or.inr sz_b4)), f13, V12⟩
def Q6_34 (Z : State) (a1 : Addr) (a2 : Addr) (p3 : Int32) (p4 : Int32) (k5 : ClassId) (k10 : ClassId) (h0 : Heap) (n0 : Nat) (v : Option Value) (h : Heap) (L : List Loc) : Prop := (∃ (i20 : Int32) (i9 : Int32), i9 = (p3.toInt8.toInt32) ∧ i20 = (p4.toInt8.toInt32) ∧ v = some (.int 2) ∧ Fr n0 L ∧ Keep h0 h [a2] ∧ Exa Z h a2 "[B" ∧ Arv Z h a2 k10 .byte (2 : Int32) [(.int i9), (.int i20)] (.int (0 : Int32)))
theorem rm6_34 (l : Launch) (Z : State) (a0 : Array Value) (hw : own_HW Z a0) (a1 : Addr) (a2 : Addr) (p3 : Int32) (p4 : Int32) (k5 : ClassId) (k10 : ClassId) (h0 : Heap) (n0 : Nat) (O0 : Old Z n0 h0) (V6 : Arv Z h0 a1 k5 .char (2 : Int32) [(.int p3), (.int p4)] (.int (0 : Int32))) (hk8 : ¬ ((255 : Int32) < p3)) (V11 : Arv Z h0 a2 k10 .byte (2 : Int32) [] (.int (0 : Int32))) (g_a2 : n0 ≤ a2) (E_15 : Exa Z h0 a2 "[B") (hne16 : a1 ≠ a2) (hk19 : ¬ ((255 : Int32) < p4)) : own_Met l Z M_1 bc6 7 (some .int) ({ frames := 0, cells := 0, slots := 0, locals := 0 } : Room) #[(.ref a1), (.int 0), (.ref a2), (.int 0), (.int 2)] h0 (Q6_34 Z a1 a2 p3 p4 k5 k10 h0 n0) := by
  refine own_body (L0 := #[vR a1, vI 0, vR a2, vI 0, vI 2, .unset, .unset]) (plainFor_of_name pn_1) (fun m => by first | (simp [entryFrame, mkF, argsToLocals, Value.category]; done) | rfl) fun p e s m below meth c s₁ EN hx hby hml hown hnm hret X0 hZ e0 hh pre0 fin => ?_
  have N0 := Fr.nil n0
  obtain ⟨cl7, Ar7, -, Sz7, -, Hh7, -⟩ := id V6
  have hin7 : ¬ ((0 : Int32) < 0 ∨ cl7.slots.size ≤ ((0 : Int32)).toNatClampNeg) := inb_of Sz7 ⟨by decide +kernel, by decide +kernel⟩
  have hat7 : cl7.slots[((0 : Int32)).toNatClampNeg]? = some (.int p3) := Has.at Hh7 hin7 rfl
  obtain ⟨i9, hi9⟩ : ∃ z, z = (p3.toInt8.toInt32) := ⟨_, rfl⟩
  have Vp12 : Arv Z h0 a2 k10 .byte (2 : Int32) [(.int 0)] (.int (0 : Int32)) := V11.pad (pad_rep [] (.int (0 : Int32)) 1)
  obtain ⟨cl13, Ar13, qk13, Sz13, Nn13, Hh13, Gg13⟩ := id Vp12
  have hin13 : ¬ ((0 : Int32) < 0 ∨ cl13.slots.size ≤ ((0 : Int32)).toNatClampNeg) := inb_of Sz13 ⟨by decide +kernel, by decide +kernel⟩
  obtain ⟨T14, h14, X14, e14, W14, st14⟩ := stB X0 hx hZ e0 Ar13 (j := (0 : Int32)) hin13 (g := (mkF m 31 #[vR a1, vI 0, vR a2, vI 0, vI 2, vI 0, vI p3] [(.int i9), (.int 0), (.ref a2)])) rfl rfl (hb hby d6_31)
  rw [show nar .byte i9 = i9 from (own_i2b2 hi9 : (i9.toInt8.toInt32) = i9)] at W14
  have O14 : Old Z n0 h14 := O0.wr W14 g_a2
  have V14 : Arv Z h14 a2 k10 .byte (2 : Int32) [(.int i9)] (.int (0 : Int32)) := Arv.set Ar13 qk13 Sz13 Nn13 Hh13 Gg13 ((own_i2b2 hi9 : (i9.toInt8.toInt32) = i9) ▸ fits_nar_byte _) W14 0 rfl (Nat.le_of_ble_eq_true rfl)
  have N14 := Fr.snoc X14 N0 g_a2
  have f17 : Arv Z h14 a1 k5 .char (2 : Int32) [(.int p3), (.int p4)] (.int (0 : Int32)) := (V6.other W14 hne16)
  obtain ⟨cl18, Ar18, -, Sz18, -, Hh18, -⟩ := id f17
  have hin18 : ¬ ((1 : Int32) < 0 ∨ cl18.slots.size ≤ ((1 : Int32)).toNatClampNeg) := inb_of Sz18 ⟨by decide +kernel, by decide +kernel⟩
  have hat18 : cl18.slots[((1 : Int32)).toNatClampNeg]? = some (.int p4) := Has.at Hh18 hin18 rfl
  obtain ⟨i20, hi20⟩ : ∃ z, z = (p4.toInt8.toInt32) := ⟨_, rfl⟩
  have Vp21 : Arv Z h14 a2 k10 .byte (2 : Int32) [(.int i9), (.int 0)] (.int (0 : Int32)) := V14.pad (pad_rep [(.int i9)] (.int (0 : Int32)) 1)
  obtain ⟨cl22, Ar22, qk22, Sz22, Nn22, Hh22, Gg22⟩ := id Vp21
  have hin22 : ¬ ((1 : Int32) < 0 ∨ cl22.slots.size ≤ ((1 : Int32)).toNatClampNeg) := inb_of Sz22 ⟨by decide +kernel, by decide +kernel⟩
  obtain ⟨T23, h23, X23, e23, W23, st23⟩ := stB X14 hx hZ e14 Ar22 (j := (1 : Int32)) hin22 (g := (mkF m 31 #[vR a1, vI 1, vR a2, vI 1, vI 2, vI 1, vI p4] [(.int i20), (.int 1), (.ref a2)])) rfl rfl (hb hby d6_31)
  rw [show nar .byte i20 = i20 from (own_i2b2 hi20 : (i20.toInt8.toInt32) = i20)] at W23
  have O23 : Old Z n0 h23 := O14.wr W23 g_a2
  have V23 : Arv Z h23 a2 k10 .byte (2 : Int32) [(.int i9), (.int i20)] (.int (0 : Int32)) := Arv.set Ar22 qk22 Sz22 Nn22 Hh22 Gg22 ((own_i2b2 hi20 : (i20.toInt8.toInt32) = i20) ▸ fits_nar_byte _) W23 1 rfl (Nat.le_of_ble_eq_true rfl)
  have N23 := Fr.snoc X23 N14 g_a2
  have f24 : Exa Z h23 a2 "[B" := (Exa.wr W23 (Exa.wr W14 E_15))
  refine fin (some (.int 2)) _ _ _ _ X23 nofun (fun fs hr => pre0 _ ?_) (own_atH e23 ?_) (by decide) (by decide)
  · refine o_iconst X0 hx hby d6_0 (x := 0) rfl (o_istore X0 hx hby d6_1 (Ls' := #[vR a1, vI 0, vR a2, vI 0, vI 2, vI 0, .unset]) rfl (o_iload X0 hx hby d6_3 rfl (o_iload X0 hx hby d6_5 rfl (o_icmpN X0 hx hby d6_7 (by decide +kernel) (o_aloadN X0 hx hby d6_10 rfl rfl (o_iloadN X0 hx hby d6_11 rfl (X0.caload hx (j := (0 : Int32)) (v := (.int p3)) (by rw [e0]; exact Ar7.1) (State.isArrayOf_alike hZ.alike Ar7.2.1) Ar7.2.2 hin7 hat7 (g := (mkF m 12 #[vR a1, vI 0, vR a2, vI 0, vI 2, vI 0, .unset] [(.int 0), (.ref a1)])) rfl rfl (hb hby d6_12) _ (o_istore X0 hx hby d6_13 (Ls' := #[vR a1, vI 0, vR a2, vI 0, vI 2, vI 0, vI p3]) rfl (o_iload X0 hx hby d6_15 rfl (o_sipush X0 hx hby d6_17 (x := 255) rfl (o_icmpY X0 hx hby d6_20 (pc := 20) (pc' := 26) (flt hk8).2.2.2 (by decide) (by decide) (o_aloadN X0 hx hby d6_26 rfl rfl (o_iloadN X0 hx hby d6_27 rfl (o_iload X0 hx hby d6_28 rfl (o_i2b X0 hx hby d6_30 (z := i9) hi9.symm (st14 _ (o_iinc X14 hx hby d6_32 rfl (z := (1 : Int32)) (k' := 1) rfl (by decide +kernel) (Ls' := #[vR a1, vI 1, vR a2, vI 0, vI 2, vI 0, vI p3]) rfl (o_iinc X14 hx hby d6_35 rfl (z := (1 : Int32)) (k' := 1) rfl (by decide +kernel) (Ls' := #[vR a1, vI 1, vR a2, vI 1, vI 2, vI 0, vI p3]) rfl (o_iinc X14 hx hby d6_38 rfl (z := (1 : Int32)) (k' := 1) rfl (by decide +kernel) (Ls' := #[vR a1, vI 1, vR a2, vI 1, vI 2, vI 1, vI p3]) rfl (o_goto X14 hx hby d6_41 (pc := 41) (pc' := 3) (by decide) (by decide) (o_iload X14 hx hby d6_3 rfl (o_iload X14 hx hby d6_5 rfl (o_icmpN X14 hx hby d6_7 (by decide +kernel) (o_aloadN X14 hx hby d6_10 rfl rfl (o_iloadN X14 hx hby d6_11 rfl (X14.caload hx (j := (1 : Int32)) (v := (.int p4)) (by rw [e14]; exact Ar18.1) (State.isArrayOf_alike hZ.alike Ar18.2.1) Ar18.2.2 hin18 hat18 (g := (mkF m 12 #[vR a1, vI 1, vR a2, vI 1, vI 2, vI 1, vI p3] [(.int 1), (.ref a1)])) rfl rfl (hb hby d6_12) _ (o_istore X14 hx hby d6_13 (Ls' := #[vR a1, vI 1, vR a2, vI 1, vI 2, vI 1, vI p4]) rfl (o_iload X14 hx hby d6_15 rfl (o_sipush X14 hx hby d6_17 (x := 255) rfl (o_icmpY X14 hx hby d6_20 (pc := 20) (pc' := 26) (flt hk19).2.2.2 (by decide) (by decide) (o_aloadN X14 hx hby d6_26 rfl rfl (o_iloadN X14 hx hby d6_27 rfl (o_iload X14 hx hby d6_28 rfl (o_i2b X14 hx hby d6_30 (z := i20) hi20.symm (st23 _ (o_iinc X23 hx hby d6_32 rfl (z := (2 : Int32)) (k' := 1) rfl (by decide +kernel) (Ls' := #[vR a1, vI 2, vR a2, vI 1, vI 2, vI 1, vI p4]) rfl (o_iinc X23 hx hby d6_35 rfl (z := (2 : Int32)) (k' := 1) rfl (by decide +kernel) (Ls' := #[vR a1, vI 2, vR a2, vI 2, vI 2, vI 1, vI p4]) rfl (o_iinc X23 hx hby d6_38 rfl (z := (2 : Int32)) (k' := 1) rfl (by decide +kernel) (Ls' := #[vR a1, vI 2, vR a2, vI 2, vI 2, vI 2, vI p4]) rfl (o_goto X23 hx hby d6_41 (pc := 41) (pc' := 3) (by decide) (by decide) ?_)))))))))))))))))))))))))))))))))))))))
    refine o_iload X23 hx hby d6_3 rfl (o_iload X23 hx hby d6_5 rfl (o_icmpY X23 hx hby d6_7 (pc := 7) (pc' := 44) (by decide +kernel) (by decide) (by decide) (o_iload X23 hx hby d6_44 rfl ?_)))
    exact retI X23 hx hret (hb hby d6_46) hr
  · exact ⟨i20, i9, hi9, hi20, rfl, N23, (((Keep.refl h0 [a2]).wr W14 (Or.inl (List.mem_of_getElem? (i := 0) rfl))).wr W23 (Or.inl (List.mem_of_getElem? (i := 0) rfl))), f24, V23⟩
def Q5_33 (Z : State) (a1 : Addr) (p3 : Int32) (p4 : Int32) (k5 : ClassId) (h0 : Heap) (n0 : Nat) (v : Option Value) (h : Heap) (L : List Loc) : Prop := (∃ (i11 : Int32) (i12 : Int32) (b2 : Addr) (k2 : ClassId), i12 = (p3.toInt8.toInt32) ∧ i11 = (p4.toInt8.toInt32) ∧ v = some (.ref b2) ∧ Fr n0 L ∧ h0.size ≤ b2 ∧ b2 < h.size ∧ Keep h0 h [] ∧ Exa Z h b2 "[B" ∧ Arv Z h b2 k2 .byte (2 : Int32) [(.int i12), (.int i11)] (.int (0 : Int32)))
theorem rm5_33 (l : Launch) (Z : State) (a0 : Array Value) (hw : own_HW Z a0) (a1 : Addr) (p3 : Int32) (p4 : Int32) (k5 : ClassId) (h0 : Heap) (n0 : Nat) (O0 : Old Z n0 h0) (V6 : Arv Z h0 a1 k5 .char (2 : Int32) [(.int p3), (.int p4)] (.int (0 : Int32))) (hk7 : ¬ ((255 : Int32) < p3)) (lt_a1 : a1 < h0.size) (hk8 : ¬ ((255 : Int32) < p4)) : own_Met l Z M_2 bc5 6 (some (.array .byte)) ({ frames := 1, cells := 1, slots := 2, locals := 18 } : Room) #[(.ref a1), (.int 0), (.int 2)] h0 (Q5_33 Z a1 p3 p4 k5 h0 n0) := by
  refine own_body (L0 := #[vR a1, vI 0, vI 2, .unset, .unset, .unset]) (plainFor_of_name pn_1) (fun m => by first | (simp [entryFrame, mkF, argsToLocals, Value.category]; done) | rfl) fun p e s m below meth c s₁ EN hx hby hml hown hnm hret X0 hZ e0 hh pre0 fin => ?_
  have N0 := Fr.nil n0
  obtain ⟨T2, h2, k2, X2, e2, E2, A2, Ex2, st2⟩ := newPE (aty := .byte) X0 hx hZ (ww23 hw) e0 (g := (mkF m 1 #[vR a1, vI 0, vI 2, .unset, .unset, .unset] [(.int 2)])) rfl (hb hby d5_1) rfl (by decide +kernel) (cap := 2) (by decide +kernel) (by decide) (by decide) (by decide) (ad := "[B") (by decide +kernel)
  obtain ⟨b2, g2⟩ : ∃ z, z = h0.size := ⟨_, rfl⟩
  rw [← g2] at A2 Ex2 st2
  have O2 : Old Z n0 h2 := O0.ext E2
  have bd_b2 : h0.size ≤ b2 := Nat.le_of_eq g2.symm
  have g_b2 : n0 ≤ b2 := Nat.le_trans (own_z O0) bd_b2
  have sz_b2 : h0.size ≤ b2 := Nat.le_trans (Nat.le_refl _) bd_b2
  have lt_b2 : b2 < h2.size := A2.lt
  have V2 : Arv Z h2 b2 k2 .byte (2 : Int32) [] (.int (0 : Int32)) := Arv.new A2 (by decide +kernel)
  have f9 : Arv Z h2 a1 k5 .char (2 : Int32) [(.int p3), (.int p4)] (.int (0 : Int32)) := (V6.ext E2)
  obtain ⟨_, T10, L10, X10, hQ10, st10⟩ := own_cS X2 hx hZ hown (ww24 hw) (ww25 hw) (ww21 hw) (ww26 hw) (rm6_34 l Z a0 hw a1 b2 p3 p4 k5 k2 h2 n0 O2 f9 hk7 V2 g_b2 Ex2 (own_n lt_a1 bd_b2) hk8) e2 pd_1 hml (hb hby d5_9) (Ls := #[vR a1, vI 0, vI 2, vR b2, .unset, .unset]) (W := 0) (argsL := [(.ref a1), (.int 0), (.ref b2), (.int 0), (.int 2)]) (rest := [])
  obtain ⟨i11, i12, u13, u14, rfl, u16, Ku17, u18, u19⟩ := hQ10
  have Ou17 : Old Z n0 T10.heap := O2.keep Ku17 (allS g_b2 all0)
  have N10 := Fr.app N0 u16
  refine fin (some (.ref b2)) _ _ _ _ X10 nofun (fun fs hr => pre0 _ ?_) ?_ (by decide) (by decide)
  · refine o_iloadN X0 hx hby d5_0 rfl (st2 _ (o_astoreN X2 hx hby d5_3 rfl (Ls' := #[vR a1, vI 0, vI 2, vR b2, .unset, .unset]) rfl (o_aloadN X2 hx hby d5_4 rfl rfl (o_iloadN X2 hx hby d5_5 rfl (o_aloadN X2 hx hby d5_6 rfl rfl (o_iconst X2 hx hby d5_7 (x := 0) rfl (o_iloadN X2 hx hby d5_8 rfl (st10 _ (o_istore X10 hx hby d5_12 (Ls' := #[vR a1, vI 0, vI 2, vR b2, vI 2, .unset]) rfl (o_iload X10 hx hby d5_14 rfl (o_iloadN X10 hx hby d5_16 rfl (o_icmpY X10 hx hby d5_17 (pc := 17) (pc' := 57) (by decide +kernel) (by decide) (by decide) (o_aloadN X10 hx hby d5_57 rfl rfl ?_)))))))))))))
    show Steps p.tables e below (T10.setTop (mkF m 58 #[vR a1, vI 0, vI 2, vR b2, vI 2, .unset] [(.ref b2)])) _
    jvm_step X10.here [X10.here.top, hx, (hb hby d5_58), X10.method', hret, Value.isRef, FieldType.isReference]
    first | (intro acts; rw [hr _ acts rfl rfl rfl]) | rw [hr _ _ rfl rfl rfl]
    exact Steps.refl _
  · exact ⟨i11, i12, b2, k2, u13, u14, rfl, N10, sz_b2, (own_t lt_b2 Ku17.1), (((Keep.refl h0 []).ext E2).trans Ku17 (allS (Or.inr sz_b2) all0)), u18, u19⟩
def Q7_35 (Z : State) (a1 : Addr) (p2 : Int32) (p3 : Int32) (k4 : ClassId) (h0 : Heap) (n0 : Nat) (v : Option Value) (h : Heap) (L : List Loc) : Prop := (v = some (.int 0) ∧ Fr n0 L ∧ h = h0)
theorem rm7_35 (l : Launch) (Z : State) (a0 : Array Value) (hw : own_HW Z a0) (a1 : Addr) (p2 : Int32) (p3 : Int32) (k4 : ClassId) (h0 : Heap) (n0 : Nat) (O0 : Old Z n0 h0) (V5 : Arv Z h0 a1 k4 .byte (2 : Int32) [(.int p2), (.int p3)] (.int (0 : Int32))) : own_Met l Z M_3 bc7 2 (some .byte) ({ frames := 0, cells := 0, slots := 0, locals := 0 } : Room) #[(.ref a1), (.int 2)] h0 (Q7_35 Z a1 p2 p3 k4 h0 n0) := by
  refine own_body (L0 := #[vR a1, vI 2]) (plainFor_of_name pn_1) (fun m => by first | (simp [entryFrame, mkF, argsToLocals, Value.category]; done) | rfl) fun p e s m below meth c s₁ EN hx hby hml hown hnm hret X0 hZ e0 hh pre0 fin => ?_
  have N0 := Fr.nil n0
  obtain ⟨cl6, Ar6, -, Sz6, Nn6, -, -⟩ := id V5
  refine fin (some (.int 0)) _ _ _ _ X0 nofun (fun fs hr => pre0 _ ?_) (own_atH e0 ?_) (by decide) (by decide)
  · refine o_iloadN X0 hx hby d7_0 rfl (o_aloadN X0 hx hby d7_1 rfl rfl (X0.arraylength hx (by rw [e0]; exact Ar6.1) (State.isArrayOf_alike hZ.alike Ar6.2.1) (g := (mkF m 2 #[vR a1, vI 2] [(.ref a1), (.int 2)])) rfl rfl (hb hby d7_2) _ ?_))
    rw [len_of Sz6 Nn6]
    refine o_isub X0 hx hby d7_3 (z := (0 : Int32)) (by decide +kernel) (o_bipush X0 hx hby d7_4 (x := 31) rfl (o_iushr X0 hx hby d7_6 (z := (0 : Int32)) (by decide +kernel) (o_i2b X0 hx hby d7_7 (z := (0 : Int32)) (by decide +kernel) ?_)))
    exact retN X0 hx (t := .byte) hret (by simp) (hb hby d7_8) hr
  · exact ⟨rfl, N0, rfl⟩
def Q3_32 (Z : State) (a1 : Addr) (a2 : Addr) (p4 : Int32) (p8 : Int32) (p9 : Int32) (k10 : ClassId) (h0 : Heap) (n0 : Nat) (v : Option Value) (h : Heap) (L : List Loc) : Prop := (∃ (i15 : Int32) (i16 : Int32) (b17 : Addr) (k18 : ClassId), i16 = (p8.toInt8.toInt32) ∧ i15 = (p9.toInt8.toInt32) ∧ v = none ∧ Fr n0 L ∧ h0.size ≤ b17 ∧ b17 < h.size ∧ Keep h0 h [a1] ∧ Exa Z h a1 C_0 ∧ Fld Z h a1 C_0 "coder" "B" (.int 0) ∧ Fld Z h a1 C_0 "value" "[B" (.ref b17) ∧ Exa Z h b17 "[B" ∧ Arv Z h b17 k18 .byte (2 : Int32) [(.int i16), (.int i15)] (.int (0 : Int32)))
theorem rm3_32 (l : Launch) (Z : State) (a0 : Array Value) (hw : own_HW Z a0) (a1 : Addr) (a2 : Addr) (p4 : Int32) (p8 : Int32) (p9 : Int32) (k10 : ClassId) (h0 : Heap) (n0 : Nat) (O0 : Old Z n0 h0) (S_5 : Sta Z Z.heap C_0 "COMPACT_STRINGS" "Z" (.int p4)) (hk7 : ¬ (p4 = (0 : Int32))) (V11 : Arv Z h0 a2 k10 .char (2 : Int32) [(.int p8), (.int p9)] (.int (0 : Int32))) (hk12 : ¬ ((255 : Int32) < p8)) (hk13 : ¬ ((255 : Int32) < p9)) (lt_a2 : a2 < h0.size) (E_32 : Exa Z h0 a1 C_0) (F33 : Fld Z h0 a1 C_0 "coder" "B" (.int 0)) (F34 : Fld Z h0 a1 C_0 "value" "[B" .null) (g_a1 : n0 ≤ a1) (lt_a1 : a1 < h0.size) : own_Met l Z M_4 bc3 6 none ({ frames := 2, cells := 1, slots := 2, locals := 35 } : Room) #[(.ref a1), (.ref a2), (.int 0), (.int 2), .null] h0 (Q3_32 Z a1 a2 p4 p8 p9 k10 h0 n0) := by
  refine own_body (L0 := #[vR a1, vR a2, vI 0, vI 2, vN, .unset]) (plainFor_of_name pn_2) (fun m => by first | (simp [entryFrame, mkF, argsToLocals, Value.category]; done) | rfl) fun p e s m below meth c s₁ EN hx hby hml hown hnm hret X0 hZ e0 hh pre0 fin => ?_
  have N0 := Fr.nil n0
  obtain ⟨T3, X3, e3, st3⟩ := initO X0 hx hZ hown (ww15 hw) (ww16 hw) (ww17 hw) e0 (g := (mkF m 1 #[vR a1, vR a2, vI 0, vI 2, vN, .unset] [(.ref a1)])) rfl (by rw [hml]; rfl) rfl (hb hby d3_1) (by decide) (W := 0) (by show 2 * 0 + _ ≤ _; exact Nat.le_of_eq rfl) (by decide)
  obtain ⟨T6, X6, e6, st6⟩ := getS2 X3 hx hZ hown (host := "") (Or.inl (ww18 hw)) Via.refl e3 (Sta.ext O0.2 S_5) (g := (mkF m 27 #[vR a1, vR a2, vI 0, vI 2, vN, .unset] [])) rfl (hb hby d3_27)
  obtain ⟨_, T14, L14, X14, hQ14, st14⟩ := own_cS X6 hx hZ hown (ww19 hw) (ww20 hw) (ww21 hw) (ww22 hw) (rm5_33 l Z a0 hw a2 p8 p9 k10 h0 n0 O0 V11 hk12 lt_a2 hk13) e6 pd_2 hml (hb hby d3_36) (Ls := #[vR a1, vR a2, vI 0, vI 2, vN, .unset]) (W := 0) (argsL := [(.ref a2), (.int 0), (.int 2)]) (rest := [])
  obtain ⟨i15, i16, b17, k18, u19, u20, rfl, u22, u23, u24, Ku25, u26, u27⟩ := hQ14
  have Ou25 : Old Z n0 T14.heap := O0.keep Ku25 all0
  have g_b17 : n0 ≤ b17 := Nat.le_trans (own_z O0) u23
  have sz_b17 : h0.size ≤ b17 := Nat.le_trans (Nat.le_refl _) u23
  have N14 := Fr.app N0 u22
  obtain ⟨_, T28, L28, X28, hQ28, st28⟩ := own_cS X14 hx hZ hown (ww27 hw) (ww28 hw) (ww21 hw) (ww29 hw) (rm7_35 l Z a0 hw b17 i16 i15 k18 T14.heap n0 Ou25 u27) rfl pd_3 hml (hb hby d3_45) (Ls := #[vR a1, vR a2, vI 0, vI 2, vN, vR b17]) (W := 1) (argsL := [(.ref b17), (.int 2)]) (rest := [(.ref a1)])
  obtain ⟨rfl, u30, u31⟩ := hQ28
  have N28 := Fr.app N14 u30
  have f35 : Fld Z T14.heap a1 C_0 "coder" "B" (.int 0) := (F33.keep Ku25 nin0)
  have f36 : Exa Z T14.heap a1 C_0 := (E_32.keep Ku25)
  obtain ⟨T37, h37, X37, e37, W37, st37⟩ := putFN X28 hx hZ hown (ww30 hw) Via.refl u31 f35 f36 (Or.inr ⟨(ww31 hw), rfl, hnm⟩) (ww1 hw) (ty := .byte) (v' := (.int 0)) (by decide) (by exact congrArg Value.int (by decide +kernel : (nar .byte (0 : Int32)) = (0 : Int32))) ((by decide +kernel : (nar .byte (0 : Int32)) = (0 : Int32)) ▸ fits_nar_byte _) (g := (mkF m 48 #[vR a1, vR a2, vI 0, vI 2, vN, vR b17] [(.int 0), (.ref a1)])) rfl rfl (hb hby d3_48)
  have O37 : Old Z n0 h37 := Ou25.wr W37 g_a1
  have Fw37 : Fld Z h37 a1 C_0 "coder" "B" (.int 0) := Fld.same W37 f35
  have N37 := Fr.snoc X37 N28 g_a1
  have f38 : Fld Z h37 a1 C_0 "value" "[B" .null := (Fld.other W37 (F34.keep Ku25 nin0) (Or.inr (own_sl0 hw)))
  have f39 : Exa Z h37 a1 C_0 := (Exa.wr W37 f36)
  obtain ⟨T40, h40, X40, e40, W40, st40⟩ := putF X37 hx hZ hown (host := "") (Or.inl (ww32 hw)) Via.refl e37 f38 f39 (Or.inr ⟨(ww33 hw), rfl, hnm⟩) (ww1 hw) (ty := (.array .byte)) (by decide) rfl rfl (g := (mkF m 54 #[vR a1, vR a2, vI 0, vI 2, vN, vR b17] [(.ref b17), (.ref a1)])) rfl rfl (hb hby d3_54)
  have O40 : Old Z n0 h40 := O37.wr W40 g_a1
  have Fw40 : Fld Z h40 a1 C_0 "value" "[B" (.ref b17) := Fld.same W40 f38
  have N40 := Fr.snoc X40 N37 g_a1
  have f41 : Exa Z h40 a1 C_0 := (Exa.wr W40 f39)
  have f42 : Fld Z h40 a1 C_0 "coder" "B" (.int 0) := (Fld.other W40 Fw37 (Or.inr (own_sl1 hw)))
  have f43 : Exa Z h40 b17 "[B" := (Exa.wr W40 (Exa.wr W37 u26))
  have f44 : Arv Z h40 b17 k18 .byte (2 : Int32) [(.int i16), (.int i15)] (.int (0 : Int32)) := ((u27.other W37 (Ne.symm (own_n lt_a1 u23))).other W40 (Ne.symm (own_n lt_a1 u23)))
  refine fin none _ _ _ _ X40 (fun _ => rfl) (fun fs hr => pre0 _ ?_) (own_atH e40 ?_) (by decide) (by decide)
  · refine o_aloadN X0 hx hby d3_0 rfl rfl (st3 _ (o_iloadN X3 hx hby d3_4 rfl (o_ifY X3 hx hby d3_5 (pc := 5) (pc' := 27) (by decide +kernel) (by decide) (by decide) (st6 _ (o_ifN X6 hx hby d3_30 ((if0 _ _).trans (feq hk7).1) (o_aloadN X6 hx hby d3_33 rfl rfl (o_iloadN X6 hx hby d3_34 rfl (o_iloadN X6 hx hby d3_35 rfl (st14 _ (o_astore X14 hx hby d3_39 rfl (Ls' := #[vR a1, vR a2, vI 0, vI 2, vN, vR b17]) rfl (o_aloadN X14 hx hby d3_41 rfl rfl (o_aload X14 hx hby d3_42 rfl rfl (o_iloadN X14 hx hby d3_44 rfl (st28 _ (st37 _ (o_aloadN X37 hx hby d3_51 rfl rfl (o_aload X37 hx hby d3_52 rfl rfl (st40 _ ?_))))))))))))))))))
    exact X40.returnOut hx hret (hb hby d3_57) hr
  · exact ⟨i15, i16, b17, k18, u19, u20, rfl, N40, sz_b17, (own_t (own_t u24 (Keep.of_wr W37).1) (Keep.of_wr W40).1), ((((Keep.refl h0 [a1]).trans Ku25 all0).wr W37 (Or.inl (List.mem_of_getElem? (i := 0) rfl))).wr W40 (Or.inl (List.mem_of_getElem? (i := 0) rfl))), f41, f42, Fw40, f43, f44⟩
def Q2_31 (Z : State) (a1 : Addr) (a2 : Addr) (p3 : Int32) (p4 : Int32) (k5 : ClassId) (p8 : Int32) (h0 : Heap) (n0 : Nat) (v : Option Value) (h : Heap) (L : List Loc) : Prop := (∃ (i17 : Int32) (i18 : Int32) (b19 : Addr) (k20 : ClassId), i18 = (p3.toInt8.toInt32) ∧ i17 = (p4.toInt8.toInt32) ∧ v = none ∧ Fr n0 L ∧ h0.size ≤ b19 ∧ b19 < h.size ∧ Keep h0 h [a1] ∧ Exa Z h a1 C_0 ∧ Fld Z h a1 C_0 "coder" "B" (.int 0) ∧ Fld Z h a1 C_0 "value" "[B" (.ref b19) ∧ Exa Z h b19 "[B" ∧ Arv Z h b19 k20 .byte (2 : Int32) [(.int i18), (.int i17)] (.int (0 : Int32)))
theorem rm2_31 (l : Launch) (Z : State) (a0 : Array Value) (hw : own_HW Z a0) (a1 : Addr) (a2 : Addr) (p3 : Int32) (p4 : Int32) (k5 : ClassId) (p8 : Int32) (h0 : Heap) (n0 : Nat) (O0 : Old Z n0 h0) (V6 : Arv Z h0 a2 k5 .char (2 : Int32) [(.int p3), (.int p4)] (.int (0 : Int32))) (S_9 : Sta Z Z.heap C_0 "COMPACT_STRINGS" "Z" (.int p8)) (hk10 : ¬ (p8 = (0 : Int32))) (hk11 : ¬ ((255 : Int32) < p3)) (hk12 : ¬ ((255 : Int32) < p4)) (E_13 : Exa Z h0 a1 C_0) (F14 : Fld Z h0 a1 C_0 "coder" "B" (.int 0)) (F15 : Fld Z h0 a1 C_0 "value" "[B" .null) (lt_a2 : a2 < h0.size) (g_a1 : n0 ≤ a1) (lt_a1 : a1 < h0.size) : own_Met l Z M_5 bc2 2 none ({ frames := 3, cells := 1, slots := 2, locals := 52 } : Room) #[(.ref a1), (.ref a2)] h0 (Q2_31 Z a1 a2 p3 p4 k5 p8 h0 n0) := by
  refine own_body (L0 := #[vR a1, vR a2]) (plainFor_of_name pn_2) (fun m => by first | (simp [entryFrame, mkF, argsToLocals, Value.category]; done) | rfl) fun p e s m below meth c s₁ EN hx hby hml hown hnm hret X0 hZ e0 hh pre0 fin => ?_
  have N0 := Fr.nil n0
  obtain ⟨cl7, Ar7, -, Sz7, Nn7, -, -⟩ := id V6
  obtain ⟨_, T16, L16, X16, hQ16, st16⟩ := own_cI X0 hx hZ hown (ww11 hw) (ww12 hw) (ww2 hw) (ww14 hw) (rm3_32 l Z a0 hw a1 a2 p8 p3 p4 k5 h0 n0 O0 S_9 hk10 V6 hk11 hk12 lt_a2 E_13 F14 F15 g_a1 lt_a1) e0 pd_4 hml (hb hby d2_6) (Ls := #[vR a1, vR a2]) (W := 0) (argsL := [(.ref a2), (.int 0), (.int 2), .null]) (rest := []) (b := a1)
  obtain ⟨i17, i18, b19, k20, u21, u22, rfl, u24, u25, u26, Ku27, u28, u29, u30, u31, u32⟩ := hQ16
  have Ou27 : Old Z n0 T16.heap := O0.keep Ku27 (allS g_a1 all0)
  have g_b19 : n0 ≤ b19 := Nat.le_trans (own_z O0) u25
  have sz_b19 : h0.size ≤ b19 := Nat.le_trans (Nat.le_refl _) u25
  have N16 := Fr.app N0 u24
  refine fin none _ _ _ _ X16 (fun _ => rfl) (fun fs hr => pre0 _ ?_) ?_ (by decide) (by decide)
  · refine o_aloadN X0 hx hby d2_0 rfl rfl (o_aloadN X0 hx hby d2_1 rfl rfl (o_iconst X0 hx hby d2_2 (x := 0) rfl (o_aloadN X0 hx hby d2_3 rfl rfl (X0.arraylength hx (by rw [e0]; exact Ar7.1) (State.isArrayOf_alike hZ.alike Ar7.2.1) (g := (mkF m 4 #[vR a1, vR a2] [(.ref a2), (.int 0), (.ref a2), (.ref a1)])) rfl rfl (hb hby d2_4) _ ?_))))
    rw [len_of Sz7 Nn7]
    refine o_null X0 hx hby d2_5 (st16 _ ?_)
    exact X16.returnOut hx hret (hb hby d2_9) hr
  · exact ⟨i17, i18, b19, k20, u21, u22, rfl, N16, sz_b19, u26, ((Keep.refl h0 [a1]).trans Ku27 (allS (Or.inl (List.mem_of_getElem? (i := 0) rfl)) all0)), u28, u29, u30, u31, u32⟩
def Q12_38 (Z : State) (a1 : Addr) (a2 : Addr) (p5 : Int32) (p6 : Int32) (k7 : ClassId) (p11 : Int32) (h0 : Heap) (n0 : Nat) (v : Option Value) (h : Heap) (L : List Loc) : Prop := (v = some (.int 2) ∧ Fr n0 L ∧ h = h0)
theorem rm12_38 (l : Launch) (Z : State) (a0 : Array Value) (hw : own_HW Z a0) (a1 : Addr) (a2 : Addr) (p5 : Int32) (p6 : Int32) (k7 : ClassId) (p11 : Int32) (h0 : Heap) (n0 : Nat) (O0 : Old Z n0 h0) (F3 : Fld Z h0 a1 C_0 "value" "[B" (.ref a2)) (V8 : Arv Z h0 a2 k7 .byte (2 : Int32) [(.int p5), (.int p6)] (.int (0 : Int32))) (E_10 : Exa Z h0 a1 C_0) (S_12 : Sta Z Z.heap C_0 "COMPACT_STRINGS" "Z" (.int p11)) (hk13 : ¬ (p11 = (0 : Int32))) (F14 : Fld Z h0 a1 C_0 "coder" "B" (.int 0)) : own_Met l Z M_9 bc12 1 (some .int) ({ frames := 1, cells := 0, slots := 0, locals := 13 } : Room) #[(.ref a1)] h0 (Q12_38 Z a1 a2 p5 p6 k7 p11 h0 n0) := by
  refine own_body (L0 := #[vR a1]) (plainFor_of_name pn_2) (fun m => by first | (simp [entryFrame, mkF, argsToLocals, Value.category]; done) | rfl) fun p e s m below meth c s₁ EN hx hby hml hown hnm hret X0 hZ e0 hh pre0 fin => ?_
  have N0 := Fr.nil n0
  obtain ⟨T4, X4, e4, st4⟩ := getF X0 hx hZ hown (host := "") (Or.inl (ww32 hw)) Via.refl e0 F3 (g := (mkF m 1 #[vR a1] [(.ref a1)])) rfl rfl (hb hby d12_1)
  obtain ⟨cl9, Ar9, -, Sz9, Nn9, -, -⟩ := id V8
  obtain ⟨_, T15, L15, X15, hQ15, st15⟩ := own_cV X4 hx hZ hown (ww61 hw) (ww62 hw) (notFace_of_selects (args := #[]) (mvT hZ (ww64 hw))) (ww64 hw) (ww63 hw) (ww2 hw) (ww65 hw) E_10 (rm13_13 l Z a0 hw a1 p11 h0 n0 O0 S_12 hk13 F14) e4 pd_8 hml (hb hby d12_6) (Ls := #[vR a1]) (W := 1) (argsL := []) (rest := [(.int 2)])
  obtain ⟨rfl, u17, u18⟩ := hQ15
  have N15 := Fr.app N0 u17
  refine fin (some (.int 2)) _ _ _ _ X15 nofun (fun fs hr => pre0 _ ?_) (own_atH u18 ?_) (by decide) (by decide)
  · refine o_aloadN X0 hx hby d12_0 rfl rfl (st4 _ (X4.arraylength hx (by rw [e4]; exact Ar9.1) (State.isArrayOf_alike hZ.alike Ar9.2.1) (g := (mkF m 4 #[vR a1] [(.ref a2)])) rfl rfl (hb hby d12_4) _ ?_))
    rw [len_of Sz9 Nn9]
    refine o_aloadN X4 hx hby d12_5 rfl rfl (st15 _ (o_ishr X15 hx hby d12_9 (z := (2 : Int32)) (by decide +kernel) ?_))
    exact retI X15 hx hret (hb hby d12_10) hr
  · exact ⟨rfl, N15, rfl⟩
def Q18_42 (Z : State) (va1 : Value) (h0 : Heap) (n0 : Nat) (v : Option Value) (h : Heap) (L : List Loc) : Prop := (v = some (.int 0) ∧ Fr n0 L ∧ h = h0)
theorem rm18_42 (l : Launch) (Z : State) (a0 : Array Value) (hw : own_HW Z a0) (va1 : Value) (h0 : Heap) (n0 : Nat) (O0 : Old Z n0 h0) (ir_va1 : va1.isRef = true) : own_Met l Z M_11 bc18 3 (some .int) ({ frames := 0, cells := 0, slots := 0, locals := 0 } : Room) #[(.int 0), (.int 2), va1] h0 (Q18_42 Z va1 h0 n0) := by
  refine own_body (L0 := #[vI 0, vI 2, .val va1]) (plainFor_of_name pn_5) (fun m => by rcases ref_cases ir_va1 with h | ⟨_, h⟩ <;> subst h <;> rfl) fun p e s m below meth c s₁ EN hx hby hml hown hnm hret X0 hZ e0 hh pre0 fin => ?_
  have N0 := Fr.nil n0
  refine fin (some (.int 0)) _ _ _ _ X0 nofun (fun fs hr => pre0 _ ?_) (own_atH e0 ?_) (by decide) (by decide)
  · refine o_iloadN X0 hx hby d18_0 rfl (o_ifN X0 hx hby d18_1 (by decide +kernel) (o_iloadN X0 hx hby d18_4 rfl (o_iloadN X0 hx hby d18_5 rfl (o_icmpY X0 hx hby d18_6 (pc := 6) (pc' := 16) (by decide +kernel) (by decide) (by decide) (o_iloadN X0 hx hby d18_16 rfl ?_)))))
    exact retI X0 hx hret (hb hby d18_17) hr
  · exact ⟨rfl, N0, rfl⟩
def Q17_41 (Z : State) (va1 : Value) (h0 : Heap) (n0 : Nat) (v : Option Value) (h : Heap) (L : List Loc) : Prop := (v = none ∧ Fr n0 L ∧ h = h0)
theorem rm17_41 (l : Launch) (Z : State) (a0 : Array Value) (hw : own_HW Z a0) (va1 : Value) (h0 : Heap) (n0 : Nat) (O0 : Old Z n0 h0) (S_2 : Sta Z Z.heap C_3 "SIOOBE_FORMATTER" C_4 va1) (ir_va1 : va1.isRef = true) : own_Met l Z M_12 bc17 2 none ({ frames := 1, cells := 0, slots := 0, locals := 14 } : Room) #[(.int 0), (.int 2)] h0 (Q17_41 Z va1 h0 n0) := by
  refine own_body (L0 := #[vI 0, vI 2]) (plainFor_of_name pn_2) (fun m => by first | (simp [entryFrame, mkF, argsToLocals, Value.category]; done) | rfl) fun p e s m below meth c s₁ EN hx hby hml hown hnm hret X0 hZ e0 hh pre0 fin => ?_
  have N0 := Fr.nil n0
  obtain ⟨T3, X3, e3, st3⟩ := getS2 X0 hx hZ hown (host := "") (Or.inl (ww83 hw)) Via.refl e0 (Sta.ext O0.2 S_2) (g := (mkF m 2 #[vI 0, vI 2] [(.int 2), (.int 0)])) rfl (hb hby d17_2)
  obtain ⟨_, T4, L4, X4, hQ4, st4⟩ := own_cS X3 hx hZ hown (ww85 hw) (ww86 hw) (ww84 hw) (ww87 hw) (rm18_42 l Z a0 hw va1 h0 n0 O0 ir_va1) e3 pd_11 hml (hb hby d17_5) (Ls := #[vI 0, vI 2]) (W := 0) (argsL := [(.int 0), (.int 2), va1]) (rest := [])
  obtain ⟨rfl, u6, u7⟩ := hQ4
  have N4 := Fr.app N0 u6
  refine fin none _ _ _ _ X4 (fun _ => rfl) (fun fs hr => pre0 _ ?_) (own_atH u7 ?_) (by decide) (by decide)
  · refine o_iloadN X0 hx hby d17_0 rfl (o_iloadN X0 hx hby d17_1 rfl (st3 _ (st4 _ (o_pop X4 hx hby d17_8 rfl ?_))))
    exact X4.returnOut hx hret (hb hby d17_9) hr
  · exact ⟨rfl, N4, rfl⟩
def Q16_40 (Z : State) (a1 : Addr) (p2 : Int32) (p3 : Int32) (k4 : ClassId) (va7 : Value) (h0 : Heap) (n0 : Nat) (v : Option Value) (h : Heap) (L : List Loc) : Prop := (∃ (i14 : Int32), i14 = (p2 &&& (255 : Int32)) ∧ v = some (.int i14) ∧ Fr n0 L ∧ h = h0)
theorem rm16_40 (l : Launch) (Z : State) (a0 : Array Value) (hw : own_HW Z a0) (a1 : Addr) (p2 : Int32) (p3 : Int32) (k4 : ClassId) (va7 : Value) (h0 : Heap) (n0 : Nat) (O0 : Old Z n0 h0) (V5 : Arv Z h0 a1 k4 .byte (2 : Int32) [(.int p2), (.int p3)] (.int (0 : Int32))) (S_8 : Sta Z Z.heap C_3 "SIOOBE_FORMATTER" C_4 va7) (ir_va7 : va7.isRef = true) : own_Met l Z M_13 bc16 2 (some .char) ({ frames := 2, cells := 0, slots := 0, locals := 27 } : Room) #[(.ref a1), (.int 0)] h0 (Q16_40 Z a1 p2 p3 k4 va7 h0 n0) := by
  refine own_body (L0 := #[vR a1, vI 0]) (plainFor_of_name pn_6) (fun m => by first | (simp [entryFrame, mkF, argsToLocals, Value.category]; done) | rfl) fun p e s m below meth c s₁ EN hx hby hml hown hnm hret X0 hZ e0 hh pre0 fin => ?_
  have N0 := Fr.nil n0
  obtain ⟨cl6, Ar6, -, Sz6, Nn6, -, -⟩ := id V5
  obtain ⟨_, T9, L9, X9, hQ9, st9⟩ := own_cS X0 hx hZ hown (ww80 hw) (ww81 hw) (ww2 hw) (ww82 hw) (rm17_41 l Z a0 hw va7 h0 n0 O0 S_8 ir_va7) e0 pd_12 hml (hb hby d16_3) (Ls := #[vR a1, vI 0]) (W := 0) (argsL := [(.int 0), (.int 2)]) (rest := [])
  obtain ⟨rfl, u11, u12⟩ := hQ9
  have N9 := Fr.app N0 u11
  obtain ⟨cl13, Ar13, -, Sz13, -, Hh13, -⟩ := id V5
  have hin13 : ¬ ((0 : Int32) < 0 ∨ cl13.slots.size ≤ ((0 : Int32)).toNatClampNeg) := inb_of Sz13 ⟨by decide +kernel, by decide +kernel⟩
  have hat13 : cl13.slots[((0 : Int32)).toNatClampNeg]? = some (.int p2) := Has.at Hh13 hin13 rfl
  obtain ⟨i14, hi14⟩ : ∃ z, z = (p2 &&& (255 : Int32)) := ⟨_, rfl⟩
  refine fin (some (.int i14)) _ _ _ _ X9 nofun (fun fs hr => pre0 _ ?_) (own_atH u12 ?_) (by decide) (by decide)
  · refine o_iloadN X0 hx hby d16_0 rfl (o_aloadN X0 hx hby d16_1 rfl rfl (X0.arraylength hx (by rw [e0]; exact Ar6.1) (State.isArrayOf_alike hZ.alike Ar6.2.1) (g := (mkF m 2 #[vR a1, vI 0] [(.ref a1), (.int 0)])) rfl rfl (hb hby d16_2) _ ?_))
    rw [len_of Sz6 Nn6]
    refine st9 _ (o_aloadN X9 hx hby d16_6 rfl rfl (o_iloadN X9 hx hby d16_7 rfl (X9.baloadBytes hx (j := (0 : Int32)) (v := (.int p2)) (by rw [u12]; exact Ar13.1) (State.isArrayOf_alike hZ.alike Ar13.2.1) Ar13.2.2 hin13 hat13 (g := (mkF m 8 #[vR a1, vI 0] [(.int 0), (.ref a1)])) rfl rfl (hb hby d16_8) _ (o_sipush X9 hx hby d16_9 (x := 255) rfl (o_iand X9 hx hby d16_12 (z := i14) hi14.symm (o_i2c X9 hx hby d16_13 (z := i14) (own_i2c255 hi14) ?_))))))
    exact retN X9 hx (t := .char) hret (by simp) (hb hby d16_14) (by rw [(own_nar255 hi14)]; exact hr)
  · exact ⟨i14, hi14, rfl, N9, rfl⟩
def Q14_39 (Z : State) (a1 : Addr) (p3 : Int32) (a11 : Addr) (p14 : Int32) (p15 : Int32) (k16 : ClassId) (va18 : Value) (h0 : Heap) (n0 : Nat) (v : Option Value) (h : Heap) (L : List Loc) : Prop := (∃ (i21 : Int32), i21 = (p14 &&& (255 : Int32)) ∧ v = some (.int i21) ∧ Fr n0 L ∧ h = h0)
theorem rm14_39 (l : Launch) (Z : State) (a0 : Array Value) (hw : own_HW Z a0) (a1 : Addr) (p3 : Int32) (a11 : Addr) (p14 : Int32) (p15 : Int32) (k16 : ClassId) (va18 : Value) (h0 : Heap) (n0 : Nat) (O0 : Old Z n0 h0) (E_2 : Exa Z h0 a1 C_0) (S_4 : Sta Z Z.heap C_0 "COMPACT_STRINGS" "Z" (.int p3)) (hk5 : ¬ (p3 = (0 : Int32))) (F6 : Fld Z h0 a1 C_0 "coder" "B" (.int 0)) (F12 : Fld Z h0 a1 C_0 "value" "[B" (.ref a11)) (V17 : Arv Z h0 a11 k16 .byte (2 : Int32) [(.int p14), (.int p15)] (.int (0 : Int32))) (S_19 : Sta Z Z.heap C_3 "SIOOBE_FORMATTER" C_4 va18) (ir_va18 : va18.isRef = true) : own_Met l Z M_14 bc14 2 (some .char) ({ frames := 3, cells := 0, slots := 0, locals := 40 } : Room) #[(.ref a1), (.int 0)] h0 (Q14_39 Z a1 p3 a11 p14 p15 k16 va18 h0 n0) := by
  refine own_body (L0 := #[vR a1, vI 0]) (plainFor_of_name pn_2) (fun m => by first | (simp [entryFrame, mkF, argsToLocals, Value.category]; done) | rfl) fun p e s m below meth c s₁ EN hx hby hml hown hnm hret X0 hZ e0 hh pre0 fin => ?_
  have N0 := Fr.nil n0
  obtain ⟨_, T7, L7, X7, hQ7, st7⟩ := own_cV X0 hx hZ hown (ww71 hw) (ww72 hw) (notFace_of_selects (args := #[]) (mvT hZ (ww74 hw))) (ww74 hw) (ww73 hw) (ww2 hw) (ww75 hw) E_2 (rm15_15 l Z a0 hw a1 p3 h0 n0 O0 S_4 hk5 F6) e0 pd_10 hml (hb hby d14_1) (Ls := #[vR a1, vI 0]) (W := 0) (argsL := []) (rest := [])
  obtain ⟨rfl, u9, u10⟩ := hQ7
  have N7 := Fr.app N0 u9
  obtain ⟨T13, X13, e13, st13⟩ := getF X7 hx hZ hown (host := "") (Or.inl (ww32 hw)) Via.refl u10 F12 (g := (mkF m 8 #[vR a1, vI 0] [(.ref a1)])) rfl rfl (hb hby d14_8)
  obtain ⟨_, T20, L20, X20, hQ20, st20⟩ := own_cS X13 hx hZ hown (ww76 hw) (ww77 hw) (ww78 hw) (ww79 hw) (rm16_40 l Z a0 hw a11 p14 p15 k16 va18 h0 n0 O0 V17 S_19 ir_va18) e13 pd_13 hml (hb hby d14_12) (Ls := #[vR a1, vI 0]) (W := 0) (argsL := [(.ref a11), (.int 0)]) (rest := [])
  obtain ⟨i21, u22, rfl, u24, u25⟩ := hQ20
  have N20 := Fr.app N7 u24
  refine fin (some (.int i21)) _ _ _ _ X20 nofun (fun fs hr => pre0 _ ?_) (own_atH u25 ?_) (by decide) (by decide)
  · refine o_aloadN X0 hx hby d14_0 rfl rfl (st7 _ (o_ifN X7 hx hby d14_4 (by decide +kernel) (o_aloadN X7 hx hby d14_7 rfl rfl (st13 _ (o_iloadN X13 hx hby d14_11 rfl (st20 _ ?_))))))
    exact retN X20 hx (t := .char) hret (by simp) (hb hby d14_15) (by rw [(own_nar255 u22)]; exact hr)
  · exact ⟨i21, u22, rfl, N20, rfl⟩
def Q18_46 (Z : State) (va1 : Value) (h0 : Heap) (n0 : Nat) (v : Option Value) (h : Heap) (L : List Loc) : Prop := (v = some (.int 1) ∧ Fr n0 L ∧ h = h0)
theorem rm18_46 (l : Launch) (Z : State) (a0 : Array Value) (hw : own_HW Z a0) (va1 : Value) (h0 : Heap) (n0 : Nat) (O0 : Old Z n0 h0) (ir_va1 : va1.isRef = true) : own_Met l Z M_11 bc18 3 (some .int) ({ frames := 0, cells := 0, slots := 0, locals := 0 } : Room) #[(.int 1), (.int 2), va1] h0 (Q18_46 Z va1 h0 n0) := by
  refine own_body (L0 := #[vI 1, vI 2, .val va1]) (plainFor_of_name pn_5) (fun m => by rcases ref_cases ir_va1 with h | ⟨_, h⟩ <;> subst h <;> rfl) fun p e s m below meth c s₁ EN hx hby hml hown hnm hret X0 hZ e0 hh pre0 fin => ?_
  have N0 := Fr.nil n0
  refine fin (some (.int 1)) _ _ _ _ X0 nofun (fun fs hr => pre0 _ ?_) (own_atH e0 ?_) (by decide) (by decide)
  · refine o_iloadN X0 hx hby d18_0 rfl (o_ifN X0 hx hby d18_1 (by decide +kernel) (o_iloadN X0 hx hby d18_4 rfl (o_iloadN X0 hx hby d18_5 rfl (o_icmpY X0 hx hby d18_6 (pc := 6) (pc' := 16) (by decide +kernel) (by decide) (by decide) (o_iloadN X0 hx hby d18_16 rfl ?_)))))
    exact retI X0 hx hret (hb hby d18_17) hr
  · exact ⟨rfl, N0, rfl⟩
def Q17_45 (Z : State) (va1 : Value) (h0 : Heap) (n0 : Nat) (v : Option Value) (h : Heap) (L : List Loc) : Prop := (v = none ∧ Fr n0 L ∧ h = h0)
theorem rm17_45 (l : Launch) (Z : State) (a0 : Array Value) (hw : own_HW Z a0) (va1 : Value) (h0 : Heap) (n0 : Nat) (O0 : Old Z n0 h0) (S_2 : Sta Z Z.heap C_3 "SIOOBE_FORMATTER" C_4 va1) (ir_va1 : va1.isRef = true) : own_Met l Z M_12 bc17 2 none ({ frames := 1, cells := 0, slots := 0, locals := 14 } : Room) #[(.int 1), (.int 2)] h0 (Q17_45 Z va1 h0 n0) := by
  refine own_body (L0 := #[vI 1, vI 2]) (plainFor_of_name pn_2) (fun m => by first | (simp [entryFrame, mkF, argsToLocals, Value.category]; done) | rfl) fun p e s m below meth c s₁ EN hx hby hml hown hnm hret X0 hZ e0 hh pre0 fin => ?_
  have N0 := Fr.nil n0
  obtain ⟨T3, X3, e3, st3⟩ := getS2 X0 hx hZ hown (host := "") (Or.inl (ww83 hw)) Via.refl e0 (Sta.ext O0.2 S_2) (g := (mkF m 2 #[vI 1, vI 2] [(.int 2), (.int 1)])) rfl (hb hby d17_2)
  obtain ⟨_, T4, L4, X4, hQ4, st4⟩ := own_cS X3 hx hZ hown (ww85 hw) (ww86 hw) (ww84 hw) (ww87 hw) (rm18_46 l Z a0 hw va1 h0 n0 O0 ir_va1) e3 pd_11 hml (hb hby d17_5) (Ls := #[vI 1, vI 2]) (W := 0) (argsL := [(.int 1), (.int 2), va1]) (rest := [])
  obtain ⟨rfl, u6, u7⟩ := hQ4
  have N4 := Fr.app N0 u6
  refine fin none _ _ _ _ X4 (fun _ => rfl) (fun fs hr => pre0 _ ?_) (own_atH u7 ?_) (by decide) (by decide)
  · refine o_iloadN X0 hx hby d17_0 rfl (o_iloadN X0 hx hby d17_1 rfl (st3 _ (st4 _ (o_pop X4 hx hby d17_8 rfl ?_))))
    exact X4.returnOut hx hret (hb hby d17_9) hr
  · exact ⟨rfl, N4, rfl⟩
def Q16_44 (Z : State) (a1 : Addr) (p2 : Int32) (p3 : Int32) (k4 : ClassId) (va7 : Value) (h0 : Heap) (n0 : Nat) (v : Option Value) (h : Heap) (L : List Loc) : Prop := (∃ (i14 : Int32), i14 = (p3 &&& (255 : Int32)) ∧ v = some (.int i14) ∧ Fr n0 L ∧ h = h0)
theorem rm16_44 (l : Launch) (Z : State) (a0 : Array Value) (hw : own_HW Z a0) (a1 : Addr) (p2 : Int32) (p3 : Int32) (k4 : ClassId) (va7 : Value) (h0 : Heap) (n0 : Nat) (O0 : Old Z n0 h0) (V5 : Arv Z h0 a1 k4 .byte (2 : Int32) [(.int p2), (.int p3)] (.int (0 : Int32))) (S_8 : Sta Z Z.heap C_3 "SIOOBE_FORMATTER" C_4 va7) (ir_va7 : va7.isRef = true) : own_Met l Z M_13 bc16 2 (some .char) ({ frames := 2, cells := 0, slots := 0, locals := 27 } : Room) #[(.ref a1), (.int 1)] h0 (Q16_44 Z a1 p2 p3 k4 va7 h0 n0) := by
  refine own_body (L0 := #[vR a1, vI 1]) (plainFor_of_name pn_6) (fun m => by first | (simp [entryFrame, mkF, argsToLocals, Value.category]; done) | rfl) fun p e s m below meth c s₁ EN hx hby hml hown hnm hret X0 hZ e0 hh pre0 fin => ?_
  have N0 := Fr.nil n0
  obtain ⟨cl6, Ar6, -, Sz6, Nn6, -, -⟩ := id V5
  obtain ⟨_, T9, L9, X9, hQ9, st9⟩ := own_cS X0 hx hZ hown (ww80 hw) (ww81 hw) (ww2 hw) (ww82 hw) (rm17_45 l Z a0 hw va7 h0 n0 O0 S_8 ir_va7) e0 pd_12 hml (hb hby d16_3) (Ls := #[vR a1, vI 1]) (W := 0) (argsL := [(.int 1), (.int 2)]) (rest := [])
  obtain ⟨rfl, u11, u12⟩ := hQ9
  have N9 := Fr.app N0 u11
  obtain ⟨cl13, Ar13, -, Sz13, -, Hh13, -⟩ := id V5
  have hin13 : ¬ ((1 : Int32) < 0 ∨ cl13.slots.size ≤ ((1 : Int32)).toNatClampNeg) := inb_of Sz13 ⟨by decide +kernel, by decide +kernel⟩
  have hat13 : cl13.slots[((1 : Int32)).toNatClampNeg]? = some (.int p3) := Has.at Hh13 hin13 rfl
  obtain ⟨i14, hi14⟩ : ∃ z, z = (p3 &&& (255 : Int32)) := ⟨_, rfl⟩
  refine fin (some (.int i14)) _ _ _ _ X9 nofun (fun fs hr => pre0 _ ?_) (own_atH u12 ?_) (by decide) (by decide)
  · refine o_iloadN X0 hx hby d16_0 rfl (o_aloadN X0 hx hby d16_1 rfl rfl (X0.arraylength hx (by rw [e0]; exact Ar6.1) (State.isArrayOf_alike hZ.alike Ar6.2.1) (g := (mkF m 2 #[vR a1, vI 1] [(.ref a1), (.int 1)])) rfl rfl (hb hby d16_2) _ ?_))
    rw [len_of Sz6 Nn6]
    refine st9 _ (o_aloadN X9 hx hby d16_6 rfl rfl (o_iloadN X9 hx hby d16_7 rfl (X9.baloadBytes hx (j := (1 : Int32)) (v := (.int p3)) (by rw [u12]; exact Ar13.1) (State.isArrayOf_alike hZ.alike Ar13.2.1) Ar13.2.2 hin13 hat13 (g := (mkF m 8 #[vR a1, vI 1] [(.int 1), (.ref a1)])) rfl rfl (hb hby d16_8) _ (o_sipush X9 hx hby d16_9 (x := 255) rfl (o_iand X9 hx hby d16_12 (z := i14) hi14.symm (o_i2c X9 hx hby d16_13 (z := i14) (own_i2c255 hi14) ?_))))))
    exact retN X9 hx (t := .char) hret (by simp) (hb hby d16_14) (by rw [(own_nar255 hi14)]; exact hr)
  · exact ⟨i14, hi14, rfl, N9, rfl⟩
def Q14_43 (Z : State) (a1 : Addr) (p3 : Int32) (a11 : Addr) (p14 : Int32) (p15 : Int32) (k16 : ClassId) (va18 : Value) (h0 : Heap) (n0 : Nat) (v : Option Value) (h : Heap) (L : List Loc) : Prop := (∃ (i21 : Int32), i21 = (p15 &&& (255 : Int32)) ∧ v = some (.int i21) ∧ Fr n0 L ∧ h = h0)
theorem rm14_43 (l : Launch) (Z : State) (a0 : Array Value) (hw : own_HW Z a0) (a1 : Addr) (p3 : Int32) (a11 : Addr) (p14 : Int32) (p15 : Int32) (k16 : ClassId) (va18 : Value) (h0 : Heap) (n0 : Nat) (O0 : Old Z n0 h0) (E_2 : Exa Z h0 a1 C_0) (S_4 : Sta Z Z.heap C_0 "COMPACT_STRINGS" "Z" (.int p3)) (hk5 : ¬ (p3 = (0 : Int32))) (F6 : Fld Z h0 a1 C_0 "coder" "B" (.int 0)) (F12 : Fld Z h0 a1 C_0 "value" "[B" (.ref a11)) (V17 : Arv Z h0 a11 k16 .byte (2 : Int32) [(.int p14), (.int p15)] (.int (0 : Int32))) (S_19 : Sta Z Z.heap C_3 "SIOOBE_FORMATTER" C_4 va18) (ir_va18 : va18.isRef = true) : own_Met l Z M_14 bc14 2 (some .char) ({ frames := 3, cells := 0, slots := 0, locals := 40 } : Room) #[(.ref a1), (.int 1)] h0 (Q14_43 Z a1 p3 a11 p14 p15 k16 va18 h0 n0) := by
  refine own_body (L0 := #[vR a1, vI 1]) (plainFor_of_name pn_2) (fun m => by first | (simp [entryFrame, mkF, argsToLocals, Value.category]; done) | rfl) fun p e s m below meth c s₁ EN hx hby hml hown hnm hret X0 hZ e0 hh pre0 fin => ?_
  have N0 := Fr.nil n0
  obtain ⟨_, T7, L7, X7, hQ7, st7⟩ := own_cV X0 hx hZ hown (ww71 hw) (ww72 hw) (notFace_of_selects (args := #[]) (mvT hZ (ww74 hw))) (ww74 hw) (ww73 hw) (ww2 hw) (ww75 hw) E_2 (rm15_15 l Z a0 hw a1 p3 h0 n0 O0 S_4 hk5 F6) e0 pd_10 hml (hb hby d14_1) (Ls := #[vR a1, vI 1]) (W := 0) (argsL := []) (rest := [])
  obtain ⟨rfl, u9, u10⟩ := hQ7
  have N7 := Fr.app N0 u9
  obtain ⟨T13, X13, e13, st13⟩ := getF X7 hx hZ hown (host := "") (Or.inl (ww32 hw)) Via.refl u10 F12 (g := (mkF m 8 #[vR a1, vI 1] [(.ref a1)])) rfl rfl (hb hby d14_8)
  obtain ⟨_, T20, L20, X20, hQ20, st20⟩ := own_cS X13 hx hZ hown (ww76 hw) (ww77 hw) (ww78 hw) (ww79 hw) (rm16_44 l Z a0 hw a11 p14 p15 k16 va18 h0 n0 O0 V17 S_19 ir_va18) e13 pd_13 hml (hb hby d14_12) (Ls := #[vR a1, vI 1]) (W := 0) (argsL := [(.ref a11), (.int 1)]) (rest := [])
  obtain ⟨i21, u22, rfl, u24, u25⟩ := hQ20
  have N20 := Fr.app N7 u24
  refine fin (some (.int i21)) _ _ _ _ X20 nofun (fun fs hr => pre0 _ ?_) (own_atH u25 ?_) (by decide) (by decide)
  · refine o_aloadN X0 hx hby d14_0 rfl rfl (st7 _ (o_ifN X7 hx hby d14_4 (by decide +kernel) (o_aloadN X7 hx hby d14_7 rfl rfl (st13 _ (o_iloadN X13 hx hby d14_11 rfl (st20 _ ?_))))))
    exact retN X20 hx (t := .char) hret (by simp) (hb hby d14_15) (by rw [(own_nar255 u22)]; exact hr)
  · exact ⟨i21, u22, rfl, N20, rfl⟩
def Q11_37 (Z : State) (a1 : Addr) (a3 : Addr) (p5 : Int32) (p6 : Int32) (k7 : ClassId) (p9 : Int32) (va17 : Value) (h0 : Heap) (n0 : Nat) (v : Option Value) (h : Heap) (L : List Loc) : Prop := (∃ (i20 : Int32) (i32 : Int32), i20 = (p5 &&& (255 : Int32)) ∧ i32 = (p6 &&& (255 : Int32)) ∧ i20 < (128 : Int32) ∧ i32 < (128 : Int32) ∧ v = some (.int 2) ∧ Fr n0 L ∧ h = h0) ∨ (∃ (i20 : Int32) (i32 : Int32), i20 = (p5 &&& (255 : Int32)) ∧ i32 = (p6 &&& (255 : Int32)) ∧ i20 < (128 : Int32) ∧ ¬ (i32 < (128 : Int32)) ∧ v = some (.int 3) ∧ Fr n0 L ∧ h = h0) ∨ (∃ (i20 : Int32) (i52 : Int32), i20 = (p5 &&& (255 : Int32)) ∧ i52 = (p6 &&& (255 : Int32)) ∧ ¬ (i20 < (128 : Int32)) ∧ i52 < (128 : Int32) ∧ v = some (.int 3) ∧ Fr n0 L ∧ h = h0) ∨ (∃ (i20 : Int32) (i52 : Int32), i20 = (p5 &&& (255 : Int32)) ∧ i52 = (p6 &&& (255 : Int32)) ∧ ¬ (i20 < (128 : Int32)) ∧ ¬ (i52 < (128 : Int32)) ∧ v = some (.int 4) ∧ Fr n0 L ∧ h = h0)
theorem rm11_37 (l : Launch) (Z : State) (a0 : Array Value) (hw : own_HW Z a0) (a1 : Addr) (a3 : Addr) (p5 : Int32) (p6 : Int32) (k7 : ClassId) (p9 : Int32) (va17 : Value) (h0 : Heap) (n0 : Nat) (O0 : Old Z n0 h0) (E_2 : Exa Z h0 a1 C_0) (F4 : Fld Z h0 a1 C_0 "value" "[B" (.ref a3)) (V8 : Arv Z h0 a3 k7 .byte (2 : Int32) [(.int p5), (.int p6)] (.int (0 : Int32))) (S_10 : Sta Z Z.heap C_0 "COMPACT_STRINGS" "Z" (.int p9)) (hk11 : ¬ (p9 = (0 : Int32))) (F12 : Fld Z h0 a1 C_0 "coder" "B" (.int 0)) (S_18 : Sta Z Z.heap C_3 "SIOOBE_FORMATTER" C_4 va17) (ir_va17 : va17.isRef = true) : own_Met l Z M_15 bc11 4 (some .int) ({ frames := 4, cells := 0, slots := 0, locals := 53 } : Room) #[(.ref a1)] h0 (Q11_37 Z a1 a3 p5 p6 k7 p9 va17 h0 n0) := by
  refine own_body (L0 := #[vR a1, .unset, .unset, .unset]) (plainFor_of_name pn_7) (fun m => by first | (simp [entryFrame, mkF, argsToLocals, Value.category]; done) | rfl) fun p e s m below meth c s₁ EN hx hby hml hown hnm hret X0 hZ e0 hh pre0 fin => ?_
  have N0 := Fr.nil n0
  obtain ⟨_, T13, L13, X13, hQ13, st13⟩ := own_cV X0 hx hZ hown (ww56 hw) (ww57 hw) (notFace_of_selects (args := #[]) (mvT hZ (ww59 hw))) (ww59 hw) (ww58 hw) (ww2 hw) (ww60 hw) E_2 (rm12_38 l Z a0 hw a1 a3 p5 p6 k7 p9 h0 n0 O0 F4 V8 E_2 S_10 hk11 F12) e0 pd_9 hml (hb hby d11_6) (Ls := #[vR a1, vI 0, vI 0, .unset]) (W := 1) (argsL := []) (rest := [(.int 0)])
  obtain ⟨rfl, u15, u16⟩ := hQ13
  have N13 := Fr.app N0 u15
  obtain ⟨_, T19, L19, X19, hQ19, st19⟩ := own_cV X13 hx hZ hown (ww66 hw) (ww67 hw) (notFace_of_selects (args := #[]) (mvT hZ (ww69 hw))) (ww69 hw) (ww68 hw) (ww2 hw) (ww70 hw) E_2 (rm14_39 l Z a0 hw a1 p9 a3 p5 p6 k7 va17 h0 n0 O0 E_2 S_10 hk11 F12 F4 V8 S_18 ir_va17) u16 pd_14 hml (hb hby d11_14) (Ls := #[vR a1, vI 0, vI 0, .unset]) (W := 0) (argsL := [(.int 0)]) (rest := [])
  obtain ⟨i20, u21, rfl, u23, u24⟩ := hQ19
  have N19 := Fr.app N13 u23
  have pre25 : ∀ t, Steps p.tables e below (T19.setTop (mkF m 22 #[vR a1, vI 0, vI 0, vI i20] [(.int 128), (.int i20)])) t → Steps p.tables e below EN t := by
    intro t kt
    refine pre0 t ?_
    refine o_iconst X0 hx hby d11_0 (x := 0) rfl (o_istoreN X0 hx hby d11_1 (Ls' := #[vR a1, vI 0, .unset, .unset]) rfl (o_iconst X0 hx hby d11_2 (x := 0) rfl (o_istoreN X0 hx hby d11_3 (Ls' := #[vR a1, vI 0, vI 0, .unset]) rfl (o_iloadN X0 hx hby d11_4 rfl (o_aloadN X0 hx hby d11_5 rfl rfl (st13 _ (o_icmpN X13 hx hby d11_9 (by decide +kernel) (o_aloadN X13 hx hby d11_12 rfl rfl (o_iloadN X13 hx hby d11_13 rfl (st19 _ (o_istoreN X19 hx hby d11_17 (Ls' := #[vR a1, vI 0, vI 0, vI i20]) rfl (o_iloadN X19 hx hby d11_18 rfl (o_sipush X19 hx hby d11_19 (x := 128) rfl ?_)))))))))))))
    exact kt
  by_cases hc26 : i20 < (128 : Int32)
  · skip
    obtain ⟨_, T27, L27, X27, hQ27, st27⟩ := own_cV X19 hx hZ hown (ww56 hw) (ww57 hw) (notFace_of_selects (args := #[]) (mvT hZ (ww59 hw))) (ww59 hw) (ww58 hw) (ww2 hw) (ww60 hw) E_2 (rm12_38 l Z a0 hw a1 a3 p5 p6 k7 p9 h0 n0 O0 F4 V8 E_2 S_10 hk11 F12) u24 pd_9 hml (hb hby d11_6) (Ls := #[vR a1, vI 1, vI 1, vI i20]) (W := 1) (argsL := []) (rest := [(.int 1)])
    obtain ⟨rfl, u29, u30⟩ := hQ27
    have N27 := Fr.app N19 u29
    obtain ⟨_, T31, L31, X31, hQ31, st31⟩ := own_cV X27 hx hZ hown (ww66 hw) (ww67 hw) (notFace_of_selects (args := #[]) (mvT hZ (ww69 hw))) (ww69 hw) (ww68 hw) (ww2 hw) (ww70 hw) E_2 (rm14_43 l Z a0 hw a1 p9 a3 p5 p6 k7 va17 h0 n0 O0 E_2 S_10 hk11 F12 F4 V8 S_18 ir_va17) u30 pd_14 hml (hb hby d11_14) (Ls := #[vR a1, vI 1, vI 1, vI i20]) (W := 0) (argsL := [(.int 1)]) (rest := [])
    obtain ⟨i32, u33, rfl, u35, u36⟩ := hQ31
    have N31 := Fr.app N27 u35
    have pre37 : ∀ t, Steps p.tables e below (T31.setTop (mkF m 22 #[vR a1, vI 1, vI 1, vI i32] [(.int 128), (.int i32)])) t → Steps p.tables e below EN t := by
      intro t kt
      refine pre25 t ?_
      refine o_icmpN X19 hx hby d11_22 (tlt hc26).2.1 (o_iinc X19 hx hby d11_25 rfl (z := (1 : Int32)) (k' := 1) rfl (by decide +kernel) (Ls' := #[vR a1, vI 1, vI 0, vI i20]) rfl (o_goto X19 hx hby d11_28 (pc := 28) (pc' := 106) (by decide) (by decide) (o_iinc X19 hx hby d11_106 rfl (z := (1 : Int32)) (k' := 1) rfl (by decide +kernel) (Ls' := #[vR a1, vI 1, vI 1, vI i20]) rfl (o_goto X19 hx hby d11_109 (pc := 109) (pc' := 4) (by decide) (by decide) (o_iloadN X19 hx hby d11_4 rfl (o_aloadN X19 hx hby d11_5 rfl rfl (st27 _ (o_icmpN X27 hx hby d11_9 (by decide +kernel) (o_aloadN X27 hx hby d11_12 rfl rfl (o_iloadN X27 hx hby d11_13 rfl (st31 _ (o_istoreN X31 hx hby d11_17 (Ls' := #[vR a1, vI 1, vI 1, vI i32]) rfl (o_iloadN X31 hx hby d11_18 rfl (o_sipush X31 hx hby d11_19 (x := 128) rfl ?_))))))))))))))
      exact kt
    by_cases hc38 : i32 < (128 : Int32)
    · skip
      obtain ⟨_, T39, L39, X39, hQ39, st39⟩ := own_cV X31 hx hZ hown (ww56 hw) (ww57 hw) (notFace_of_selects (args := #[]) (mvT hZ (ww59 hw))) (ww59 hw) (ww58 hw) (ww2 hw) (ww60 hw) E_2 (rm12_38 l Z a0 hw a1 a3 p5 p6 k7 p9 h0 n0 O0 F4 V8 E_2 S_10 hk11 F12) u36 pd_9 hml (hb hby d11_6) (Ls := #[vR a1, vI 2, vI 2, vI i32]) (W := 1) (argsL := []) (rest := [(.int 2)])
      obtain ⟨rfl, u41, u42⟩ := hQ39
      have N39 := Fr.app N31 u41
      refine fin (some (.int 2)) _ _ _ _ X39 nofun (fun fs hr => pre37 _ ?_) (own_atH u42 ?_) (by decide) (by decide)
      · refine o_icmpN X31 hx hby d11_22 (tlt hc38).2.1 (o_iinc X31 hx hby d11_25 rfl (z := (2 : Int32)) (k' := 1) rfl (by decide +kernel) (Ls' := #[vR a1, vI 2, vI 1, vI i32]) rfl (o_goto X31 hx hby d11_28 (pc := 28) (pc' := 106) (by decide) (by decide) (o_iinc X31 hx hby d11_106 rfl (z := (2 : Int32)) (k' := 1) rfl (by decide +kernel) (Ls' := #[vR a1, vI 2, vI 2, vI i32]) rfl (o_goto X31 hx hby d11_109 (pc := 109) (pc' := 4) (by decide) (by decide) (o_iloadN X31 hx hby d11_4 rfl (o_aloadN X31 hx hby d11_5 rfl rfl (st39 _ (o_icmpY X39 hx hby d11_9 (pc := 9) (pc' := 112) (by decide +kernel) (by decide) (by decide) (o_iloadN X39 hx hby d11_112 rfl ?_)))))))))
        exact retI X39 hx hret (hb hby d11_113) hr
      · exact Or.inl (⟨i20, i32, u21, u33, hc26, hc38, rfl, N39, rfl⟩)
    · skip
      obtain ⟨_, T43, L43, X43, hQ43, st43⟩ := own_cV X31 hx hZ hown (ww56 hw) (ww57 hw) (notFace_of_selects (args := #[]) (mvT hZ (ww59 hw))) (ww59 hw) (ww58 hw) (ww2 hw) (ww60 hw) E_2 (rm12_38 l Z a0 hw a1 a3 p5 p6 k7 p9 h0 n0 O0 F4 V8 E_2 S_10 hk11 F12) u36 pd_9 hml (hb hby d11_6) (Ls := #[vR a1, vI 3, vI 2, vI i32]) (W := 1) (argsL := []) (rest := [(.int 2)])
      obtain ⟨rfl, u45, u46⟩ := hQ43
      have N43 := Fr.app N31 u45
      refine fin (some (.int 3)) _ _ _ _ X43 nofun (fun fs hr => pre37 _ ?_) (own_atH u46 ?_) (by decide) (by decide)
      · refine o_icmpY X31 hx hby d11_22 (pc := 22) (pc' := 31) (flt hc38).2.1 (by decide) (by decide) (o_iloadN X31 hx hby d11_31 rfl (o_sipush X31 hx hby d11_32 (x := 2048) rfl (o_icmpN X31 hx hby d11_35 (tlt (own_ltk u33 (by decide +kernel))).2.1 (o_iinc X31 hx hby d11_38 rfl (z := (3 : Int32)) (k' := 2) rfl (by decide +kernel) (Ls' := #[vR a1, vI 3, vI 1, vI i32]) rfl (o_goto X31 hx hby d11_41 (pc := 41) (pc' := 106) (by decide) (by decide) (o_iinc X31 hx hby d11_106 rfl (z := (2 : Int32)) (k' := 1) rfl (by decide +kernel) (Ls' := #[vR a1, vI 3, vI 2, vI i32]) rfl (o_goto X31 hx hby d11_109 (pc := 109) (pc' := 4) (by decide) (by decide) (o_iloadN X31 hx hby d11_4 rfl (o_aloadN X31 hx hby d11_5 rfl rfl (st43 _ (o_icmpY X43 hx hby d11_9 (pc := 9) (pc' := 112) (by decide +kernel) (by decide) (by decide) (o_iloadN X43 hx hby d11_112 rfl ?_))))))))))))
        exact retI X43 hx hret (hb hby d11_113) hr
      · exact Or.inr (Or.inl (⟨i20, i32, u21, u33, hc26, hc38, rfl, N43, rfl⟩))
  · skip
    obtain ⟨_, T47, L47, X47, hQ47, st47⟩ := own_cV X19 hx hZ hown (ww56 hw) (ww57 hw) (notFace_of_selects (args := #[]) (mvT hZ (ww59 hw))) (ww59 hw) (ww58 hw) (ww2 hw) (ww60 hw) E_2 (rm12_38 l Z a0 hw a1 a3 p5 p6 k7 p9 h0 n0 O0 F4 V8 E_2 S_10 hk11 F12) u24 pd_9 hml (hb hby d11_6) (Ls := #[vR a1, vI 2, vI 1, vI i20]) (W := 1) (argsL := []) (rest := [(.int 1)])
    obtain ⟨rfl, u49, u50⟩ := hQ47
    have N47 := Fr.app N19 u49
    obtain ⟨_, T51, L51, X51, hQ51, st51⟩ := own_cV X47 hx hZ hown (ww66 hw) (ww67 hw) (notFace_of_selects (args := #[]) (mvT hZ (ww69 hw))) (ww69 hw) (ww68 hw) (ww2 hw) (ww70 hw) E_2 (rm14_43 l Z a0 hw a1 p9 a3 p5 p6 k7 va17 h0 n0 O0 E_2 S_10 hk11 F12 F4 V8 S_18 ir_va17) u50 pd_14 hml (hb hby d11_14) (Ls := #[vR a1, vI 2, vI 1, vI i20]) (W := 0) (argsL := [(.int 1)]) (rest := [])
    obtain ⟨i52, u53, rfl, u55, u56⟩ := hQ51
    have N51 := Fr.app N47 u55
    have pre57 : ∀ t, Steps p.tables e below (T51.setTop (mkF m 22 #[vR a1, vI 2, vI 1, vI i52] [(.int 128), (.int i52)])) t → Steps p.tables e below EN t := by
      intro t kt
      refine pre25 t ?_
      refine o_icmpY X19 hx hby d11_22 (pc := 22) (pc' := 31) (flt hc26).2.1 (by decide) (by decide) (o_iloadN X19 hx hby d11_31 rfl (o_sipush X19 hx hby d11_32 (x := 2048) rfl (o_icmpN X19 hx hby d11_35 (tlt (own_ltk u21 (by decide +kernel))).2.1 (o_iinc X19 hx hby d11_38 rfl (z := (2 : Int32)) (k' := 2) rfl (by decide +kernel) (Ls' := #[vR a1, vI 2, vI 0, vI i20]) rfl (o_goto X19 hx hby d11_41 (pc := 41) (pc' := 106) (by decide) (by decide) (o_iinc X19 hx hby d11_106 rfl (z := (1 : Int32)) (k' := 1) rfl (by decide +kernel) (Ls' := #[vR a1, vI 2, vI 1, vI i20]) rfl (o_goto X19 hx hby d11_109 (pc := 109) (pc' := 4) (by decide) (by decide) (o_iloadN X19 hx hby d11_4 rfl (o_aloadN X19 hx hby d11_5 rfl rfl (st47 _ (o_icmpN X47 hx hby d11_9 (by decide +kernel) (o_aloadN X47 hx hby d11_12 rfl rfl (o_iloadN X47 hx hby d11_13 rfl (st51 _ (o_istoreN X51 hx hby d11_17 (Ls' := #[vR a1, vI 2, vI 1, vI i52]) rfl (o_iloadN X51 hx hby d11_18 rfl (o_sipush X51 hx hby d11_19 (x := 128) rfl ?_)))))))))))))))))
      exact kt
    by_cases hc58 : i52 < (128 : Int32)
    · skip
      obtain ⟨_, T59, L59, X59, hQ59, st59⟩ := own_cV X51 hx hZ hown (ww56 hw) (ww57 hw) (notFace_of_selects (args := #[]) (mvT hZ (ww59 hw))) (ww59 hw) (ww58 hw) (ww2 hw) (ww60 hw) E_2 (rm12_38 l Z a0 hw a1 a3 p5 p6 k7 p9 h0 n0 O0 F4 V8 E_2 S_10 hk11 F12) u56 pd_9 hml (hb hby d11_6) (Ls := #[vR a1, vI 3, vI 2, vI i52]) (W := 1) (argsL := []) (rest := [(.int 2)])
      obtain ⟨rfl, u61, u62⟩ := hQ59
      have N59 := Fr.app N51 u61
      refine fin (some (.int 3)) _ _ _ _ X59 nofun (fun fs hr => pre57 _ ?_) (own_atH u62 ?_) (by decide) (by decide)
      · refine o_icmpN X51 hx hby d11_22 (tlt hc58).2.1 (o_iinc X51 hx hby d11_25 rfl (z := (3 : Int32)) (k' := 1) rfl (by decide +kernel) (Ls' := #[vR a1, vI 3, vI 1, vI i52]) rfl (o_goto X51 hx hby d11_28 (pc := 28) (pc' := 106) (by decide) (by decide) (o_iinc X51 hx hby d11_106 rfl (z := (2 : Int32)) (k' := 1) rfl (by decide +kernel) (Ls' := #[vR a1, vI 3, vI 2, vI i52]) rfl (o_goto X51 hx hby d11_109 (pc := 109) (pc' := 4) (by decide) (by decide) (o_iloadN X51 hx hby d11_4 rfl (o_aloadN X51 hx hby d11_5 rfl rfl (st59 _ (o_icmpY X59 hx hby d11_9 (pc := 9) (pc' := 112) (by decide +kernel) (by decide) (by decide) (o_iloadN X59 hx hby d11_112 rfl ?_)))))))))
        exact retI X59 hx hret (hb hby d11_113) hr
      · exact Or.inr (Or.inr (Or.inl (⟨i20, i52, u21, u53, hc26, hc58, rfl, N59, rfl⟩)))
    · skip
      obtain ⟨_, T63, L63, X63, hQ63, st63⟩ := own_cV X51 hx hZ hown (ww56 hw) (ww57 hw) (notFace_of_selects (args := #[]) (mvT hZ (ww59 hw))) (ww59 hw) (ww58 hw) (ww2 hw) (ww60 hw) E_2 (rm12_38 l Z a0 hw a1 a3 p5 p6 k7 p9 h0 n0 O0 F4 V8 E_2 S_10 hk11 F12) u56 pd_9 hml (hb hby d11_6) (Ls := #[vR a1, vI 4, vI 2, vI i52]) (W := 1) (argsL := []) (rest := [(.int 2)])
      obtain ⟨rfl, u65, u66⟩ := hQ63
      have N63 := Fr.app N51 u65
      refine fin (some (.int 4)) _ _ _ _ X63 nofun (fun fs hr => pre57 _ ?_) (own_atH u66 ?_) (by decide) (by decide)
      · refine o_icmpY X51 hx hby d11_22 (pc := 22) (pc' := 31) (flt hc58).2.1 (by decide) (by decide) (o_iloadN X51 hx hby d11_31 rfl (o_sipush X51 hx hby d11_32 (x := 2048) rfl (o_icmpN X51 hx hby d11_35 (tlt (own_ltk u53 (by decide +kernel))).2.1 (o_iinc X51 hx hby d11_38 rfl (z := (4 : Int32)) (k' := 2) rfl (by decide +kernel) (Ls' := #[vR a1, vI 4, vI 1, vI i52]) rfl (o_goto X51 hx hby d11_41 (pc := 41) (pc' := 106) (by decide) (by decide) (o_iinc X51 hx hby d11_106 rfl (z := (2 : Int32)) (k' := 1) rfl (by decide +kernel) (Ls' := #[vR a1, vI 4, vI 2, vI i52]) rfl (o_goto X51 hx hby d11_109 (pc := 109) (pc' := 4) (by decide) (by decide) (o_iloadN X51 hx hby d11_4 rfl (o_aloadN X51 hx hby d11_5 rfl rfl (st63 _ (o_icmpY X63 hx hby d11_9 (pc := 9) (pc' := 112) (by decide +kernel) (by decide) (by decide) (o_iloadN X63 hx hby d11_112 rfl ?_))))))))))))
        exact retI X63 hx hret (hb hby d11_113) hr
      · exact Or.inr (Or.inr (Or.inr (⟨i20, i52, u21, u53, hc26, hc58, rfl, N63, rfl⟩)))
def Q19_47 (Z : State)  (h0 : Heap) (n0 : Nat) (v : Option Value) (h : Heap) (L : List Loc) : Prop := (v = none ∧ Fr n0 L ∧ h = h0)
theorem rm19_47 (l : Launch) (Z : State) (a0 : Array Value) (hw : own_HW Z a0)  (h0 : Heap) (n0 : Nat) (O0 : Old Z n0 h0) : own_Met l Z M_16 bc19 1 none ({ frames := 0, cells := 0, slots := 0, locals := 0 } : Room) #[(.int 3)] h0 (Q19_47 Z  h0 n0) := by
  refine own_body (L0 := #[vI 3]) (plainFor_of_name pn_7) (fun m => by first | (simp [entryFrame, mkF, argsToLocals, Value.category]; done) | rfl) fun p e s m below meth c s₁ EN hx hby hml hown hnm hret X0 hZ e0 hh pre0 fin => ?_
  have N0 := Fr.nil n0
  refine fin none _ _ _ _ X0 (fun _ => rfl) (fun fs hr => pre0 _ ?_) (own_atH e0 ?_) (by decide) (by decide)
  · refine o_iloadN X0 hx hby d19_0 rfl (o_iconst X0 hx hby d19_1 (x := 1) rfl (o_icmpN X0 hx hby d19_2 (by decide +kernel) (o_iloadN X0 hx hby d19_5 rfl (o_sipush X0 hx hby d19_6 (x := 1024) rfl (o_icmpY X0 hx hby d19_9 (pc := 9) (pc' := 26) (by decide +kernel) (by decide) (by decide) ?_)))))
    exact X0.returnOut hx hret (hb hby d19_26) hr
  · exact ⟨rfl, N0, rfl⟩
def Q19_48 (Z : State)  (h0 : Heap) (n0 : Nat) (v : Option Value) (h : Heap) (L : List Loc) : Prop := (v = none ∧ Fr n0 L ∧ h = h0)
theorem rm19_48 (l : Launch) (Z : State) (a0 : Array Value) (hw : own_HW Z a0)  (h0 : Heap) (n0 : Nat) (O0 : Old Z n0 h0) : own_Met l Z M_16 bc19 1 none ({ frames := 0, cells := 0, slots := 0, locals := 0 } : Room) #[(.int 4)] h0 (Q19_48 Z  h0 n0) := by
  refine own_body (L0 := #[vI 4]) (plainFor_of_name pn_7) (fun m => by first | (simp [entryFrame, mkF, argsToLocals, Value.category]; done) | rfl) fun p e s m below meth c s₁ EN hx hby hml hown hnm hret X0 hZ e0 hh pre0 fin => ?_
  have N0 := Fr.nil n0
  refine fin none _ _ _ _ X0 (fun _ => rfl) (fun fs hr => pre0 _ ?_) (own_atH e0 ?_) (by decide) (by decide)
  · refine o_iloadN X0 hx hby d19_0 rfl (o_iconst X0 hx hby d19_1 (x := 1) rfl (o_icmpN X0 hx hby d19_2 (by decide +kernel) (o_iloadN X0 hx hby d19_5 rfl (o_sipush X0 hx hby d19_6 (x := 1024) rfl (o_icmpY X0 hx hby d19_9 (pc := 9) (pc' := 26) (by decide +kernel) (by decide) (by decide) ?_)))))
    exact X0.returnOut hx hret (hb hby d19_26) hr
  · exact ⟨rfl, N0, rfl⟩
def Q8_36 (Z : State) (a1 : Addr) (a2 : Addr) (a13 : Addr) (p15 : Int32) (p16 : Int32) (k17 : ClassId) (p19 : Int32) (va23 : Value) (h0 : Heap) (n0 : Nat) (v : Option Value) (h : Heap) (L : List Loc) : Prop := (v = none ∧ Fr n0 L ∧ Keep h0 h [a1] ∧ Exa Z h a1 C_1 ∧ Fld Z h a1 C_1 "text" C_2 (.ref a2))
theorem rm8_36 (l : Launch) (Z : State) (a0 : Array Value) (hw : own_HW Z a0) (a1 : Addr) (a2 : Addr) (a13 : Addr) (p15 : Int32) (p16 : Int32) (k17 : ClassId) (p19 : Int32) (va23 : Value) (h0 : Heap) (n0 : Nat) (O0 : Old Z n0 h0) (E_12 : Exa Z h0 a2 C_0) (F14 : Fld Z h0 a2 C_0 "value" "[B" (.ref a13)) (V18 : Arv Z h0 a13 k17 .byte (2 : Int32) [(.int p15), (.int p16)] (.int (0 : Int32))) (S_20 : Sta Z Z.heap C_0 "COMPACT_STRINGS" "Z" (.int p19)) (hk21 : ¬ (p19 = (0 : Int32))) (F22 : Fld Z h0 a2 C_0 "coder" "B" (.int 0)) (S_24 : Sta Z Z.heap C_3 "SIOOBE_FORMATTER" C_4 va23) (ir_va23 : va23.isRef = true) (E_71 : Exa Z h0 a1 C_1) (F72 : Fld Z h0 a1 C_1 "text" C_2 .null) (g_a1 : n0 ≤ a1) : own_MetW l Z M_17 bc8 2 none ({ frames := 5, cells := 2, slots := 20, locals := 68 } : Room) #[(.ref a1), (.ref a2)] h0 (Q8_36 Z a1 a2 a13 p15 p16 k17 p19 va23 h0 n0) := by
  refine own_bodyW (L0 := #[vR a1, vR a2]) (plainFor_of_name pn_7) (fun m => by first | (simp [entryFrame, mkF, argsToLocals, Value.category]; done) | rfl) fun p e s m below meth c s₁ EN hx hby hml hown hnm hret X0 hZ e0 hh pre0 fin => ?_
  have N0 := Fr.nil n0
  have Y0 : h0.size ≤ h0.size := Nat.le_refl _
  have hS0 : s.Since s.vm h0.size := (State.WarmedH.refl s).since _
  obtain ⟨_, T3, L3, X3, hQ3, st3⟩ := own_cI X0 hx hZ hown (ww40 hw) (ww41 hw) (ww43 hw) (ww44 hw) (rm9_9 l Z a0 hw a1 h0 n0 O0) e0 pd_6 hml (hb hby d8_1) (Ls := #[vR a1, vR a2]) (W := 0) (argsL := []) (rest := []) (b := a1)
  obtain ⟨rfl, u5, u6⟩ := hQ3
  have N3 := Fr.app N0 u5
  obtain ⟨a7, T7, h7, k7, X7, e7, E7, hS7, hk7, hZ7, hown7, st7⟩ := ldcS (s := s) (vm0 := s.vm) X3 hx hZ hown (ww46 hw) (own_wS hw) u6 hS0 Y0 (g := (mkF m 5 #[vR a1, vR a2] [(.ref a2)])) rfl (hb hby d8_5) (n := 16) (by decide +kernel) (by decide) (by decide) (by decide)
  have O7 : Old Z n0 h7 := O0.ext E7
  obtain ⟨_, T8, L8, X8, hQ8, st8⟩ := own_cS X7 hx hZ7 hown7 (ww49 hw) (ww50 hw) (ww51 hw) (ww52 hw) (rm10_10 l Z a0 hw a2 a7 h7 n0 O7) e7 pd_7 hml (hb hby d8_7) (Ls := #[vR a1, vR a2]) (W := 0) (argsL := [(.ref a2), (.ref a7)]) (rest := [])
  obtain ⟨rfl, u10, u11⟩ := hQ8
  have N8 := Fr.app N3 u10
  have f25 : Exa Z h7 a2 C_0 := (Exa.ext E7 E_12)
  have f26 : Fld Z h7 a2 C_0 "value" "[B" (.ref a13) := (Fld.ext E7 F14)
  have f27 : Arv Z h7 a13 k17 .byte (2 : Int32) [(.int p15), (.int p16)] (.int (0 : Int32)) := (V18.ext E7)
  have f28 : Fld Z h7 a2 C_0 "coder" "B" (.int 0) := (Fld.ext E7 F22)
  have pre30 : ∀ t, Steps p.tables e below (T8.setTop (mkF m 12 #[vR a1, vR a2] [(.ref a2)])) t → Steps p.tables e below EN t := by
    intro t kt
    refine pre0 t ?_
    refine o_aloadN X0 hx hby d8_0 rfl rfl (st3 _ (o_aloadN X3 hx hby d8_4 rfl rfl (st7 _ (st8 _ (o_pop X8 hx hby d8_10 rfl (o_aloadN X8 hx hby d8_11 rfl rfl ?_))))))
    exact kt
  obtain ⟨_, T29, L29, X29, hQ29, st29⟩ := own_cS X8 hx hZ7 hown7 (ww53 hw) (ww54 hw) (ww36 hw) (ww55 hw) (rm11_37 l Z a0 hw a2 a13 p15 p16 k17 p19 va23 h7 n0 O7 f25 f26 f27 S_20 hk21 f28 S_24 ir_va23) u11 pd_15 hml (hb hby d8_12) (Ls := #[vR a1, vR a2]) (W := 0) (argsL := [(.ref a2)]) (rest := [])
  rcases hQ29 with ⟨i31, i32, u33, u34, u35, u36, rfl, u38, u39⟩ | ⟨i40, i41, u42, u43, u44, u45, rfl, u47, u48⟩ | ⟨i49, i50, u51, u52, u53, u54, rfl, u56, u57⟩ | ⟨i58, i59, u60, u61, u62, u63, rfl, u65, u66⟩
  · skip
    have N29 := Fr.app N8 u38
    obtain ⟨_, T67, L67, X67, hQ67, st67⟩ := own_cS X29 hx hZ7 hown7 (ww88 hw) (ww89 hw) (ww36 hw) (ww90 hw) (rm19_20 l Z a0 hw  h7 n0 O7) u39 pd_16 hml (hb hby d8_15) (Ls := #[vR a1, vR a2]) (W := 0) (argsL := [(.int 2)]) (rest := [])
    obtain ⟨rfl, u69, u70⟩ := hQ67
    have N67 := Fr.app N29 u69
    have f73 : Fld Z h7 a1 C_1 "text" C_2 .null := (Fld.ext E7 F72)
    have f74 : Exa Z h7 a1 C_1 := (Exa.ext E7 E_71)
    obtain ⟨T75, h75, X75, e75, W75, st75⟩ := putF X67 hx hZ7 hown7 (host := "") (Or.inl (ww91 hw)) Via.refl u70 f73 f74 (Or.inr ⟨(ww92 hw), rfl, hnm⟩) (ww35 hw) (ty := (.object "java/lang/String")) (by decide) rfl rfl (g := (mkF m 20 #[vR a1, vR a2] [(.ref a2), (.ref a1)])) rfl rfl (hb hby d8_20)
    have O75 : Old Z n0 h75 := O7.wr W75 g_a1
    have Fw75 : Fld Z h75 a1 C_1 "text" C_2 (.ref a2) := Fld.same W75 f73
    have N75 := Fr.snoc X75 N67 g_a1
    have f76 : Exa Z h75 a1 C_1 := (Exa.wr W75 f74)
    refine fin none _ _ _ _ T7.vm _ X75 hS7 (by rw [e75]; exact (Nat.le_trans hk7 (Keep.of_wr W75).1)) (fun _ => rfl) (fun fs hr => pre30 _ ?_) (own_atH e75 ?_) (by decide) (by decide)
    · refine st29 _ (st67 _ (o_aloadN X67 hx hby d8_18 rfl rfl (o_aloadN X67 hx hby d8_19 rfl rfl (st75 _ ?_))))
      exact X75.returnOut hx hret (hb hby d8_23) hr
    · exact ⟨rfl, N75, (((Keep.refl h0 [a1]).ext E7).wr W75 (Or.inl (List.mem_of_getElem? (i := 0) rfl))), f76, Fw75⟩
  · skip
    have N29 := Fr.app N8 u47
    obtain ⟨_, T77, L77, X77, hQ77, st77⟩ := own_cS X29 hx hZ7 hown7 (ww88 hw) (ww89 hw) (ww36 hw) (ww90 hw) (rm19_47 l Z a0 hw  h7 n0 O7) u48 pd_16 hml (hb hby d8_15) (Ls := #[vR a1, vR a2]) (W := 0) (argsL := [(.int 3)]) (rest := [])
    obtain ⟨rfl, u79, u80⟩ := hQ77
    have N77 := Fr.app N29 u79
    have f81 : Fld Z h7 a1 C_1 "text" C_2 .null := (Fld.ext E7 F72)
    have f82 : Exa Z h7 a1 C_1 := (Exa.ext E7 E_71)
    obtain ⟨T83, h83, X83, e83, W83, st83⟩ := putF X77 hx hZ7 hown7 (host := "") (Or.inl (ww91 hw)) Via.refl u80 f81 f82 (Or.inr ⟨(ww92 hw), rfl, hnm⟩) (ww35 hw) (ty := (.object "java/lang/String")) (by decide) rfl rfl (g := (mkF m 20 #[vR a1, vR a2] [(.ref a2), (.ref a1)])) rfl rfl (hb hby d8_20)
    have O83 : Old Z n0 h83 := O7.wr W83 g_a1
    have Fw83 : Fld Z h83 a1 C_1 "text" C_2 (.ref a2) := Fld.same W83 f81
    have N83 := Fr.snoc X83 N77 g_a1
    have f84 : Exa Z h83 a1 C_1 := (Exa.wr W83 f82)
    refine fin none _ _ _ _ T7.vm _ X83 hS7 (by rw [e83]; exact (Nat.le_trans hk7 (Keep.of_wr W83).1)) (fun _ => rfl) (fun fs hr => pre30 _ ?_) (own_atH e83 ?_) (by decide) (by decide)
    · refine st29 _ (st77 _ (o_aloadN X77 hx hby d8_18 rfl rfl (o_aloadN X77 hx hby d8_19 rfl rfl (st83 _ ?_))))
      exact X83.returnOut hx hret (hb hby d8_23) hr
    · exact ⟨rfl, N83, (((Keep.refl h0 [a1]).ext E7).wr W83 (Or.inl (List.mem_of_getElem? (i := 0) rfl))), f84, Fw83⟩
  · skip
    have N29 := Fr.app N8 u56
    obtain ⟨_, T85, L85, X85, hQ85, st85⟩ := own_cS X29 hx hZ7 hown7 (ww88 hw) (ww89 hw) (ww36 hw) (ww90 hw) (rm19_47 l Z a0 hw  h7 n0 O7) u57 pd_16 hml (hb hby d8_15) (Ls := #[vR a1, vR a2]) (W := 0) (argsL := [(.int 3)]) (rest := [])
    obtain ⟨rfl, u87, u88⟩ := hQ85
    have N85 := Fr.app N29 u87
    have f89 : Fld Z h7 a1 C_1 "text" C_2 .null := (Fld.ext E7 F72)
    have f90 : Exa Z h7 a1 C_1 := (Exa.ext E7 E_71)
    obtain ⟨T91, h91, X91, e91, W91, st91⟩ := putF X85 hx hZ7 hown7 (host := "") (Or.inl (ww91 hw)) Via.refl u88 f89 f90 (Or.inr ⟨(ww92 hw), rfl, hnm⟩) (ww35 hw) (ty := (.object "java/lang/String")) (by decide) rfl rfl (g := (mkF m 20 #[vR a1, vR a2] [(.ref a2), (.ref a1)])) rfl rfl (hb hby d8_20)
    have O91 : Old Z n0 h91 := O7.wr W91 g_a1
    have Fw91 : Fld Z h91 a1 C_1 "text" C_2 (.ref a2) := Fld.same W91 f89
    have N91 := Fr.snoc X91 N85 g_a1
    have f92 : Exa Z h91 a1 C_1 := (Exa.wr W91 f90)
    refine fin none _ _ _ _ T7.vm _ X91 hS7 (by rw [e91]; exact (Nat.le_trans hk7 (Keep.of_wr W91).1)) (fun _ => rfl) (fun fs hr => pre30 _ ?_) (own_atH e91 ?_) (by decide) (by decide)
    · refine st29 _ (st85 _ (o_aloadN X85 hx hby d8_18 rfl rfl (o_aloadN X85 hx hby d8_19 rfl rfl (st91 _ ?_))))
      exact X91.returnOut hx hret (hb hby d8_23) hr
    · exact ⟨rfl, N91, (((Keep.refl h0 [a1]).ext E7).wr W91 (Or.inl (List.mem_of_getElem? (i := 0) rfl))), f92, Fw91⟩
  · skip
    have N29 := Fr.app N8 u65
    obtain ⟨_, T93, L93, X93, hQ93, st93⟩ := own_cS X29 hx hZ7 hown7 (ww88 hw) (ww89 hw) (ww36 hw) (ww90 hw) (rm19_48 l Z a0 hw  h7 n0 O7) u66 pd_16 hml (hb hby d8_15) (Ls := #[vR a1, vR a2]) (W := 0) (argsL := [(.int 4)]) (rest := [])
    obtain ⟨rfl, u95, u96⟩ := hQ93
    have N93 := Fr.app N29 u95
    have f97 : Fld Z h7 a1 C_1 "text" C_2 .null := (Fld.ext E7 F72)
    have f98 : Exa Z h7 a1 C_1 := (Exa.ext E7 E_71)
    obtain ⟨T99, h99, X99, e99, W99, st99⟩ := putF X93 hx hZ7 hown7 (host := "") (Or.inl (ww91 hw)) Via.refl u96 f97 f98 (Or.inr ⟨(ww92 hw), rfl, hnm⟩) (ww35 hw) (ty := (.object "java/lang/String")) (by decide) rfl rfl (g := (mkF m 20 #[vR a1, vR a2] [(.ref a2), (.ref a1)])) rfl rfl (hb hby d8_20)
    have O99 : Old Z n0 h99 := O7.wr W99 g_a1
    have Fw99 : Fld Z h99 a1 C_1 "text" C_2 (.ref a2) := Fld.same W99 f97
    have N99 := Fr.snoc X99 N93 g_a1
    have f100 : Exa Z h99 a1 C_1 := (Exa.wr W99 f98)
    refine fin none _ _ _ _ T7.vm _ X99 hS7 (by rw [e99]; exact (Nat.le_trans hk7 (Keep.of_wr W99).1)) (fun _ => rfl) (fun fs hr => pre30 _ ?_) (own_atH e99 ?_) (by decide) (by decide)
    · refine st29 _ (st93 _ (o_aloadN X93 hx hby d8_18 rfl rfl (o_aloadN X93 hx hby d8_19 rfl rfl (st99 _ ?_))))
      exact X99.returnOut hx hret (hb hby d8_23) hr
    · exact ⟨rfl, N99, (((Keep.refl h0 [a1]).ext E7).wr W99 (Or.inl (List.mem_of_getElem? (i := 0) rfl))), f100, Fw99⟩
def Q22_51 (Z : State) (a1 : Addr) (a2 : Addr) (p3 : Int32) (k4 : ClassId) (p7 : Int32) (p8 : Int32) (k9 : ClassId) (h0 : Heap) (n0 : Nat) (v : Option Value) (h : Heap) (L : List Loc) : Prop := (v = some (.int 0) ∧ Fr n0 L ∧ h = h0)
theorem rm22_51 (l : Launch) (Z : State) (a0 : Array Value) (hw : own_HW Z a0) (a1 : Addr) (a2 : Addr) (p3 : Int32) (k4 : ClassId) (p7 : Int32) (p8 : Int32) (k9 : ClassId) (h0 : Heap) (n0 : Nat) (O0 : Old Z n0 h0) (V5 : Arv Z h0 a1 k4 .byte (1 : Int32) [(.int p3)] (.int (0 : Int32))) (V10 : Arv Z h0 a2 k9 .byte (2 : Int32) [(.int p7), (.int p8)] (.int (0 : Int32))) : own_Met l Z M_18 bc22 3 (some .boolean) ({ frames := 0, cells := 0, slots := 0, locals := 0 } : Room) #[(.ref a1), (.ref a2)] h0 (Q22_51 Z a1 a2 p3 k4 p7 p8 k9 h0 n0) := by
  refine own_body (L0 := #[vR a1, vR a2, .unset]) (plainFor_of_name pn_6) (fun m => by first | (simp [entryFrame, mkF, argsToLocals, Value.category]; done) | rfl) fun p e s m below meth c s₁ EN hx hby hml hown hnm hret X0 hZ e0 hh pre0 fin => ?_
  have N0 := Fr.nil n0
  obtain ⟨cl6, Ar6, -, Sz6, Nn6, -, -⟩ := id V5
  obtain ⟨cl11, Ar11, -, Sz11, Nn11, -, -⟩ := id V10
  refine fin (some (.int 0)) _ _ _ _ X0 nofun (fun fs hr => pre0 _ ?_) (own_atH e0 ?_) (by decide) (by decide)
  · refine o_aloadN X0 hx hby d22_0 rfl rfl (X0.arraylength hx (by rw [e0]; exact Ar6.1) (State.isArrayOf_alike hZ.alike Ar6.2.1) (g := (mkF m 1 #[vR a1, vR a2, .unset] [(.ref a1)])) rfl rfl (hb hby d22_1) _ ?_)
    rw [len_of Sz6 Nn6]
    refine o_aloadN X0 hx hby d22_2 rfl rfl (X0.arraylength hx (by rw [e0]; exact Ar11.1) (State.isArrayOf_alike hZ.alike Ar11.2.1) (g := (mkF m 3 #[vR a1, vR a2, .unset] [(.ref a2), (.int 1)])) rfl rfl (hb hby d22_3) _ ?_)
    rw [len_of Sz11 Nn11]
    refine o_icmpY X0 hx hby d22_4 (pc := 4) (pc' := 34) (by decide +kernel) (by decide) (by decide) (o_iconst X0 hx hby d22_34 (x := 0) rfl ?_)
    exact retN X0 hx (t := .boolean) hret (by simp) (hb hby d22_35) hr
  · exact ⟨rfl, N0, rfl⟩
def Q21_50 (Z : State) (a1 : Addr) (a2 : Addr) (p7 : Int32) (a15 : Addr) (a18 : Addr) (p21 : Int32) (k22 : ClassId) (p24 : Int32) (p25 : Int32) (k26 : ClassId) (h0 : Heap) (n0 : Nat) (v : Option Value) (h : Heap) (L : List Loc) : Prop := (v = some (.int 0) ∧ Fr n0 L ∧ h = h0)
theorem rm21_50 (l : Launch) (Z : State) (a0 : Array Value) (hw : own_HW Z a0) (a1 : Addr) (a2 : Addr) (p7 : Int32) (a15 : Addr) (a18 : Addr) (p21 : Int32) (k22 : ClassId) (p24 : Int32) (p25 : Int32) (k26 : ClassId) (h0 : Heap) (n0 : Nat) (O0 : Old Z n0 h0) (hne3 : a1 ≠ a2) (E_4 : Exa Z h0 a2 C_0) (S_8 : Sta Z Z.heap C_0 "COMPACT_STRINGS" "Z" (.int p7)) (hk10 : ¬ (p7 = (0 : Int32))) (F11 : Fld Z h0 a1 C_0 "coder" "B" (.int 0)) (F13 : Fld Z h0 a2 C_0 "coder" "B" (.int 0)) (F16 : Fld Z h0 a1 C_0 "value" "[B" (.ref a15)) (F19 : Fld Z h0 a2 C_0 "value" "[B" (.ref a18)) (V23 : Arv Z h0 a15 k22 .byte (1 : Int32) [(.int p21)] (.int (0 : Int32))) (V27 : Arv Z h0 a18 k26 .byte (2 : Int32) [(.int p24), (.int p25)] (.int (0 : Int32))) : own_Met l Z M_19 bc21 3 (some .boolean) ({ frames := 1, cells := 0, slots := 0, locals := 14 } : Room) #[(.ref a1), (.ref a2)] h0 (Q21_50 Z a1 a2 p7 a15 a18 p21 k22 p24 p25 k26 h0 n0) := by
  refine own_body (L0 := #[vR a1, vR a2, .unset]) (plainFor_of_name pn_2) (fun m => by first | (simp [entryFrame, mkF, argsToLocals, Value.category]; done) | rfl) fun p e s m below meth c s₁ EN hx hby hml hown hnm hret X0 hZ e0 hh pre0 fin => ?_
  have N0 := Fr.nil n0
  obtain ⟨T5, X5, e5, st5⟩ := instY X0 hx hZ hown (ww105 hw) e0 (Ins.self E_4) (g := (mkF m 8 #[vR a1, vR a2, .unset] [(.ref a2)])) rfl rfl (hb hby d21_8)
  obtain ⟨T6, X6, e6, st6⟩ := castY X5 hx hZ hown (ww105 hw) e5 (Ins.self E_4) (g := (mkF m 15 #[vR a1, vR a2, .unset] [(.ref a2)])) rfl rfl (hb hby d21_15)
  obtain ⟨T9, X9, e9, st9⟩ := getS2 X6 hx hZ hown (host := "") (Or.inl (ww18 hw)) Via.refl e6 (Sta.ext O0.2 S_8) (g := (mkF m 19 #[vR a1, vR a2, vR a2] [])) rfl (hb hby d21_19)
  obtain ⟨T12, X12, e12, st12⟩ := getF X9 hx hZ hown (host := "") (Or.inl (ww30 hw)) Via.refl e9 F11 (g := (mkF m 26 #[vR a1, vR a2, vR a2] [(.ref a1)])) rfl rfl (hb hby d21_26)
  obtain ⟨T14, X14, e14, st14⟩ := getF X12 hx hZ hown (host := "") (Or.inl (ww30 hw)) Via.refl e12 F13 (g := (mkF m 30 #[vR a1, vR a2, vR a2] [(.ref a2), (.int 0)])) rfl rfl (hb hby d21_30)
  obtain ⟨T17, X17, e17, st17⟩ := getF X14 hx hZ hown (host := "") (Or.inl (ww32 hw)) Via.refl e14 F16 (g := (mkF m 37 #[vR a1, vR a2, vR a2] [(.ref a1)])) rfl rfl (hb hby d21_37)
  obtain ⟨T20, X20, e20, st20⟩ := getF X17 hx hZ hown (host := "") (Or.inl (ww32 hw)) Via.refl e17 F19 (g := (mkF m 41 #[vR a1, vR a2, vR a2] [(.ref a2), (.ref a15)])) rfl rfl (hb hby d21_41)
  obtain ⟨_, T28, L28, X28, hQ28, st28⟩ := own_cS X20 hx hZ hown (ww106 hw) (ww107 hw) (ww78 hw) (ww108 hw) (rm22_51 l Z a0 hw a15 a18 p21 k22 p24 p25 k26 h0 n0 O0 V23 V27) e20 pd_18 hml (hb hby d21_44) (Ls := #[vR a1, vR a2, vR a2]) (W := 0) (argsL := [(.ref a15), (.ref a18)]) (rest := [])
  obtain ⟨rfl, u30, u31⟩ := hQ28
  have N28 := Fr.app N0 u30
  refine fin (some (.int 0)) _ _ _ _ X28 nofun (fun fs hr => pre0 _ ?_) (own_atH u31 ?_) (by decide) (by decide)
  · refine o_aloadN X0 hx hby d21_0 rfl rfl (o_aloadN X0 hx hby d21_1 rfl rfl (Jvm.RoadKit.acmp (g := (mkF m 2 #[vR a1, vR a2, .unset] [(.ref a2), (.ref a1)])) X0 hx rfl rfl rfl (pc0 := 2) (pc' := 7) (same := false) rfl (hb hby d21_2) rfl (decide_eq_false fun q => hne3 (Value.ref.inj q)) (by decide) (by decide) (o_aloadN X0 hx hby d21_7 rfl rfl (st5 _ (o_ifN X5 hx hby d21_11 (by decide +kernel) (o_aloadN X5 hx hby d21_14 rfl rfl (st6 _ (o_astoreN X6 hx hby d21_18 rfl (Ls' := #[vR a1, vR a2, vR a2]) rfl (st9 _ (o_ifN X9 hx hby d21_22 ((if0 _ _).trans (feq hk10).1) (o_aloadN X9 hx hby d21_25 rfl rfl (st12 _ (o_aloadN X12 hx hby d21_29 rfl rfl (st14 _ (o_icmpN X14 hx hby d21_33 (by decide +kernel) (o_aloadN X14 hx hby d21_36 rfl rfl (st17 _ (o_aloadN X17 hx hby d21_40 rfl rfl (st20 _ (st28 _ (o_ifY X28 hx hby d21_47 (pc := 47) (pc' := 54) (by decide +kernel) (by decide) (by decide) (o_iconst X28 hx hby d21_54 (x := 0) rfl ?_))))))))))))))))))))))
    exact retN X28 hx (t := .boolean) hret (by simp) (hb hby d21_55) hr
  · exact ⟨rfl, N28, rfl⟩
def Q20_49 (Z : State) (a1 : Addr) (a2 : Addr) (a7 : Addr) (a10 : Addr) (p16 : Int32) (a21 : Addr) (a23 : Addr) (p25 : Int32) (k26 : ClassId) (p28 : Int32) (p29 : Int32) (k30 : ClassId) (h0 : Heap) (n0 : Nat) (v : Option Value) (h : Heap) (L : List Loc) : Prop := (v = some (.int 0) ∧ Fr n0 L ∧ h = h0)
theorem rm20_49 (l : Launch) (Z : State) (a0 : Array Value) (hw : own_HW Z a0) (a1 : Addr) (a2 : Addr) (a7 : Addr) (a10 : Addr) (p16 : Int32) (a21 : Addr) (a23 : Addr) (p25 : Int32) (k26 : ClassId) (p28 : Int32) (p29 : Int32) (k30 : ClassId) (h0 : Heap) (n0 : Nat) (O0 : Old Z n0 h0) (hne3 : a1 ≠ a2) (E_4 : Exa Z h0 a2 C_1) (F8 : Fld Z h0 a1 C_1 "text" C_2 (.ref a7)) (F11 : Fld Z h0 a2 C_1 "text" C_2 (.ref a10)) (E_13 : Exa Z h0 a7 C_0) (hne14 : a7 ≠ a10) (E_15 : Exa Z h0 a10 C_0) (S_17 : Sta Z Z.heap C_0 "COMPACT_STRINGS" "Z" (.int p16)) (hk18 : ¬ (p16 = (0 : Int32))) (F19 : Fld Z h0 a7 C_0 "coder" "B" (.int 0)) (F20 : Fld Z h0 a10 C_0 "coder" "B" (.int 0)) (F22 : Fld Z h0 a7 C_0 "value" "[B" (.ref a21)) (F24 : Fld Z h0 a10 C_0 "value" "[B" (.ref a23)) (V27 : Arv Z h0 a21 k26 .byte (1 : Int32) [(.int p25)] (.int (0 : Int32))) (V31 : Arv Z h0 a23 k30 .byte (2 : Int32) [(.int p28), (.int p29)] (.int (0 : Int32))) : own_Met l Z M_20 bc20 3 (some .boolean) ({ frames := 2, cells := 0, slots := 0, locals := 28 } : Room) #[(.ref a1), (.ref a2)] h0 (Q20_49 Z a1 a2 a7 a10 p16 a21 a23 p25 k26 p28 p29 k30 h0 n0) := by
  refine own_body (L0 := #[vR a1, vR a2, .unset]) (plainFor_of_name pn_7) (fun m => by first | (simp [entryFrame, mkF, argsToLocals, Value.category]; done) | rfl) fun p e s m below meth c s₁ EN hx hby hml hown hnm hret X0 hZ e0 hh pre0 fin => ?_
  have N0 := Fr.nil n0
  obtain ⟨T5, X5, e5, st5⟩ := instY X0 hx hZ hown (ww98 hw) e0 (Ins.self E_4) (g := (mkF m 6 #[vR a1, vR a2, .unset] [(.ref a2)])) rfl rfl (hb hby d20_6)
  obtain ⟨T6, X6, e6, st6⟩ := castY X5 hx hZ hown (ww98 hw) e5 (Ins.self E_4) (g := (mkF m 13 #[vR a1, vR a2, .unset] [(.ref a2)])) rfl rfl (hb hby d20_13)
  obtain ⟨T9, X9, e9, st9⟩ := getF X6 hx hZ hown (host := "") (Or.inl (ww91 hw)) Via.refl e6 F8 (g := (mkF m 18 #[vR a1, vR a2, vR a2] [(.ref a1)])) rfl rfl (hb hby d20_18)
  obtain ⟨T12, X12, e12, st12⟩ := getF X9 hx hZ hown (host := "") (Or.inl (ww91 hw)) Via.refl e9 F11 (g := (mkF m 22 #[vR a1, vR a2, vR a2] [(.ref a2), (.ref a7)])) rfl rfl (hb hby d20_22)
  obtain ⟨_, T32, L32, X32, hQ32, st32⟩ := own_cV X12 hx hZ hown (ww100 hw) (ww101 hw) (notFace_of_selects (args := #[]) (mvT hZ (ww103 hw))) (ww103 hw) (ww102 hw) (ww2 hw) (ww104 hw) E_13 (rm21_50 l Z a0 hw a7 a10 p16 a21 a23 p25 k26 p28 p29 k30 h0 n0 O0 hne14 E_15 S_17 hk18 F19 F20 F22 F24 V27 V31) e12 pd_19 hml (hb hby d20_25) (Ls := #[vR a1, vR a2, vR a2]) (W := 0) (argsL := [(.ref a10)]) (rest := [])
  obtain ⟨rfl, u34, u35⟩ := hQ32
  have N32 := Fr.app N0 u34
  refine fin (some (.int 0)) _ _ _ _ X32 nofun (fun fs hr => pre0 _ ?_) (own_atH u35 ?_) (by decide) (by decide)
  · refine o_aloadN X0 hx hby d20_0 rfl rfl (o_aloadN X0 hx hby d20_1 rfl rfl (Jvm.RoadKit.acmp (g := (mkF m 2 #[vR a1, vR a2, .unset] [(.ref a2), (.ref a1)])) X0 hx rfl rfl rfl (pc0 := 2) (pc' := 5) (same := false) rfl (hb hby d20_2) rfl (decide_eq_false fun q => hne3 (Value.ref.inj q)) (by decide) (by decide) (o_aloadN X0 hx hby d20_5 rfl rfl (st5 _ (o_ifN X5 hx hby d20_9 (by decide +kernel) (o_aloadN X5 hx hby d20_12 rfl rfl (st6 _ (o_astoreN X6 hx hby d20_16 rfl (Ls' := #[vR a1, vR a2, vR a2]) rfl (o_aloadN X6 hx hby d20_17 rfl rfl (st9 _ (o_aloadN X9 hx hby d20_21 rfl rfl (st12 _ (st32 _ (o_ifY X32 hx hby d20_28 (pc := 28) (pc' := 35) (by decide +kernel) (by decide) (by decide) (o_iconst X32 hx hby d20_35 (x := 0) rfl ?_)))))))))))))))
    exact retN X32 hx (t := .boolean) hret (by simp) (hb hby d20_36) hr
  · exact ⟨rfl, N32, rfl⟩
def Q22_54 (Z : State) (a1 : Addr) (a2 : Addr) (p3 : Int32) (p4 : Int32) (k5 : ClassId) (p8 : Int32) (k9 : ClassId) (h0 : Heap) (n0 : Nat) (v : Option Value) (h : Heap) (L : List Loc) : Prop := (v = some (.int 0) ∧ Fr n0 L ∧ h = h0)
theorem rm22_54 (l : Launch) (Z : State) (a0 : Array Value) (hw : own_HW Z a0) (a1 : Addr) (a2 : Addr) (p3 : Int32) (p4 : Int32) (k5 : ClassId) (p8 : Int32) (k9 : ClassId) (h0 : Heap) (n0 : Nat) (O0 : Old Z n0 h0) (V6 : Arv Z h0 a1 k5 .byte (2 : Int32) [(.int p3), (.int p4)] (.int (0 : Int32))) (V10 : Arv Z h0 a2 k9 .byte (1 : Int32) [(.int p8)] (.int (0 : Int32))) : own_Met l Z M_18 bc22 3 (some .boolean) ({ frames := 0, cells := 0, slots := 0, locals := 0 } : Room) #[(.ref a1), (.ref a2)] h0 (Q22_54 Z a1 a2 p3 p4 k5 p8 k9 h0 n0) := by
  refine own_body (L0 := #[vR a1, vR a2, .unset]) (plainFor_of_name pn_6) (fun m => by first | (simp [entryFrame, mkF, argsToLocals, Value.category]; done) | rfl) fun p e s m below meth c s₁ EN hx hby hml hown hnm hret X0 hZ e0 hh pre0 fin => ?_
  have N0 := Fr.nil n0
  obtain ⟨cl7, Ar7, -, Sz7, Nn7, -, -⟩ := id V6
  obtain ⟨cl11, Ar11, -, Sz11, Nn11, -, -⟩ := id V10
  refine fin (some (.int 0)) _ _ _ _ X0 nofun (fun fs hr => pre0 _ ?_) (own_atH e0 ?_) (by decide) (by decide)
  · refine o_aloadN X0 hx hby d22_0 rfl rfl (X0.arraylength hx (by rw [e0]; exact Ar7.1) (State.isArrayOf_alike hZ.alike Ar7.2.1) (g := (mkF m 1 #[vR a1, vR a2, .unset] [(.ref a1)])) rfl rfl (hb hby d22_1) _ ?_)
    rw [len_of Sz7 Nn7]
    refine o_aloadN X0 hx hby d22_2 rfl rfl (X0.arraylength hx (by rw [e0]; exact Ar11.1) (State.isArrayOf_alike hZ.alike Ar11.2.1) (g := (mkF m 3 #[vR a1, vR a2, .unset] [(.ref a2), (.int 2)])) rfl rfl (hb hby d22_3) _ ?_)
    rw [len_of Sz11 Nn11]
    refine o_icmpY X0 hx hby d22_4 (pc := 4) (pc' := 34) (by decide +kernel) (by decide) (by decide) (o_iconst X0 hx hby d22_34 (x := 0) rfl ?_)
    exact retN X0 hx (t := .boolean) hret (by simp) (hb hby d22_35) hr
  · exact ⟨rfl, N0, rfl⟩
def Q21_53 (Z : State) (a1 : Addr) (a2 : Addr) (p7 : Int32) (a15 : Addr) (a18 : Addr) (p21 : Int32) (p22 : Int32) (k23 : ClassId) (p25 : Int32) (k26 : ClassId) (h0 : Heap) (n0 : Nat) (v : Option Value) (h : Heap) (L : List Loc) : Prop := (v = some (.int 0) ∧ Fr n0 L ∧ h = h0)
theorem rm21_53 (l : Launch) (Z : State) (a0 : Array Value) (hw : own_HW Z a0) (a1 : Addr) (a2 : Addr) (p7 : Int32) (a15 : Addr) (a18 : Addr) (p21 : Int32) (p22 : Int32) (k23 : ClassId) (p25 : Int32) (k26 : ClassId) (h0 : Heap) (n0 : Nat) (O0 : Old Z n0 h0) (hne3 : a1 ≠ a2) (E_4 : Exa Z h0 a2 C_0) (S_8 : Sta Z Z.heap C_0 "COMPACT_STRINGS" "Z" (.int p7)) (hk10 : ¬ (p7 = (0 : Int32))) (F11 : Fld Z h0 a1 C_0 "coder" "B" (.int 0)) (F13 : Fld Z h0 a2 C_0 "coder" "B" (.int 0)) (F16 : Fld Z h0 a1 C_0 "value" "[B" (.ref a15)) (F19 : Fld Z h0 a2 C_0 "value" "[B" (.ref a18)) (V24 : Arv Z h0 a15 k23 .byte (2 : Int32) [(.int p21), (.int p22)] (.int (0 : Int32))) (V27 : Arv Z h0 a18 k26 .byte (1 : Int32) [(.int p25)] (.int (0 : Int32))) : own_Met l Z M_19 bc21 3 (some .boolean) ({ frames := 1, cells := 0, slots := 0, locals := 14 } : Room) #[(.ref a1), (.ref a2)] h0 (Q21_53 Z a1 a2 p7 a15 a18 p21 p22 k23 p25 k26 h0 n0) := by
  refine own_body (L0 := #[vR a1, vR a2, .unset]) (plainFor_of_name pn_2) (fun m => by first | (simp [entryFrame, mkF, argsToLocals, Value.category]; done) | rfl) fun p e s m below meth c s₁ EN hx hby hml hown hnm hret X0 hZ e0 hh pre0 fin => ?_
  have N0 := Fr.nil n0
  obtain ⟨T5, X5, e5, st5⟩ := instY X0 hx hZ hown (ww105 hw) e0 (Ins.self E_4) (g := (mkF m 8 #[vR a1, vR a2, .unset] [(.ref a2)])) rfl rfl (hb hby d21_8)
  obtain ⟨T6, X6, e6, st6⟩ := castY X5 hx hZ hown (ww105 hw) e5 (Ins.self E_4) (g := (mkF m 15 #[vR a1, vR a2, .unset] [(.ref a2)])) rfl rfl (hb hby d21_15)
  obtain ⟨T9, X9, e9, st9⟩ := getS2 X6 hx hZ hown (host := "") (Or.inl (ww18 hw)) Via.refl e6 (Sta.ext O0.2 S_8) (g := (mkF m 19 #[vR a1, vR a2, vR a2] [])) rfl (hb hby d21_19)
  obtain ⟨T12, X12, e12, st12⟩ := getF X9 hx hZ hown (host := "") (Or.inl (ww30 hw)) Via.refl e9 F11 (g := (mkF m 26 #[vR a1, vR a2, vR a2] [(.ref a1)])) rfl rfl (hb hby d21_26)
  obtain ⟨T14, X14, e14, st14⟩ := getF X12 hx hZ hown (host := "") (Or.inl (ww30 hw)) Via.refl e12 F13 (g := (mkF m 30 #[vR a1, vR a2, vR a2] [(.ref a2), (.int 0)])) rfl rfl (hb hby d21_30)
  obtain ⟨T17, X17, e17, st17⟩ := getF X14 hx hZ hown (host := "") (Or.inl (ww32 hw)) Via.refl e14 F16 (g := (mkF m 37 #[vR a1, vR a2, vR a2] [(.ref a1)])) rfl rfl (hb hby d21_37)
  obtain ⟨T20, X20, e20, st20⟩ := getF X17 hx hZ hown (host := "") (Or.inl (ww32 hw)) Via.refl e17 F19 (g := (mkF m 41 #[vR a1, vR a2, vR a2] [(.ref a2), (.ref a15)])) rfl rfl (hb hby d21_41)
  obtain ⟨_, T28, L28, X28, hQ28, st28⟩ := own_cS X20 hx hZ hown (ww106 hw) (ww107 hw) (ww78 hw) (ww108 hw) (rm22_54 l Z a0 hw a15 a18 p21 p22 k23 p25 k26 h0 n0 O0 V24 V27) e20 pd_18 hml (hb hby d21_44) (Ls := #[vR a1, vR a2, vR a2]) (W := 0) (argsL := [(.ref a15), (.ref a18)]) (rest := [])
  obtain ⟨rfl, u30, u31⟩ := hQ28
  have N28 := Fr.app N0 u30
  refine fin (some (.int 0)) _ _ _ _ X28 nofun (fun fs hr => pre0 _ ?_) (own_atH u31 ?_) (by decide) (by decide)
  · refine o_aloadN X0 hx hby d21_0 rfl rfl (o_aloadN X0 hx hby d21_1 rfl rfl (Jvm.RoadKit.acmp (g := (mkF m 2 #[vR a1, vR a2, .unset] [(.ref a2), (.ref a1)])) X0 hx rfl rfl rfl (pc0 := 2) (pc' := 7) (same := false) rfl (hb hby d21_2) rfl (decide_eq_false fun q => hne3 (Value.ref.inj q)) (by decide) (by decide) (o_aloadN X0 hx hby d21_7 rfl rfl (st5 _ (o_ifN X5 hx hby d21_11 (by decide +kernel) (o_aloadN X5 hx hby d21_14 rfl rfl (st6 _ (o_astoreN X6 hx hby d21_18 rfl (Ls' := #[vR a1, vR a2, vR a2]) rfl (st9 _ (o_ifN X9 hx hby d21_22 ((if0 _ _).trans (feq hk10).1) (o_aloadN X9 hx hby d21_25 rfl rfl (st12 _ (o_aloadN X12 hx hby d21_29 rfl rfl (st14 _ (o_icmpN X14 hx hby d21_33 (by decide +kernel) (o_aloadN X14 hx hby d21_36 rfl rfl (st17 _ (o_aloadN X17 hx hby d21_40 rfl rfl (st20 _ (st28 _ (o_ifY X28 hx hby d21_47 (pc := 47) (pc' := 54) (by decide +kernel) (by decide) (by decide) (o_iconst X28 hx hby d21_54 (x := 0) rfl ?_))))))))))))))))))))))
    exact retN X28 hx (t := .boolean) hret (by simp) (hb hby d21_55) hr
  · exact ⟨rfl, N28, rfl⟩
def Q20_52 (Z : State) (a1 : Addr) (a2 : Addr) (a7 : Addr) (a10 : Addr) (p16 : Int32) (a21 : Addr) (a23 : Addr) (p25 : Int32) (p26 : Int32) (k27 : ClassId) (p29 : Int32) (k30 : ClassId) (h0 : Heap) (n0 : Nat) (v : Option Value) (h : Heap) (L : List Loc) : Prop := (v = some (.int 0) ∧ Fr n0 L ∧ h = h0)
theorem rm20_52 (l : Launch) (Z : State) (a0 : Array Value) (hw : own_HW Z a0) (a1 : Addr) (a2 : Addr) (a7 : Addr) (a10 : Addr) (p16 : Int32) (a21 : Addr) (a23 : Addr) (p25 : Int32) (p26 : Int32) (k27 : ClassId) (p29 : Int32) (k30 : ClassId) (h0 : Heap) (n0 : Nat) (O0 : Old Z n0 h0) (hne3 : a1 ≠ a2) (E_4 : Exa Z h0 a2 C_1) (F8 : Fld Z h0 a1 C_1 "text" C_2 (.ref a7)) (F11 : Fld Z h0 a2 C_1 "text" C_2 (.ref a10)) (E_13 : Exa Z h0 a7 C_0) (hne14 : a7 ≠ a10) (E_15 : Exa Z h0 a10 C_0) (S_17 : Sta Z Z.heap C_0 "COMPACT_STRINGS" "Z" (.int p16)) (hk18 : ¬ (p16 = (0 : Int32))) (F19 : Fld Z h0 a7 C_0 "coder" "B" (.int 0)) (F20 : Fld Z h0 a10 C_0 "coder" "B" (.int 0)) (F22 : Fld Z h0 a7 C_0 "value" "[B" (.ref a21)) (F24 : Fld Z h0 a10 C_0 "value" "[B" (.ref a23)) (V28 : Arv Z h0 a21 k27 .byte (2 : Int32) [(.int p25), (.int p26)] (.int (0 : Int32))) (V31 : Arv Z h0 a23 k30 .byte (1 : Int32) [(.int p29)] (.int (0 : Int32))) : own_Met l Z M_20 bc20 3 (some .boolean) ({ frames := 2, cells := 0, slots := 0, locals := 28 } : Room) #[(.ref a1), (.ref a2)] h0 (Q20_52 Z a1 a2 a7 a10 p16 a21 a23 p25 p26 k27 p29 k30 h0 n0) := by
  refine own_body (L0 := #[vR a1, vR a2, .unset]) (plainFor_of_name pn_7) (fun m => by first | (simp [entryFrame, mkF, argsToLocals, Value.category]; done) | rfl) fun p e s m below meth c s₁ EN hx hby hml hown hnm hret X0 hZ e0 hh pre0 fin => ?_
  have N0 := Fr.nil n0
  obtain ⟨T5, X5, e5, st5⟩ := instY X0 hx hZ hown (ww98 hw) e0 (Ins.self E_4) (g := (mkF m 6 #[vR a1, vR a2, .unset] [(.ref a2)])) rfl rfl (hb hby d20_6)
  obtain ⟨T6, X6, e6, st6⟩ := castY X5 hx hZ hown (ww98 hw) e5 (Ins.self E_4) (g := (mkF m 13 #[vR a1, vR a2, .unset] [(.ref a2)])) rfl rfl (hb hby d20_13)
  obtain ⟨T9, X9, e9, st9⟩ := getF X6 hx hZ hown (host := "") (Or.inl (ww91 hw)) Via.refl e6 F8 (g := (mkF m 18 #[vR a1, vR a2, vR a2] [(.ref a1)])) rfl rfl (hb hby d20_18)
  obtain ⟨T12, X12, e12, st12⟩ := getF X9 hx hZ hown (host := "") (Or.inl (ww91 hw)) Via.refl e9 F11 (g := (mkF m 22 #[vR a1, vR a2, vR a2] [(.ref a2), (.ref a7)])) rfl rfl (hb hby d20_22)
  obtain ⟨_, T32, L32, X32, hQ32, st32⟩ := own_cV X12 hx hZ hown (ww100 hw) (ww101 hw) (notFace_of_selects (args := #[]) (mvT hZ (ww103 hw))) (ww103 hw) (ww102 hw) (ww2 hw) (ww104 hw) E_13 (rm21_53 l Z a0 hw a7 a10 p16 a21 a23 p25 p26 k27 p29 k30 h0 n0 O0 hne14 E_15 S_17 hk18 F19 F20 F22 F24 V28 V31) e12 pd_19 hml (hb hby d20_25) (Ls := #[vR a1, vR a2, vR a2]) (W := 0) (argsL := [(.ref a10)]) (rest := [])
  obtain ⟨rfl, u34, u35⟩ := hQ32
  have N32 := Fr.app N0 u34
  refine fin (some (.int 0)) _ _ _ _ X32 nofun (fun fs hr => pre0 _ ?_) (own_atH u35 ?_) (by decide) (by decide)
  · refine o_aloadN X0 hx hby d20_0 rfl rfl (o_aloadN X0 hx hby d20_1 rfl rfl (Jvm.RoadKit.acmp (g := (mkF m 2 #[vR a1, vR a2, .unset] [(.ref a2), (.ref a1)])) X0 hx rfl rfl rfl (pc0 := 2) (pc' := 5) (same := false) rfl (hb hby d20_2) rfl (decide_eq_false fun q => hne3 (Value.ref.inj q)) (by decide) (by decide) (o_aloadN X0 hx hby d20_5 rfl rfl (st5 _ (o_ifN X5 hx hby d20_9 (by decide +kernel) (o_aloadN X5 hx hby d20_12 rfl rfl (st6 _ (o_astoreN X6 hx hby d20_16 rfl (Ls' := #[vR a1, vR a2, vR a2]) rfl (o_aloadN X6 hx hby d20_17 rfl rfl (st9 _ (o_aloadN X9 hx hby d20_21 rfl rfl (st12 _ (st32 _ (o_ifY X32 hx hby d20_28 (pc := 28) (pc' := 35) (by decide +kernel) (by decide) (by decide) (o_iconst X32 hx hby d20_35 (x := 0) rfl ?_)))))))))))))))
    exact retN X32 hx (t := .boolean) hret (by simp) (hb hby d20_36) hr
  · exact ⟨rfl, N32, rfl⟩
def Q1_55 (Z : State) (p1 : Int32) (p2 : Int32) (p3 : Int32) (h0 : Heap) (n0 : Nat) (v : Option Value) (h : Heap) (L : List Loc) : Prop := (∃ (i11 : Int32) (i15 : Int32) (i7 : Int32) (b4 : Addr) (k4 : ClassId), i7 = (nar .char p1) ∧ i11 = (nar .char p2) ∧ i15 = (nar .char p3) ∧ v = some (.ref b4) ∧ Fr n0 L ∧ h0.size ≤ b4 ∧ b4 < h.size ∧ Keep h0 h [] ∧ Exa Z h b4 "[C" ∧ Arv Z h b4 k4 .char (3 : Int32) [(.int i7), (.int i11), (.int i15)] (.int (0 : Int32)))
theorem rm1_55 (l : Launch) (Z : State) (a0 : Array Value) (hw : own_HW Z a0) (p1 : Int32) (p2 : Int32) (p3 : Int32) (h0 : Heap) (n0 : Nat) (O0 : Old Z n0 h0) : own_Met l Z M_0 bc1 5 (some (.array .char)) ({ frames := 0, cells := 1, slots := 3, locals := 0 } : Room) #[(.int 3), (.int p1), (.int p2), (.int p3)] h0 (Q1_55 Z p1 p2 p3 h0 n0) := by
  refine own_body (L0 := #[vI 3, vI p1, vI p2, vI p3, .unset]) (plainFor_of_name pn_0) (fun m => by first | (simp [entryFrame, mkF, argsToLocals, Value.category]; done) | rfl) fun p e s m below meth c s₁ EN hx hby hml hown hnm hret X0 hZ e0 hh pre0 fin => ?_
  have N0 := Fr.nil n0
  obtain ⟨T4, h4, k4, X4, e4, E4, A4, Ex4, st4⟩ := newPE (aty := .char) X0 hx hZ (ww7 hw) e0 (g := (mkF m 1 #[vI 3, vI p1, vI p2, vI p3, .unset] [(.int 3)])) rfl (hb hby d1_1) rfl (by decide +kernel) (cap := 3) (by decide +kernel) (by decide) (by decide) (by decide) (ad := "[C") (by decide +kernel)
  obtain ⟨b4, g4⟩ : ∃ z, z = h0.size := ⟨_, rfl⟩
  rw [← g4] at A4 Ex4 st4
  have O4 : Old Z n0 h4 := O0.ext E4
  have bd_b4 : h0.size ≤ b4 := Nat.le_of_eq g4.symm
  have g_b4 : n0 ≤ b4 := Nat.le_trans (own_z O0) bd_b4
  have sz_b4 : h0.size ≤ b4 := Nat.le_trans (Nat.le_refl _) bd_b4
  have lt_b4 : b4 < h4.size := A4.lt
  have V4 : Arv Z h4 b4 k4 .char (3 : Int32) [] (.int (0 : Int32)) := Arv.new A4 (by decide +kernel)
  have Vp5 : Arv Z h4 b4 k4 .char (3 : Int32) [(.int 0)] (.int (0 : Int32)) := V4.pad (pad_rep [] (.int (0 : Int32)) 1)
  obtain ⟨cl6, Ar6, qk6, Sz6, Nn6, Hh6, Gg6⟩ := id Vp5
  have hin6 : ¬ ((0 : Int32) < 0 ∨ cl6.slots.size ≤ ((0 : Int32)).toNatClampNeg) := inb_of Sz6 ⟨by decide +kernel, by decide +kernel⟩
  obtain ⟨i7, hi7⟩ : ∃ z, z = (nar .char p1) := ⟨_, rfl⟩
  obtain ⟨T8, h8, X8, e8, W8, st8⟩ := stC X4 hx hZ e4 Ar6 (j := (0 : Int32)) hin6 (g := (mkF m 9 #[vI 3, vI p1, vI p2, vI p3, vR b4] [(.int p1), (.int 0), (.ref b4)])) rfl rfl (hb hby d1_9)
  rw [show (nar .char p1) = i7 from (hi7.symm : (nar .char p1) = i7)] at W8
  have O8 : Old Z n0 h8 := O4.wr W8 g_b4
  have V8 : Arv Z h8 b4 k4 .char (3 : Int32) [(.int i7)] (.int (0 : Int32)) := Arv.set Ar6 qk6 Sz6 Nn6 Hh6 Gg6 ((hi7.symm : (nar .char p1) = i7) ▸ fits_nar_char _) W8 0 rfl (Nat.le_of_ble_eq_true rfl)
  have N8 := Fr.snoc X8 N0 g_b4
  have Vp9 : Arv Z h8 b4 k4 .char (3 : Int32) [(.int i7), (.int 0)] (.int (0 : Int32)) := V8.pad (pad_rep [(.int i7)] (.int (0 : Int32)) 1)
  obtain ⟨cl10, Ar10, qk10, Sz10, Nn10, Hh10, Gg10⟩ := id Vp9
  have hin10 : ¬ ((1 : Int32) < 0 ∨ cl10.slots.size ≤ ((1 : Int32)).toNatClampNeg) := inb_of Sz10 ⟨by decide +kernel, by decide +kernel⟩
  obtain ⟨i11, hi11⟩ : ∃ z, z = (nar .char p2) := ⟨_, rfl⟩
  obtain ⟨T12, h12, X12, e12, W12, st12⟩ := stC X8 hx hZ e8 Ar10 (j := (1 : Int32)) hin10 (g := (mkF m 19 #[vI 3, vI p1, vI p2, vI p3, vR b4] [(.int p2), (.int 1), (.ref b4)])) rfl rfl (hb hby d1_19)
  rw [show (nar .char p2) = i11 from (hi11.symm : (nar .char p2) = i11)] at W12
  have O12 : Old Z n0 h12 := O8.wr W12 g_b4
  have V12 : Arv Z h12 b4 k4 .char (3 : Int32) [(.int i7), (.int i11)] (.int (0 : Int32)) := Arv.set Ar10 qk10 Sz10 Nn10 Hh10 Gg10 ((hi11.symm : (nar .char p2) = i11) ▸ fits_nar_char _) W12 1 rfl (Nat.le_of_ble_eq_true rfl)
  have N12 := Fr.snoc X12 N8 g_b4
  have Vp13 : Arv Z h12 b4 k4 .char (3 : Int32) [(.int i7), (.int i11), (.int 0)] (.int (0 : Int32)) := V12.pad (pad_rep [(.int i7), (.int i11)] (.int (0 : Int32)) 1)
  obtain ⟨cl14, Ar14, qk14, Sz14, Nn14, Hh14, Gg14⟩ := id Vp13
  have hin14 : ¬ ((2 : Int32) < 0 ∨ cl14.slots.size ≤ ((2 : Int32)).toNatClampNeg) := inb_of Sz14 ⟨by decide +kernel, by decide +kernel⟩
  obtain ⟨i15, hi15⟩ : ∃ z, z = (nar .char p3) := ⟨_, rfl⟩
  obtain ⟨T16, h16, X16, e16, W16, st16⟩ := stC X12 hx hZ e12 Ar14 (j := (2 : Int32)) hin14 (g := (mkF m 29 #[vI 3, vI p1, vI p2, vI p3, vR b4] [(.int p3), (.int 2), (.ref b4)])) rfl rfl (hb hby d1_29)
  rw [show (nar .char p3) = i15 from (hi15.symm : (nar .char p3) = i15)] at W16
  have O16 : Old Z n0 h16 := O12.wr W16 g_b4
  have V16 : Arv Z h16 b4 k4 .char (3 : Int32) [(.int i7), (.int i11), (.int i15)] (.int (0 : Int32)) := Arv.set Ar14 qk14 Sz14 Nn14 Hh14 Gg14 ((hi15.symm : (nar .char p3) = i15) ▸ fits_nar_char _) W16 2 rfl (Nat.le_of_ble_eq_true rfl)
  have N16 := Fr.snoc X16 N12 g_b4
  have f17 : Exa Z h16 b4 "[C" := (Exa.wr W16 (Exa.wr W12 (Exa.wr W8 Ex4)))
  refine fin (some (.ref b4)) _ _ _ _ X16 nofun (fun fs hr => pre0 _ ?_) (own_atH e16 ?_) (by decide) (by decide)
  · refine o_iloadN X0 hx hby d1_0 rfl (st4 _ (o_astore X4 hx hby d1_3 rfl (Ls' := #[vI 3, vI p1, vI p2, vI p3, vR b4]) rfl (o_aload X4 hx hby d1_5 rfl rfl (o_iconst X4 hx hby d1_7 (x := 0) rfl (o_iloadN X4 hx hby d1_8 rfl (st8 _ (o_iloadN X8 hx hby d1_10 rfl (o_iconst X8 hx hby d1_11 (x := 1) rfl (o_icmpN X8 hx hby d1_12 (by decide +kernel) (o_aload X8 hx hby d1_15 rfl rfl (o_iconst X8 hx hby d1_17 (x := 1) rfl (o_iloadN X8 hx hby d1_18 rfl (st12 _ (o_iloadN X12 hx hby d1_20 rfl (o_iconst X12 hx hby d1_21 (x := 2) rfl (o_icmpN X12 hx hby d1_22 (by decide +kernel) (o_aload X12 hx hby d1_25 rfl rfl (o_iconst X12 hx hby d1_27 (x := 2) rfl (o_iloadN X12 hx hby d1_28 rfl (st16 _ (o_aload X16 hx hby d1_30 rfl rfl ?_)))))))))))))))))))))
    show Steps p.tables e below (T16.setTop (mkF m 32 #[vI 3, vI p1, vI p2, vI p3, vR b4] [(.ref b4)])) _
    jvm_step X16.here [X16.here.top, hx, (hb hby d1_32), X16.method', hret, Value.isRef, FieldType.isReference]
    first | (intro acts; rw [hr _ acts rfl rfl rfl]) | rw [hr _ _ rfl rfl rfl]
    exact Steps.refl _
  · exact ⟨i11, i15, i7, b4, k4, hi7, hi11, hi15, rfl, N16, sz_b4, (own_t (own_t (own_t lt_b4 (Keep.of_wr W8).1) (Keep.of_wr W12).1) (Keep.of_wr W16).1), (((((Keep.refl h0 []).ext E4).wr W8 (Or.inr sz_b4)).wr W12 (Or.inr sz_b4)).wr W16 (Or.inr sz_b4)), f17, V16⟩
def Q6_59 (Z : State) (a1 : Addr) (a2 : Addr) (p3 : Int32) (p4 : Int32) (p5 : Int32) (k6 : ClassId) (k11 : ClassId) (h0 : Heap) (n0 : Nat) (v : Option Value) (h : Heap) (L : List Loc) : Prop := (∃ (i10 : Int32) (i21 : Int32) (i28 : Int32), i10 = (p3.toInt8.toInt32) ∧ i21 = (p4.toInt8.toInt32) ∧ i28 = (p5.toInt8.toInt32) ∧ v = some (.int 3) ∧ Fr n0 L ∧ Keep h0 h [a2] ∧ Exa Z h a2 "[B" ∧ Arv Z h a2 k11 .byte (3 : Int32) [(.int i10), (.int i21), (.int i28)] (.int (0 : Int32)))
theorem rm6_59 (l : Launch) (Z : State) (a0 : Array Value) (hw : own_HW Z a0) (a1 : Addr) (a2 : Addr) (p3 : Int32) (p4 : Int32) (p5 : Int32) (k6 : ClassId) (k11 : ClassId) (h0 : Heap) (n0 : Nat) (O0 : Old Z n0 h0) (V7 : Arv Z h0 a1 k6 .char (3 : Int32) [(.int p3), (.int p4), (.int p5)] (.int (0 : Int32))) (hk9 : ¬ ((255 : Int32) < p3)) (V12 : Arv Z h0 a2 k11 .byte (3 : Int32) [] (.int (0 : Int32))) (g_a2 : n0 ≤ a2) (E_16 : Exa Z h0 a2 "[B") (hne17 : a1 ≠ a2) (hk20 : ¬ ((255 : Int32) < p4)) (hk27 : ¬ ((255 : Int32) < p5)) : own_Met l Z M_1 bc6 7 (some .int) ({ frames := 0, cells := 0, slots := 0, locals := 0 } : Room) #[(.ref a1), (.int 0), (.ref a2), (.int 0), (.int 3)] h0 (Q6_59 Z a1 a2 p3 p4 p5 k6 k11 h0 n0) := by
  refine own_body (L0 := #[vR a1, vI 0, vR a2, vI 0, vI 3, .unset, .unset]) (plainFor_of_name pn_1) (fun m => by first | (simp [entryFrame, mkF, argsToLocals, Value.category]; done) | rfl) fun p e s m below meth c s₁ EN hx hby hml hown hnm hret X0 hZ e0 hh pre0 fin => ?_
  have N0 := Fr.nil n0
  obtain ⟨cl8, Ar8, -, Sz8, -, Hh8, -⟩ := id V7
  have hin8 : ¬ ((0 : Int32) < 0 ∨ cl8.slots.size ≤ ((0 : Int32)).toNatClampNeg) := inb_of Sz8 ⟨by decide +kernel, by decide +kernel⟩
  have hat8 : cl8.slots[((0 : Int32)).toNatClampNeg]? = some (.int p3) := Has.at Hh8 hin8 rfl
  obtain ⟨i10, hi10⟩ : ∃ z, z = (p3.toInt8.toInt32) := ⟨_, rfl⟩
  have Vp13 : Arv Z h0 a2 k11 .byte (3 : Int32) [(.int 0)] (.int (0 : Int32)) := V12.pad (pad_rep [] (.int (0 : Int32)) 1)
  obtain ⟨cl14, Ar14, qk14, Sz14, Nn14, Hh14, Gg14⟩ := id Vp13
  have hin14 : ¬ ((0 : Int32) < 0 ∨ cl14.slots.size ≤ ((0 : Int32)).toNatClampNeg) := inb_of Sz14 ⟨by decide +kernel, by decide +kernel⟩
  obtain ⟨T15, h15, X15, e15, W15, st15⟩ := stB X0 hx hZ e0 Ar14 (j := (0 : Int32)) hin14 (g := (mkF m 31 #[vR a1, vI 0, vR a2, vI 0, vI 3, vI 0, vI p3] [(.int i10), (.int 0), (.ref a2)])) rfl rfl (hb hby d6_31)
  rw [show nar .byte i10 = i10 from (own_i2b2 hi10 : (i10.toInt8.toInt32) = i10)] at W15
  have O15 : Old Z n0 h15 := O0.wr W15 g_a2
  have V15 : Arv Z h15 a2 k11 .byte (3 : Int32) [(.int i10)] (.int (0 : Int32)) := Arv.set Ar14 qk14 Sz14 Nn14 Hh14 Gg14 ((own_i2b2 hi10 : (i10.toInt8.toInt32) = i10) ▸ fits_nar_byte _) W15 0 rfl (Nat.le_of_ble_eq_true rfl)
  have N15 := Fr.snoc X15 N0 g_a2
  have f18 : Arv Z h15 a1 k6 .char (3 : Int32) [(.int p3), (.int p4), (.int p5)] (.int (0 : Int32)) := (V7.other W15 hne17)
  obtain ⟨cl19, Ar19, -, Sz19, -, Hh19, -⟩ := id f18
  have hin19 : ¬ ((1 : Int32) < 0 ∨ cl19.slots.size ≤ ((1 : Int32)).toNatClampNeg) := inb_of Sz19 ⟨by decide +kernel, by decide +kernel⟩
  have hat19 : cl19.slots[((1 : Int32)).toNatClampNeg]? = some (.int p4) := Has.at Hh19 hin19 rfl
  obtain ⟨i21, hi21⟩ : ∃ z, z = (p4.toInt8.toInt32) := ⟨_, rfl⟩
  have Vp22 : Arv Z h15 a2 k11 .byte (3 : Int32) [(.int i10), (.int 0)] (.int (0 : Int32)) := V15.pad (pad_rep [(.int i10)] (.int (0 : Int32)) 1)
  obtain ⟨cl23, Ar23, qk23, Sz23, Nn23, Hh23, Gg23⟩ := id Vp22
  have hin23 : ¬ ((1 : Int32) < 0 ∨ cl23.slots.size ≤ ((1 : Int32)).toNatClampNeg) := inb_of Sz23 ⟨by decide +kernel, by decide +kernel⟩
  obtain ⟨T24, h24, X24, e24, W24, st24⟩ := stB X15 hx hZ e15 Ar23 (j := (1 : Int32)) hin23 (g := (mkF m 31 #[vR a1, vI 1, vR a2, vI 1, vI 3, vI 1, vI p4] [(.int i21), (.int 1), (.ref a2)])) rfl rfl (hb hby d6_31)
  rw [show nar .byte i21 = i21 from (own_i2b2 hi21 : (i21.toInt8.toInt32) = i21)] at W24
  have O24 : Old Z n0 h24 := O15.wr W24 g_a2
  have V24 : Arv Z h24 a2 k11 .byte (3 : Int32) [(.int i10), (.int i21)] (.int (0 : Int32)) := Arv.set Ar23 qk23 Sz23 Nn23 Hh23 Gg23 ((own_i2b2 hi21 : (i21.toInt8.toInt32) = i21) ▸ fits_nar_byte _) W24 1 rfl (Nat.le_of_ble_eq_true rfl)
  have N24 := Fr.snoc X24 N15 g_a2
  have f25 : Arv Z h24 a1 k6 .char (3 : Int32) [(.int p3), (.int p4), (.int p5)] (.int (0 : Int32)) := (f18.other W24 hne17)
  obtain ⟨cl26, Ar26, -, Sz26, -, Hh26, -⟩ := id f25
  have hin26 : ¬ ((2 : Int32) < 0 ∨ cl26.slots.size ≤ ((2 : Int32)).toNatClampNeg) := inb_of Sz26 ⟨by decide +kernel, by decide +kernel⟩
  have hat26 : cl26.slots[((2 : Int32)).toNatClampNeg]? = some (.int p5) := Has.at Hh26 hin26 rfl
  obtain ⟨i28, hi28⟩ : ∃ z, z = (p5.toInt8.toInt32) := ⟨_, rfl⟩
  have Vp29 : Arv Z h24 a2 k11 .byte (3 : Int32) [(.int i10), (.int i21), (.int 0)] (.int (0 : Int32)) := V24.pad (pad_rep [(.int i10), (.int i21)] (.int (0 : Int32)) 1)
  obtain ⟨cl30, Ar30, qk30, Sz30, Nn30, Hh30, Gg30⟩ := id Vp29
  have hin30 : ¬ ((2 : Int32) < 0 ∨ cl30.slots.size ≤ ((2 : Int32)).toNatClampNeg) := inb_of Sz30 ⟨by decide +kernel, by decide +kernel⟩
  obtain ⟨T31, h31, X31, e31, W31, st31⟩ := stB X24 hx hZ e24 Ar30 (j := (2 : Int32)) hin30 (g := (mkF m 31 #[vR a1, vI 2, vR a2, vI 2, vI 3, vI 2, vI p5] [(.int i28), (.int 2), (.ref a2)])) rfl rfl (hb hby d6_31)
  rw [show nar .byte i28 = i28 from (own_i2b2 hi28 : (i28.toInt8.toInt32) = i28)] at W31
  have O31 : Old Z n0 h31 := O24.wr W31 g_a2
  have V31 : Arv Z h31 a2 k11 .byte (3 : Int32) [(.int i10), (.int i21), (.int i28)] (.int (0 : Int32)) := Arv.set Ar30 qk30 Sz30 Nn30 Hh30 Gg30 ((own_i2b2 hi28 : (i28.toInt8.toInt32) = i28) ▸ fits_nar_byte _) W31 2 rfl (Nat.le_of_ble_eq_true rfl)
  have N31 := Fr.snoc X31 N24 g_a2
  have f32 : Exa Z h31 a2 "[B" := (Exa.wr W31 (Exa.wr W24 (Exa.wr W15 E_16)))
  refine fin (some (.int 3)) _ _ _ _ X31 nofun (fun fs hr => pre0 _ ?_) (own_atH e31 ?_) (by decide) (by decide)
  · refine o_iconst X0 hx hby d6_0 (x := 0) rfl (o_istore X0 hx hby d6_1 (Ls' := #[vR a1, vI 0, vR a2, vI 0, vI 3, vI 0, .unset]) rfl (o_iload X0 hx hby d6_3 rfl (o_iload X0 hx hby d6_5 rfl (o_icmpN X0 hx hby d6_7 (by decide +kernel) (o_aloadN X0 hx hby d6_10 rfl rfl (o_iloadN X0 hx hby d6_11 rfl (X0.caload hx (j := (0 : Int32)) (v := (.int p3)) (by rw [e0]; exact Ar8.1) (State.isArrayOf_alike hZ.alike Ar8.2.1) Ar8.2.2 hin8 hat8 (g := (mkF m 12 #[vR a1, vI 0, vR a2, vI 0, vI 3, vI 0, .unset] [(.int 0), (.ref a1)])) rfl rfl (hb hby d6_12) _ (o_istore X0 hx hby d6_13 (Ls' := #[vR a1, vI 0, vR a2, vI 0, vI 3, vI 0, vI p3]) rfl (o_iload X0 hx hby d6_15 rfl (o_sipush X0 hx hby d6_17 (x := 255) rfl (o_icmpY X0 hx hby d6_20 (pc := 20) (pc' := 26) (flt hk9).2.2.2 (by decide) (by decide) (o_aloadN X0 hx hby d6_26 rfl rfl (o_iloadN X0 hx hby d6_27 rfl (o_iload X0 hx hby d6_28 rfl (o_i2b X0 hx hby d6_30 (z := i10) hi10.symm (st15 _ (o_iinc X15 hx hby d6_32 rfl (z := (1 : Int32)) (k' := 1) rfl (by decide +kernel) (Ls' := #[vR a1, vI 1, vR a2, vI 0, vI 3, vI 0, vI p3]) rfl (o_iinc X15 hx hby d6_35 rfl (z := (1 : Int32)) (k' := 1) rfl (by decide +kernel) (Ls' := #[vR a1, vI 1, vR a2, vI 1, vI 3, vI 0, vI p3]) rfl (o_iinc X15 hx hby d6_38 rfl (z := (1 : Int32)) (k' := 1) rfl (by decide +kernel) (Ls' := #[vR a1, vI 1, vR a2, vI 1, vI 3, vI 1, vI p3]) rfl (o_goto X15 hx hby d6_41 (pc := 41) (pc' := 3) (by decide) (by decide) (o_iload X15 hx hby d6_3 rfl (o_iload X15 hx hby d6_5 rfl (o_icmpN X15 hx hby d6_7 (by decide +kernel) (o_aloadN X15 hx hby d6_10 rfl rfl (o_iloadN X15 hx hby d6_11 rfl (X15.caload hx (j := (1 : Int32)) (v := (.int p4)) (by rw [e15]; exact Ar19.1) (State.isArrayOf_alike hZ.alike Ar19.2.1) Ar19.2.2 hin19 hat19 (g := (mkF m 12 #[vR a1, vI 1, vR a2, vI 1, vI 3, vI 1, vI p3] [(.int 1), (.ref a1)])) rfl rfl (hb hby d6_12) _ (o_istore X15 hx hby d6_13 (Ls' := #[vR a1, vI 1, vR a2, vI 1, vI 3, vI 1, vI p4]) rfl (o_iload X15 hx hby d6_15 rfl (o_sipush X15 hx hby d6_17 (x := 255) rfl (o_icmpY X15 hx hby d6_20 (pc := 20) (pc' := 26) (flt hk20).2.2.2 (by decide) (by decide) (o_aloadN X15 hx hby d6_26 rfl rfl (o_iloadN X15 hx hby d6_27 rfl (o_iload X15 hx hby d6_28 rfl (o_i2b X15 hx hby d6_30 (z := i21) hi21.symm (st24 _ (o_iinc X24 hx hby d6_32 rfl (z := (2 : Int32)) (k' := 1) rfl (by decide +kernel) (Ls' := #[vR a1, vI 2, vR a2, vI 1, vI 3, vI 1, vI p4]) rfl (o_iinc X24 hx hby d6_35 rfl (z := (2 : Int32)) (k' := 1) rfl (by decide +kernel) (Ls' := #[vR a1, vI 2, vR a2, vI 2, vI 3, vI 1, vI p4]) rfl (o_iinc X24 hx hby d6_38 rfl (z := (2 : Int32)) (k' := 1) rfl (by decide +kernel) (Ls' := #[vR a1, vI 2, vR a2, vI 2, vI 3, vI 2, vI p4]) rfl (o_goto X24 hx hby d6_41 (pc := 41) (pc' := 3) (by decide) (by decide) ?_)))))))))))))))))))))))))))))))))))))))
    refine o_iload X24 hx hby d6_3 rfl (o_iload X24 hx hby d6_5 rfl (o_icmpN X24 hx hby d6_7 (by decide +kernel) (o_aloadN X24 hx hby d6_10 rfl rfl (o_iloadN X24 hx hby d6_11 rfl (X24.caload hx (j := (2 : Int32)) (v := (.int p5)) (by rw [e24]; exact Ar26.1) (State.isArrayOf_alike hZ.alike Ar26.2.1) Ar26.2.2 hin26 hat26 (g := (mkF m 12 #[vR a1, vI 2, vR a2, vI 2, vI 3, vI 2, vI p4] [(.int 2), (.ref a1)])) rfl rfl (hb hby d6_12) _ (o_istore X24 hx hby d6_13 (Ls' := #[vR a1, vI 2, vR a2, vI 2, vI 3, vI 2, vI p5]) rfl (o_iload X24 hx hby d6_15 rfl (o_sipush X24 hx hby d6_17 (x := 255) rfl (o_icmpY X24 hx hby d6_20 (pc := 20) (pc' := 26) (flt hk27).2.2.2 (by decide) (by decide) (o_aloadN X24 hx hby d6_26 rfl rfl (o_iloadN X24 hx hby d6_27 rfl (o_iload X24 hx hby d6_28 rfl (o_i2b X24 hx hby d6_30 (z := i28) hi28.symm (st31 _ (o_iinc X31 hx hby d6_32 rfl (z := (3 : Int32)) (k' := 1) rfl (by decide +kernel) (Ls' := #[vR a1, vI 3, vR a2, vI 2, vI 3, vI 2, vI p5]) rfl (o_iinc X31 hx hby d6_35 rfl (z := (3 : Int32)) (k' := 1) rfl (by decide +kernel) (Ls' := #[vR a1, vI 3, vR a2, vI 3, vI 3, vI 2, vI p5]) rfl (o_iinc X31 hx hby d6_38 rfl (z := (3 : Int32)) (k' := 1) rfl (by decide +kernel) (Ls' := #[vR a1, vI 3, vR a2, vI 3, vI 3, vI 3, vI p5]) rfl (o_goto X31 hx hby d6_41 (pc := 41) (pc' := 3) (by decide) (by decide) (o_iload X31 hx hby d6_3 rfl (o_iload X31 hx hby d6_5 rfl (o_icmpY X31 hx hby d6_7 (pc := 7) (pc' := 44) (by decide +kernel) (by decide) (by decide) (o_iload X31 hx hby d6_44 rfl ?_))))))))))))))))))))))
    exact retI X31 hx hret (hb hby d6_46) hr
  · exact ⟨i10, i21, i28, hi10, hi21, hi28, rfl, N31, ((((Keep.refl h0 [a2]).wr W15 (Or.inl (List.mem_of_getElem? (i := 0) rfl))).wr W24 (Or.inl (List.mem_of_getElem? (i := 0) rfl))).wr W31 (Or.inl (List.mem_of_getElem? (i := 0) rfl))), f32, V31⟩
def Q5_58 (Z : State) (a1 : Addr) (p3 : Int32) (p4 : Int32) (p5 : Int32) (k6 : ClassId) (h0 : Heap) (n0 : Nat) (v : Option Value) (h : Heap) (L : List Loc) : Prop := (∃ (i13 : Int32) (i14 : Int32) (i15 : Int32) (b2 : Addr) (k2 : ClassId), i13 = (p3.toInt8.toInt32) ∧ i14 = (p4.toInt8.toInt32) ∧ i15 = (p5.toInt8.toInt32) ∧ v = some (.ref b2) ∧ Fr n0 L ∧ h0.size ≤ b2 ∧ b2 < h.size ∧ Keep h0 h [] ∧ Exa Z h b2 "[B" ∧ Arv Z h b2 k2 .byte (3 : Int32) [(.int i13), (.int i14), (.int i15)] (.int (0 : Int32)))
theorem rm5_58 (l : Launch) (Z : State) (a0 : Array Value) (hw : own_HW Z a0) (a1 : Addr) (p3 : Int32) (p4 : Int32) (p5 : Int32) (k6 : ClassId) (h0 : Heap) (n0 : Nat) (O0 : Old Z n0 h0) (V7 : Arv Z h0 a1 k6 .char (3 : Int32) [(.int p3), (.int p4), (.int p5)] (.int (0 : Int32))) (hk8 : ¬ ((255 : Int32) < p3)) (lt_a1 : a1 < h0.size) (hk9 : ¬ ((255 : Int32) < p4)) (hk10 : ¬ ((255 : Int32) < p5)) : own_Met l Z M_2 bc5 6 (some (.array .byte)) ({ frames := 1, cells := 1, slots := 3, locals := 18 } : Room) #[(.ref a1), (.int 0), (.int 3)] h0 (Q5_58 Z a1 p3 p4 p5 k6 h0 n0) := by
  refine own_body (L0 := #[vR a1, vI 0, vI 3, .unset, .unset, .unset]) (plainFor_of_name pn_1) (fun m => by first | (simp [entryFrame, mkF, argsToLocals, Value.category]; done) | rfl) fun p e s m below meth c s₁ EN hx hby hml hown hnm hret X0 hZ e0 hh pre0 fin => ?_
  have N0 := Fr.nil n0
  obtain ⟨T2, h2, k2, X2, e2, E2, A2, Ex2, st2⟩ := newPE (aty := .byte) X0 hx hZ (ww23 hw) e0 (g := (mkF m 1 #[vR a1, vI 0, vI 3, .unset, .unset, .unset] [(.int 3)])) rfl (hb hby d5_1) rfl (by decide +kernel) (cap := 3) (by decide +kernel) (by decide) (by decide) (by decide) (ad := "[B") (by decide +kernel)
  obtain ⟨b2, g2⟩ : ∃ z, z = h0.size := ⟨_, rfl⟩
  rw [← g2] at A2 Ex2 st2
  have O2 : Old Z n0 h2 := O0.ext E2
  have bd_b2 : h0.size ≤ b2 := Nat.le_of_eq g2.symm
  have g_b2 : n0 ≤ b2 := Nat.le_trans (own_z O0) bd_b2
  have sz_b2 : h0.size ≤ b2 := Nat.le_trans (Nat.le_refl _) bd_b2
  have lt_b2 : b2 < h2.size := A2.lt
  have V2 : Arv Z h2 b2 k2 .byte (3 : Int32) [] (.int (0 : Int32)) := Arv.new A2 (by decide +kernel)
  have f11 : Arv Z h2 a1 k6 .char (3 : Int32) [(.int p3), (.int p4), (.int p5)] (.int (0 : Int32)) := (V7.ext E2)
  obtain ⟨_, T12, L12, X12, hQ12, st12⟩ := own_cS X2 hx hZ hown (ww24 hw) (ww25 hw) (ww21 hw) (ww26 hw) (rm6_59 l Z a0 hw a1 b2 p3 p4 p5 k6 k2 h2 n0 O2 f11 hk8 V2 g_b2 Ex2 (own_n lt_a1 bd_b2) hk9 hk10) e2 pd_1 hml (hb hby d5_9) (Ls := #[vR a1, vI 0, vI 3, vR b2, .unset, .unset]) (W := 0) (argsL := [(.ref a1), (.int 0), (.ref b2), (.int 0), (.int 3)]) (rest := [])
  obtain ⟨i13, i14, i15, u16, u17, u18, rfl, u20, Ku21, u22, u23⟩ := hQ12
  have Ou21 : Old Z n0 T12.heap := O2.keep Ku21 (allS g_b2 all0)
  have N12 := Fr.app N0 u20
  refine fin (some (.ref b2)) _ _ _ _ X12 nofun (fun fs hr => pre0 _ ?_) ?_ (by decide) (by decide)
  · refine o_iloadN X0 hx hby d5_0 rfl (st2 _ (o_astoreN X2 hx hby d5_3 rfl (Ls' := #[vR a1, vI 0, vI 3, vR b2, .unset, .unset]) rfl (o_aloadN X2 hx hby d5_4 rfl rfl (o_iloadN X2 hx hby d5_5 rfl (o_aloadN X2 hx hby d5_6 rfl rfl (o_iconst X2 hx hby d5_7 (x := 0) rfl (o_iloadN X2 hx hby d5_8 rfl (st12 _ (o_istore X12 hx hby d5_12 (Ls' := #[vR a1, vI 0, vI 3, vR b2, vI 3, .unset]) rfl (o_iload X12 hx hby d5_14 rfl (o_iloadN X12 hx hby d5_16 rfl (o_icmpY X12 hx hby d5_17 (pc := 17) (pc' := 57) (by decide +kernel) (by decide) (by decide) (o_aloadN X12 hx hby d5_57 rfl rfl ?_)))))))))))))
    show Steps p.tables e below (T12.setTop (mkF m 58 #[vR a1, vI 0, vI 3, vR b2, vI 3, .unset] [(.ref b2)])) _
    jvm_step X12.here [X12.here.top, hx, (hb hby d5_58), X12.method', hret, Value.isRef, FieldType.isReference]
    first | (intro acts; rw [hr _ acts rfl rfl rfl]) | rw [hr _ _ rfl rfl rfl]
    exact Steps.refl _
  · exact ⟨i13, i14, i15, b2, k2, u16, u17, u18, rfl, N12, sz_b2, (own_t lt_b2 Ku21.1), (((Keep.refl h0 []).ext E2).trans Ku21 (allS (Or.inr sz_b2) all0)), u22, u23⟩
def Q7_60 (Z : State) (a1 : Addr) (p2 : Int32) (p3 : Int32) (p4 : Int32) (k5 : ClassId) (h0 : Heap) (n0 : Nat) (v : Option Value) (h : Heap) (L : List Loc) : Prop := (v = some (.int 0) ∧ Fr n0 L ∧ h = h0)
theorem rm7_60 (l : Launch) (Z : State) (a0 : Array Value) (hw : own_HW Z a0) (a1 : Addr) (p2 : Int32) (p3 : Int32) (p4 : Int32) (k5 : ClassId) (h0 : Heap) (n0 : Nat) (O0 : Old Z n0 h0) (V6 : Arv Z h0 a1 k5 .byte (3 : Int32) [(.int p2), (.int p3), (.int p4)] (.int (0 : Int32))) : own_Met l Z M_3 bc7 2 (some .byte) ({ frames := 0, cells := 0, slots := 0, locals := 0 } : Room) #[(.ref a1), (.int 3)] h0 (Q7_60 Z a1 p2 p3 p4 k5 h0 n0) := by
  refine own_body (L0 := #[vR a1, vI 3]) (plainFor_of_name pn_1) (fun m => by first | (simp [entryFrame, mkF, argsToLocals, Value.category]; done) | rfl) fun p e s m below meth c s₁ EN hx hby hml hown hnm hret X0 hZ e0 hh pre0 fin => ?_
  have N0 := Fr.nil n0
  obtain ⟨cl7, Ar7, -, Sz7, Nn7, -, -⟩ := id V6
  refine fin (some (.int 0)) _ _ _ _ X0 nofun (fun fs hr => pre0 _ ?_) (own_atH e0 ?_) (by decide) (by decide)
  · refine o_iloadN X0 hx hby d7_0 rfl (o_aloadN X0 hx hby d7_1 rfl rfl (X0.arraylength hx (by rw [e0]; exact Ar7.1) (State.isArrayOf_alike hZ.alike Ar7.2.1) (g := (mkF m 2 #[vR a1, vI 3] [(.ref a1), (.int 3)])) rfl rfl (hb hby d7_2) _ ?_))
    rw [len_of Sz7 Nn7]
    refine o_isub X0 hx hby d7_3 (z := (0 : Int32)) (by decide +kernel) (o_bipush X0 hx hby d7_4 (x := 31) rfl (o_iushr X0 hx hby d7_6 (z := (0 : Int32)) (by decide +kernel) (o_i2b X0 hx hby d7_7 (z := (0 : Int32)) (by decide +kernel) ?_)))
    exact retN X0 hx (t := .byte) hret (by simp) (hb hby d7_8) hr
  · exact ⟨rfl, N0, rfl⟩
def Q3_57 (Z : State) (a1 : Addr) (a2 : Addr) (p4 : Int32) (p8 : Int32) (p9 : Int32) (p10 : Int32) (k11 : ClassId) (h0 : Heap) (n0 : Nat) (v : Option Value) (h : Heap) (L : List Loc) : Prop := (∃ (i17 : Int32) (i18 : Int32) (i19 : Int32) (b20 : Addr) (k21 : ClassId), i17 = (p8.toInt8.toInt32) ∧ i18 = (p9.toInt8.toInt32) ∧ i19 = (p10.toInt8.toInt32) ∧ v = none ∧ Fr n0 L ∧ h0.size ≤ b20 ∧ b20 < h.size ∧ Keep h0 h [a1] ∧ Exa Z h a1 C_0 ∧ Fld Z h a1 C_0 "coder" "B" (.int 0) ∧ Fld Z h a1 C_0 "value" "[B" (.ref b20) ∧ Exa Z h b20 "[B" ∧ Arv Z h b20 k21 .byte (3 : Int32) [(.int i17), (.int i18), (.int i19)] (.int (0 : Int32)))
theorem rm3_57 (l : Launch) (Z : State) (a0 : Array Value) (hw : own_HW Z a0) (a1 : Addr) (a2 : Addr) (p4 : Int32) (p8 : Int32) (p9 : Int32) (p10 : Int32) (k11 : ClassId) (h0 : Heap) (n0 : Nat) (O0 : Old Z n0 h0) (S_5 : Sta Z Z.heap C_0 "COMPACT_STRINGS" "Z" (.int p4)) (hk7 : ¬ (p4 = (0 : Int32))) (V12 : Arv Z h0 a2 k11 .char (3 : Int32) [(.int p8), (.int p9), (.int p10)] (.int (0 : Int32))) (hk13 : ¬ ((255 : Int32) < p8)) (hk14 : ¬ ((255 : Int32) < p9)) (hk15 : ¬ ((255 : Int32) < p10)) (lt_a2 : a2 < h0.size) (E_36 : Exa Z h0 a1 C_0) (F37 : Fld Z h0 a1 C_0 "coder" "B" (.int 0)) (F38 : Fld Z h0 a1 C_0 "value" "[B" .null) (g_a1 : n0 ≤ a1) (lt_a1 : a1 < h0.size) : own_Met l Z M_4 bc3 6 none ({ frames := 2, cells := 1, slots := 3, locals := 35 } : Room) #[(.ref a1), (.ref a2), (.int 0), (.int 3), .null] h0 (Q3_57 Z a1 a2 p4 p8 p9 p10 k11 h0 n0) := by
  refine own_body (L0 := #[vR a1, vR a2, vI 0, vI 3, vN, .unset]) (plainFor_of_name pn_2) (fun m => by first | (simp [entryFrame, mkF, argsToLocals, Value.category]; done) | rfl) fun p e s m below meth c s₁ EN hx hby hml hown hnm hret X0 hZ e0 hh pre0 fin => ?_
  have N0 := Fr.nil n0
  obtain ⟨T3, X3, e3, st3⟩ := initO X0 hx hZ hown (ww15 hw) (ww16 hw) (ww17 hw) e0 (g := (mkF m 1 #[vR a1, vR a2, vI 0, vI 3, vN, .unset] [(.ref a1)])) rfl (by rw [hml]; rfl) rfl (hb hby d3_1) (by decide) (W := 0) (by show 2 * 0 + _ ≤ _; exact Nat.le_of_eq rfl) (by decide)
  obtain ⟨T6, X6, e6, st6⟩ := getS2 X3 hx hZ hown (host := "") (Or.inl (ww18 hw)) Via.refl e3 (Sta.ext O0.2 S_5) (g := (mkF m 27 #[vR a1, vR a2, vI 0, vI 3, vN, .unset] [])) rfl (hb hby d3_27)
  obtain ⟨_, T16, L16, X16, hQ16, st16⟩ := own_cS X6 hx hZ hown (ww19 hw) (ww20 hw) (ww21 hw) (ww22 hw) (rm5_58 l Z a0 hw a2 p8 p9 p10 k11 h0 n0 O0 V12 hk13 lt_a2 hk14 hk15) e6 pd_2 hml (hb hby d3_36) (Ls := #[vR a1, vR a2, vI 0, vI 3, vN, .unset]) (W := 0) (argsL := [(.ref a2), (.int 0), (.int 3)]) (rest := [])
  obtain ⟨i17, i18, i19, b20, k21, u22, u23, u24, rfl, u26, u27, u28, Ku29, u30, u31⟩ := hQ16
  have Ou29 : Old Z n0 T16.heap := O0.keep Ku29 all0
  have g_b20 : n0 ≤ b20 := Nat.le_trans (own_z O0) u27
  have sz_b20 : h0.size ≤ b20 := Nat.le_trans (Nat.le_refl _) u27
  have N16 := Fr.app N0 u26
  obtain ⟨_, T32, L32, X32, hQ32, st32⟩ := own_cS X16 hx hZ hown (ww27 hw) (ww28 hw) (ww21 hw) (ww29 hw) (rm7_60 l Z a0 hw b20 i17 i18 i19 k21 T16.heap n0 Ou29 u31) rfl pd_3 hml (hb hby d3_45) (Ls := #[vR a1, vR a2, vI 0, vI 3, vN, vR b20]) (W := 1) (argsL := [(.ref b20), (.int 3)]) (rest := [(.ref a1)])
  obtain ⟨rfl, u34, u35⟩ := hQ32
  have N32 := Fr.app N16 u34
  have f39 : Fld Z T16.heap a1 C_0 "coder" "B" (.int 0) := (F37.keep Ku29 nin0)
  have f40 : Exa Z T16.heap a1 C_0 := (E_36.keep Ku29)
  obtain ⟨T41, h41, X41, e41, W41, st41⟩ := putFN X32 hx hZ hown (ww30 hw) Via.refl u35 f39 f40 (Or.inr ⟨(ww31 hw), rfl, hnm⟩) (ww1 hw) (ty := .byte) (v' := (.int 0)) (by decide) (by exact congrArg Value.int (by decide +kernel : (nar .byte (0 : Int32)) = (0 : Int32))) ((by decide +kernel : (nar .byte (0 : Int32)) = (0 : Int32)) ▸ fits_nar_byte _) (g := (mkF m 48 #[vR a1, vR a2, vI 0, vI 3, vN, vR b20] [(.int 0), (.ref a1)])) rfl rfl (hb hby d3_48)
  have O41 : Old Z n0 h41 := Ou29.wr W41 g_a1
  have Fw41 : Fld Z h41 a1 C_0 "coder" "B" (.int 0) := Fld.same W41 f39
  have N41 := Fr.snoc X41 N32 g_a1
  have f42 : Fld Z h41 a1 C_0 "value" "[B" .null := (Fld.other W41 (F38.keep Ku29 nin0) (Or.inr (own_sl0 hw)))
  have f43 : Exa Z h41 a1 C_0 := (Exa.wr W41 f40)
  obtain ⟨T44, h44, X44, e44, W44, st44⟩ := putF X41 hx hZ hown (host := "") (Or.inl (ww32 hw)) Via.refl e41 f42 f43 (Or.inr ⟨(ww33 hw), rfl, hnm⟩) (ww1 hw) (ty := (.array .byte)) (by decide) rfl rfl (g := (mkF m 54 #[vR a1, vR a2, vI 0, vI 3, vN, vR b20] [(.ref b20), (.ref a1)])) rfl rfl (hb hby d3_54)
  have O44 : Old Z n0 h44 := O41.wr W44 g_a1
  have Fw44 : Fld Z h44 a1 C_0 "value" "[B" (.ref b20) := Fld.same W44 f42
  have N44 := Fr.snoc X44 N41 g_a1
  have f45 : Exa Z h44 a1 C_0 := (Exa.wr W44 f43)
  have f46 : Fld Z h44 a1 C_0 "coder" "B" (.int 0) := (Fld.other W44 Fw41 (Or.inr (own_sl1 hw)))
  have f47 : Exa Z h44 b20 "[B" := (Exa.wr W44 (Exa.wr W41 u30))
  have f48 : Arv Z h44 b20 k21 .byte (3 : Int32) [(.int i17), (.int i18), (.int i19)] (.int (0 : Int32)) := ((u31.other W41 (Ne.symm (own_n lt_a1 u27))).other W44 (Ne.symm (own_n lt_a1 u27)))
  refine fin none _ _ _ _ X44 (fun _ => rfl) (fun fs hr => pre0 _ ?_) (own_atH e44 ?_) (by decide) (by decide)
  · refine o_aloadN X0 hx hby d3_0 rfl rfl (st3 _ (o_iloadN X3 hx hby d3_4 rfl (o_ifY X3 hx hby d3_5 (pc := 5) (pc' := 27) (by decide +kernel) (by decide) (by decide) (st6 _ (o_ifN X6 hx hby d3_30 ((if0 _ _).trans (feq hk7).1) (o_aloadN X6 hx hby d3_33 rfl rfl (o_iloadN X6 hx hby d3_34 rfl (o_iloadN X6 hx hby d3_35 rfl (st16 _ (o_astore X16 hx hby d3_39 rfl (Ls' := #[vR a1, vR a2, vI 0, vI 3, vN, vR b20]) rfl (o_aloadN X16 hx hby d3_41 rfl rfl (o_aload X16 hx hby d3_42 rfl rfl (o_iloadN X16 hx hby d3_44 rfl (st32 _ (st41 _ (o_aloadN X41 hx hby d3_51 rfl rfl (o_aload X41 hx hby d3_52 rfl rfl (st44 _ ?_))))))))))))))))))
    exact X44.returnOut hx hret (hb hby d3_57) hr
  · exact ⟨i17, i18, i19, b20, k21, u22, u23, u24, rfl, N44, sz_b20, (own_t (own_t u28 (Keep.of_wr W41).1) (Keep.of_wr W44).1), ((((Keep.refl h0 [a1]).trans Ku29 all0).wr W41 (Or.inl (List.mem_of_getElem? (i := 0) rfl))).wr W44 (Or.inl (List.mem_of_getElem? (i := 0) rfl))), f45, f46, Fw44, f47, f48⟩
def Q2_56 (Z : State) (a1 : Addr) (a2 : Addr) (p3 : Int32) (p4 : Int32) (p5 : Int32) (k6 : ClassId) (p9 : Int32) (h0 : Heap) (n0 : Nat) (v : Option Value) (h : Heap) (L : List Loc) : Prop := (∃ (i19 : Int32) (i20 : Int32) (i21 : Int32) (b22 : Addr) (k23 : ClassId), i19 = (p3.toInt8.toInt32) ∧ i20 = (p4.toInt8.toInt32) ∧ i21 = (p5.toInt8.toInt32) ∧ v = none ∧ Fr n0 L ∧ h0.size ≤ b22 ∧ b22 < h.size ∧ Keep h0 h [a1] ∧ Exa Z h a1 C_0 ∧ Fld Z h a1 C_0 "coder" "B" (.int 0) ∧ Fld Z h a1 C_0 "value" "[B" (.ref b22) ∧ Exa Z h b22 "[B" ∧ Arv Z h b22 k23 .byte (3 : Int32) [(.int i19), (.int i20), (.int i21)] (.int (0 : Int32)))
theorem rm2_56 (l : Launch) (Z : State) (a0 : Array Value) (hw : own_HW Z a0) (a1 : Addr) (a2 : Addr) (p3 : Int32) (p4 : Int32) (p5 : Int32) (k6 : ClassId) (p9 : Int32) (h0 : Heap) (n0 : Nat) (O0 : Old Z n0 h0) (V7 : Arv Z h0 a2 k6 .char (3 : Int32) [(.int p3), (.int p4), (.int p5)] (.int (0 : Int32))) (S_10 : Sta Z Z.heap C_0 "COMPACT_STRINGS" "Z" (.int p9)) (hk11 : ¬ (p9 = (0 : Int32))) (hk12 : ¬ ((255 : Int32) < p3)) (hk13 : ¬ ((255 : Int32) < p4)) (hk14 : ¬ ((255 : Int32) < p5)) (E_15 : Exa Z h0 a1 C_0) (F16 : Fld Z h0 a1 C_0 "coder" "B" (.int 0)) (F17 : Fld Z h0 a1 C_0 "value" "[B" .null) (lt_a2 : a2 < h0.size) (g_a1 : n0 ≤ a1) (lt_a1 : a1 < h0.size) : own_Met l Z M_5 bc2 2 none ({ frames := 3, cells := 1, slots := 3, locals := 52 } : Room) #[(.ref a1), (.ref a2)] h0 (Q2_56 Z a1 a2 p3 p4 p5 k6 p9 h0 n0) := by
  refine own_body (L0 := #[vR a1, vR a2]) (plainFor_of_name pn_2) (fun m => by first | (simp [entryFrame, mkF, argsToLocals, Value.category]; done) | rfl) fun p e s m below meth c s₁ EN hx hby hml hown hnm hret X0 hZ e0 hh pre0 fin => ?_
  have N0 := Fr.nil n0
  obtain ⟨cl8, Ar8, -, Sz8, Nn8, -, -⟩ := id V7
  obtain ⟨_, T18, L18, X18, hQ18, st18⟩ := own_cI X0 hx hZ hown (ww11 hw) (ww12 hw) (ww2 hw) (ww14 hw) (rm3_57 l Z a0 hw a1 a2 p9 p3 p4 p5 k6 h0 n0 O0 S_10 hk11 V7 hk12 hk13 hk14 lt_a2 E_15 F16 F17 g_a1 lt_a1) e0 pd_4 hml (hb hby d2_6) (Ls := #[vR a1, vR a2]) (W := 0) (argsL := [(.ref a2), (.int 0), (.int 3), .null]) (rest := []) (b := a1)
  obtain ⟨i19, i20, i21, b22, k23, u24, u25, u26, rfl, u28, u29, u30, Ku31, u32, u33, u34, u35, u36⟩ := hQ18
  have Ou31 : Old Z n0 T18.heap := O0.keep Ku31 (allS g_a1 all0)
  have g_b22 : n0 ≤ b22 := Nat.le_trans (own_z O0) u29
  have sz_b22 : h0.size ≤ b22 := Nat.le_trans (Nat.le_refl _) u29
  have N18 := Fr.app N0 u28
  refine fin none _ _ _ _ X18 (fun _ => rfl) (fun fs hr => pre0 _ ?_) ?_ (by decide) (by decide)
  · refine o_aloadN X0 hx hby d2_0 rfl rfl (o_aloadN X0 hx hby d2_1 rfl rfl (o_iconst X0 hx hby d2_2 (x := 0) rfl (o_aloadN X0 hx hby d2_3 rfl rfl (X0.arraylength hx (by rw [e0]; exact Ar8.1) (State.isArrayOf_alike hZ.alike Ar8.2.1) (g := (mkF m 4 #[vR a1, vR a2] [(.ref a2), (.int 0), (.ref a2), (.ref a1)])) rfl rfl (hb hby d2_4) _ ?_))))
    rw [len_of Sz8 Nn8]
    refine o_null X0 hx hby d2_5 (st18 _ ?_)
    exact X18.returnOut hx hret (hb hby d2_9) hr
  · exact ⟨i19, i20, i21, b22, k23, u24, u25, u26, rfl, N18, sz_b22, u30, ((Keep.refl h0 [a1]).trans Ku31 (allS (Or.inl (List.mem_of_getElem? (i := 0) rfl)) all0)), u32, u33, u34, u35, u36⟩
def Q12_63 (Z : State) (a1 : Addr) (a2 : Addr) (p5 : Int32) (p6 : Int32) (p7 : Int32) (k8 : ClassId) (p12 : Int32) (h0 : Heap) (n0 : Nat) (v : Option Value) (h : Heap) (L : List Loc) : Prop := (v = some (.int 3) ∧ Fr n0 L ∧ h = h0)
theorem rm12_63 (l : Launch) (Z : State) (a0 : Array Value) (hw : own_HW Z a0) (a1 : Addr) (a2 : Addr) (p5 : Int32) (p6 : Int32) (p7 : Int32) (k8 : ClassId) (p12 : Int32) (h0 : Heap) (n0 : Nat) (O0 : Old Z n0 h0) (F3 : Fld Z h0 a1 C_0 "value" "[B" (.ref a2)) (V9 : Arv Z h0 a2 k8 .byte (3 : Int32) [(.int p5), (.int p6), (.int p7)] (.int (0 : Int32))) (E_11 : Exa Z h0 a1 C_0) (S_13 : Sta Z Z.heap C_0 "COMPACT_STRINGS" "Z" (.int p12)) (hk14 : ¬ (p12 = (0 : Int32))) (F15 : Fld Z h0 a1 C_0 "coder" "B" (.int 0)) : own_Met l Z M_9 bc12 1 (some .int) ({ frames := 1, cells := 0, slots := 0, locals := 13 } : Room) #[(.ref a1)] h0 (Q12_63 Z a1 a2 p5 p6 p7 k8 p12 h0 n0) := by
  refine own_body (L0 := #[vR a1]) (plainFor_of_name pn_2) (fun m => by first | (simp [entryFrame, mkF, argsToLocals, Value.category]; done) | rfl) fun p e s m below meth c s₁ EN hx hby hml hown hnm hret X0 hZ e0 hh pre0 fin => ?_
  have N0 := Fr.nil n0
  obtain ⟨T4, X4, e4, st4⟩ := getF X0 hx hZ hown (host := "") (Or.inl (ww32 hw)) Via.refl e0 F3 (g := (mkF m 1 #[vR a1] [(.ref a1)])) rfl rfl (hb hby d12_1)
  obtain ⟨cl10, Ar10, -, Sz10, Nn10, -, -⟩ := id V9
  obtain ⟨_, T16, L16, X16, hQ16, st16⟩ := own_cV X4 hx hZ hown (ww61 hw) (ww62 hw) (notFace_of_selects (args := #[]) (mvT hZ (ww64 hw))) (ww64 hw) (ww63 hw) (ww2 hw) (ww65 hw) E_11 (rm13_13 l Z a0 hw a1 p12 h0 n0 O0 S_13 hk14 F15) e4 pd_8 hml (hb hby d12_6) (Ls := #[vR a1]) (W := 1) (argsL := []) (rest := [(.int 3)])
  obtain ⟨rfl, u18, u19⟩ := hQ16
  have N16 := Fr.app N0 u18
  refine fin (some (.int 3)) _ _ _ _ X16 nofun (fun fs hr => pre0 _ ?_) (own_atH u19 ?_) (by decide) (by decide)
  · refine o_aloadN X0 hx hby d12_0 rfl rfl (st4 _ (X4.arraylength hx (by rw [e4]; exact Ar10.1) (State.isArrayOf_alike hZ.alike Ar10.2.1) (g := (mkF m 4 #[vR a1] [(.ref a2)])) rfl rfl (hb hby d12_4) _ ?_))
    rw [len_of Sz10 Nn10]
    refine o_aloadN X4 hx hby d12_5 rfl rfl (st16 _ (o_ishr X16 hx hby d12_9 (z := (3 : Int32)) (by decide +kernel) ?_))
    exact retI X16 hx hret (hb hby d12_10) hr
  · exact ⟨rfl, N16, rfl⟩
def Q18_67 (Z : State) (va1 : Value) (h0 : Heap) (n0 : Nat) (v : Option Value) (h : Heap) (L : List Loc) : Prop := (v = some (.int 0) ∧ Fr n0 L ∧ h = h0)
theorem rm18_67 (l : Launch) (Z : State) (a0 : Array Value) (hw : own_HW Z a0) (va1 : Value) (h0 : Heap) (n0 : Nat) (O0 : Old Z n0 h0) (ir_va1 : va1.isRef = true) : own_Met l Z M_11 bc18 3 (some .int) ({ frames := 0, cells := 0, slots := 0, locals := 0 } : Room) #[(.int 0), (.int 3), va1] h0 (Q18_67 Z va1 h0 n0) := by
  refine own_body (L0 := #[vI 0, vI 3, .val va1]) (plainFor_of_name pn_5) (fun m => by rcases ref_cases ir_va1 with h | ⟨_, h⟩ <;> subst h <;> rfl) fun p e s m below meth c s₁ EN hx hby hml hown hnm hret X0 hZ e0 hh pre0 fin => ?_
  have N0 := Fr.nil n0
  refine fin (some (.int 0)) _ _ _ _ X0 nofun (fun fs hr => pre0 _ ?_) (own_atH e0 ?_) (by decide) (by decide)
  · refine o_iloadN X0 hx hby d18_0 rfl (o_ifN X0 hx hby d18_1 (by decide +kernel) (o_iloadN X0 hx hby d18_4 rfl (o_iloadN X0 hx hby d18_5 rfl (o_icmpY X0 hx hby d18_6 (pc := 6) (pc' := 16) (by decide +kernel) (by decide) (by decide) (o_iloadN X0 hx hby d18_16 rfl ?_)))))
    exact retI X0 hx hret (hb hby d18_17) hr
  · exact ⟨rfl, N0, rfl⟩
def Q17_66 (Z : State) (va1 : Value) (h0 : Heap) (n0 : Nat) (v : Option Value) (h : Heap) (L : List Loc) : Prop := (v = none ∧ Fr n0 L ∧ h = h0)
theorem rm17_66 (l : Launch) (Z : State) (a0 : Array Value) (hw : own_HW Z a0) (va1 : Value) (h0 : Heap) (n0 : Nat) (O0 : Old Z n0 h0) (S_2 : Sta Z Z.heap C_3 "SIOOBE_FORMATTER" C_4 va1) (ir_va1 : va1.isRef = true) : own_Met l Z M_12 bc17 2 none ({ frames := 1, cells := 0, slots := 0, locals := 14 } : Room) #[(.int 0), (.int 3)] h0 (Q17_66 Z va1 h0 n0) := by
  refine own_body (L0 := #[vI 0, vI 3]) (plainFor_of_name pn_2) (fun m => by first | (simp [entryFrame, mkF, argsToLocals, Value.category]; done) | rfl) fun p e s m below meth c s₁ EN hx hby hml hown hnm hret X0 hZ e0 hh pre0 fin => ?_
  have N0 := Fr.nil n0
  obtain ⟨T3, X3, e3, st3⟩ := getS2 X0 hx hZ hown (host := "") (Or.inl (ww83 hw)) Via.refl e0 (Sta.ext O0.2 S_2) (g := (mkF m 2 #[vI 0, vI 3] [(.int 3), (.int 0)])) rfl (hb hby d17_2)
  obtain ⟨_, T4, L4, X4, hQ4, st4⟩ := own_cS X3 hx hZ hown (ww85 hw) (ww86 hw) (ww84 hw) (ww87 hw) (rm18_67 l Z a0 hw va1 h0 n0 O0 ir_va1) e3 pd_11 hml (hb hby d17_5) (Ls := #[vI 0, vI 3]) (W := 0) (argsL := [(.int 0), (.int 3), va1]) (rest := [])
  obtain ⟨rfl, u6, u7⟩ := hQ4
  have N4 := Fr.app N0 u6
  refine fin none _ _ _ _ X4 (fun _ => rfl) (fun fs hr => pre0 _ ?_) (own_atH u7 ?_) (by decide) (by decide)
  · refine o_iloadN X0 hx hby d17_0 rfl (o_iloadN X0 hx hby d17_1 rfl (st3 _ (st4 _ (o_pop X4 hx hby d17_8 rfl ?_))))
    exact X4.returnOut hx hret (hb hby d17_9) hr
  · exact ⟨rfl, N4, rfl⟩
def Q16_65 (Z : State) (a1 : Addr) (p2 : Int32) (p3 : Int32) (p4 : Int32) (k5 : ClassId) (va8 : Value) (h0 : Heap) (n0 : Nat) (v : Option Value) (h : Heap) (L : List Loc) : Prop := (∃ (i15 : Int32), i15 = (p2 &&& (255 : Int32)) ∧ v = some (.int i15) ∧ Fr n0 L ∧ h = h0)
theorem rm16_65 (l : Launch) (Z : State) (a0 : Array Value) (hw : own_HW Z a0) (a1 : Addr) (p2 : Int32) (p3 : Int32) (p4 : Int32) (k5 : ClassId) (va8 : Value) (h0 : Heap) (n0 : Nat) (O0 : Old Z n0 h0) (V6 : Arv Z h0 a1 k5 .byte (3 : Int32) [(.int p2), (.int p3), (.int p4)] (.int (0 : Int32))) (S_9 : Sta Z Z.heap C_3 "SIOOBE_FORMATTER" C_4 va8) (ir_va8 : va8.isRef = true) : own_Met l Z M_13 bc16 2 (some .char) ({ frames := 2, cells := 0, slots := 0, locals := 27 } : Room) #[(.ref a1), (.int 0)] h0 (Q16_65 Z a1 p2 p3 p4 k5 va8 h0 n0) := by
  refine own_body (L0 := #[vR a1, vI 0]) (plainFor_of_name pn_6) (fun m => by first | (simp [entryFrame, mkF, argsToLocals, Value.category]; done) | rfl) fun p e s m below meth c s₁ EN hx hby hml hown hnm hret X0 hZ e0 hh pre0 fin => ?_
  have N0 := Fr.nil n0
  obtain ⟨cl7, Ar7, -, Sz7, Nn7, -, -⟩ := id V6
  obtain ⟨_, T10, L10, X10, hQ10, st10⟩ := own_cS X0 hx hZ hown (ww80 hw) (ww81 hw) (ww2 hw) (ww82 hw) (rm17_66 l Z a0 hw va8 h0 n0 O0 S_9 ir_va8) e0 pd_12 hml (hb hby d16_3) (Ls := #[vR a1, vI 0]) (W := 0) (argsL := [(.int 0), (.int 3)]) (rest := [])
  obtain ⟨rfl, u12, u13⟩ := hQ10
  have N10 := Fr.app N0 u12
  obtain ⟨cl14, Ar14, -, Sz14, -, Hh14, -⟩ := id V6
  have hin14 : ¬ ((0 : Int32) < 0 ∨ cl14.slots.size ≤ ((0 : Int32)).toNatClampNeg) := inb_of Sz14 ⟨by decide +kernel, by decide +kernel⟩
  have hat14 : cl14.slots[((0 : Int32)).toNatClampNeg]? = some (.int p2) := Has.at Hh14 hin14 rfl
  obtain ⟨i15, hi15⟩ : ∃ z, z = (p2 &&& (255 : Int32)) := ⟨_, rfl⟩
  refine fin (some (.int i15)) _ _ _ _ X10 nofun (fun fs hr => pre0 _ ?_) (own_atH u13 ?_) (by decide) (by decide)
  · refine o_iloadN X0 hx hby d16_0 rfl (o_aloadN X0 hx hby d16_1 rfl rfl (X0.arraylength hx (by rw [e0]; exact Ar7.1) (State.isArrayOf_alike hZ.alike Ar7.2.1) (g := (mkF m 2 #[vR a1, vI 0] [(.ref a1), (.int 0)])) rfl rfl (hb hby d16_2) _ ?_))
    rw [len_of Sz7 Nn7]
    refine st10 _ (o_aloadN X10 hx hby d16_6 rfl rfl (o_iloadN X10 hx hby d16_7 rfl (X10.baloadBytes hx (j := (0 : Int32)) (v := (.int p2)) (by rw [u13]; exact Ar14.1) (State.isArrayOf_alike hZ.alike Ar14.2.1) Ar14.2.2 hin14 hat14 (g := (mkF m 8 #[vR a1, vI 0] [(.int 0), (.ref a1)])) rfl rfl (hb hby d16_8) _ (o_sipush X10 hx hby d16_9 (x := 255) rfl (o_iand X10 hx hby d16_12 (z := i15) hi15.symm (o_i2c X10 hx hby d16_13 (z := i15) (own_i2c255 hi15) ?_))))))
    exact retN X10 hx (t := .char) hret (by simp) (hb hby d16_14) (by rw [(own_nar255 hi15)]; exact hr)
  · exact ⟨i15, hi15, rfl, N10, rfl⟩
def Q14_64 (Z : State) (a1 : Addr) (p3 : Int32) (a11 : Addr) (p14 : Int32) (p15 : Int32) (p16 : Int32) (k17 : ClassId) (va19 : Value) (h0 : Heap) (n0 : Nat) (v : Option Value) (h : Heap) (L : List Loc) : Prop := (∃ (i22 : Int32), i22 = (p14 &&& (255 : Int32)) ∧ v = some (.int i22) ∧ Fr n0 L ∧ h = h0)
theorem rm14_64 (l : Launch) (Z : State) (a0 : Array Value) (hw : own_HW Z a0) (a1 : Addr) (p3 : Int32) (a11 : Addr) (p14 : Int32) (p15 : Int32) (p16 : Int32) (k17 : ClassId) (va19 : Value) (h0 : Heap) (n0 : Nat) (O0 : Old Z n0 h0) (E_2 : Exa Z h0 a1 C_0) (S_4 : Sta Z Z.heap C_0 "COMPACT_STRINGS" "Z" (.int p3)) (hk5 : ¬ (p3 = (0 : Int32))) (F6 : Fld Z h0 a1 C_0 "coder" "B" (.int 0)) (F12 : Fld Z h0 a1 C_0 "value" "[B" (.ref a11)) (V18 : Arv Z h0 a11 k17 .byte (3 : Int32) [(.int p14), (.int p15), (.int p16)] (.int (0 : Int32))) (S_20 : Sta Z Z.heap C_3 "SIOOBE_FORMATTER" C_4 va19) (ir_va19 : va19.isRef = true) : own_Met l Z M_14 bc14 2 (some .char) ({ frames := 3, cells := 0, slots := 0, locals := 40 } : Room) #[(.ref a1), (.int 0)] h0 (Q14_64 Z a1 p3 a11 p14 p15 p16 k17 va19 h0 n0) := by
  refine own_body (L0 := #[vR a1, vI 0]) (plainFor_of_name pn_2) (fun m => by first | (simp [entryFrame, mkF, argsToLocals, Value.category]; done) | rfl) fun p e s m below meth c s₁ EN hx hby hml hown hnm hret X0 hZ e0 hh pre0 fin => ?_
  have N0 := Fr.nil n0
  obtain ⟨_, T7, L7, X7, hQ7, st7⟩ := own_cV X0 hx hZ hown (ww71 hw) (ww72 hw) (notFace_of_selects (args := #[]) (mvT hZ (ww74 hw))) (ww74 hw) (ww73 hw) (ww2 hw) (ww75 hw) E_2 (rm15_15 l Z a0 hw a1 p3 h0 n0 O0 S_4 hk5 F6) e0 pd_10 hml (hb hby d14_1) (Ls := #[vR a1, vI 0]) (W := 0) (argsL := []) (rest := [])
  obtain ⟨rfl, u9, u10⟩ := hQ7
  have N7 := Fr.app N0 u9
  obtain ⟨T13, X13, e13, st13⟩ := getF X7 hx hZ hown (host := "") (Or.inl (ww32 hw)) Via.refl u10 F12 (g := (mkF m 8 #[vR a1, vI 0] [(.ref a1)])) rfl rfl (hb hby d14_8)
  obtain ⟨_, T21, L21, X21, hQ21, st21⟩ := own_cS X13 hx hZ hown (ww76 hw) (ww77 hw) (ww78 hw) (ww79 hw) (rm16_65 l Z a0 hw a11 p14 p15 p16 k17 va19 h0 n0 O0 V18 S_20 ir_va19) e13 pd_13 hml (hb hby d14_12) (Ls := #[vR a1, vI 0]) (W := 0) (argsL := [(.ref a11), (.int 0)]) (rest := [])
  obtain ⟨i22, u23, rfl, u25, u26⟩ := hQ21
  have N21 := Fr.app N7 u25
  refine fin (some (.int i22)) _ _ _ _ X21 nofun (fun fs hr => pre0 _ ?_) (own_atH u26 ?_) (by decide) (by decide)
  · refine o_aloadN X0 hx hby d14_0 rfl rfl (st7 _ (o_ifN X7 hx hby d14_4 (by decide +kernel) (o_aloadN X7 hx hby d14_7 rfl rfl (st13 _ (o_iloadN X13 hx hby d14_11 rfl (st21 _ ?_))))))
    exact retN X21 hx (t := .char) hret (by simp) (hb hby d14_15) (by rw [(own_nar255 u23)]; exact hr)
  · exact ⟨i22, u23, rfl, N21, rfl⟩
def Q18_71 (Z : State) (va1 : Value) (h0 : Heap) (n0 : Nat) (v : Option Value) (h : Heap) (L : List Loc) : Prop := (v = some (.int 1) ∧ Fr n0 L ∧ h = h0)
theorem rm18_71 (l : Launch) (Z : State) (a0 : Array Value) (hw : own_HW Z a0) (va1 : Value) (h0 : Heap) (n0 : Nat) (O0 : Old Z n0 h0) (ir_va1 : va1.isRef = true) : own_Met l Z M_11 bc18 3 (some .int) ({ frames := 0, cells := 0, slots := 0, locals := 0 } : Room) #[(.int 1), (.int 3), va1] h0 (Q18_71 Z va1 h0 n0) := by
  refine own_body (L0 := #[vI 1, vI 3, .val va1]) (plainFor_of_name pn_5) (fun m => by rcases ref_cases ir_va1 with h | ⟨_, h⟩ <;> subst h <;> rfl) fun p e s m below meth c s₁ EN hx hby hml hown hnm hret X0 hZ e0 hh pre0 fin => ?_
  have N0 := Fr.nil n0
  refine fin (some (.int 1)) _ _ _ _ X0 nofun (fun fs hr => pre0 _ ?_) (own_atH e0 ?_) (by decide) (by decide)
  · refine o_iloadN X0 hx hby d18_0 rfl (o_ifN X0 hx hby d18_1 (by decide +kernel) (o_iloadN X0 hx hby d18_4 rfl (o_iloadN X0 hx hby d18_5 rfl (o_icmpY X0 hx hby d18_6 (pc := 6) (pc' := 16) (by decide +kernel) (by decide) (by decide) (o_iloadN X0 hx hby d18_16 rfl ?_)))))
    exact retI X0 hx hret (hb hby d18_17) hr
  · exact ⟨rfl, N0, rfl⟩
def Q17_70 (Z : State) (va1 : Value) (h0 : Heap) (n0 : Nat) (v : Option Value) (h : Heap) (L : List Loc) : Prop := (v = none ∧ Fr n0 L ∧ h = h0)
theorem rm17_70 (l : Launch) (Z : State) (a0 : Array Value) (hw : own_HW Z a0) (va1 : Value) (h0 : Heap) (n0 : Nat) (O0 : Old Z n0 h0) (S_2 : Sta Z Z.heap C_3 "SIOOBE_FORMATTER" C_4 va1) (ir_va1 : va1.isRef = true) : own_Met l Z M_12 bc17 2 none ({ frames := 1, cells := 0, slots := 0, locals := 14 } : Room) #[(.int 1), (.int 3)] h0 (Q17_70 Z va1 h0 n0) := by
  refine own_body (L0 := #[vI 1, vI 3]) (plainFor_of_name pn_2) (fun m => by first | (simp [entryFrame, mkF, argsToLocals, Value.category]; done) | rfl) fun p e s m below meth c s₁ EN hx hby hml hown hnm hret X0 hZ e0 hh pre0 fin => ?_
  have N0 := Fr.nil n0
  obtain ⟨T3, X3, e3, st3⟩ := getS2 X0 hx hZ hown (host := "") (Or.inl (ww83 hw)) Via.refl e0 (Sta.ext O0.2 S_2) (g := (mkF m 2 #[vI 1, vI 3] [(.int 3), (.int 1)])) rfl (hb hby d17_2)
  obtain ⟨_, T4, L4, X4, hQ4, st4⟩ := own_cS X3 hx hZ hown (ww85 hw) (ww86 hw) (ww84 hw) (ww87 hw) (rm18_71 l Z a0 hw va1 h0 n0 O0 ir_va1) e3 pd_11 hml (hb hby d17_5) (Ls := #[vI 1, vI 3]) (W := 0) (argsL := [(.int 1), (.int 3), va1]) (rest := [])
  obtain ⟨rfl, u6, u7⟩ := hQ4
  have N4 := Fr.app N0 u6
  refine fin none _ _ _ _ X4 (fun _ => rfl) (fun fs hr => pre0 _ ?_) (own_atH u7 ?_) (by decide) (by decide)
  · refine o_iloadN X0 hx hby d17_0 rfl (o_iloadN X0 hx hby d17_1 rfl (st3 _ (st4 _ (o_pop X4 hx hby d17_8 rfl ?_))))
    exact X4.returnOut hx hret (hb hby d17_9) hr
  · exact ⟨rfl, N4, rfl⟩
def Q16_69 (Z : State) (a1 : Addr) (p2 : Int32) (p3 : Int32) (p4 : Int32) (k5 : ClassId) (va8 : Value) (h0 : Heap) (n0 : Nat) (v : Option Value) (h : Heap) (L : List Loc) : Prop := (∃ (i15 : Int32), i15 = (p3 &&& (255 : Int32)) ∧ v = some (.int i15) ∧ Fr n0 L ∧ h = h0)
theorem rm16_69 (l : Launch) (Z : State) (a0 : Array Value) (hw : own_HW Z a0) (a1 : Addr) (p2 : Int32) (p3 : Int32) (p4 : Int32) (k5 : ClassId) (va8 : Value) (h0 : Heap) (n0 : Nat) (O0 : Old Z n0 h0) (V6 : Arv Z h0 a1 k5 .byte (3 : Int32) [(.int p2), (.int p3), (.int p4)] (.int (0 : Int32))) (S_9 : Sta Z Z.heap C_3 "SIOOBE_FORMATTER" C_4 va8) (ir_va8 : va8.isRef = true) : own_Met l Z M_13 bc16 2 (some .char) ({ frames := 2, cells := 0, slots := 0, locals := 27 } : Room) #[(.ref a1), (.int 1)] h0 (Q16_69 Z a1 p2 p3 p4 k5 va8 h0 n0) := by
  refine own_body (L0 := #[vR a1, vI 1]) (plainFor_of_name pn_6) (fun m => by first | (simp [entryFrame, mkF, argsToLocals, Value.category]; done) | rfl) fun p e s m below meth c s₁ EN hx hby hml hown hnm hret X0 hZ e0 hh pre0 fin => ?_
  have N0 := Fr.nil n0
  obtain ⟨cl7, Ar7, -, Sz7, Nn7, -, -⟩ := id V6
  obtain ⟨_, T10, L10, X10, hQ10, st10⟩ := own_cS X0 hx hZ hown (ww80 hw) (ww81 hw) (ww2 hw) (ww82 hw) (rm17_70 l Z a0 hw va8 h0 n0 O0 S_9 ir_va8) e0 pd_12 hml (hb hby d16_3) (Ls := #[vR a1, vI 1]) (W := 0) (argsL := [(.int 1), (.int 3)]) (rest := [])
  obtain ⟨rfl, u12, u13⟩ := hQ10
  have N10 := Fr.app N0 u12
  obtain ⟨cl14, Ar14, -, Sz14, -, Hh14, -⟩ := id V6
  have hin14 : ¬ ((1 : Int32) < 0 ∨ cl14.slots.size ≤ ((1 : Int32)).toNatClampNeg) := inb_of Sz14 ⟨by decide +kernel, by decide +kernel⟩
  have hat14 : cl14.slots[((1 : Int32)).toNatClampNeg]? = some (.int p3) := Has.at Hh14 hin14 rfl
  obtain ⟨i15, hi15⟩ : ∃ z, z = (p3 &&& (255 : Int32)) := ⟨_, rfl⟩
  refine fin (some (.int i15)) _ _ _ _ X10 nofun (fun fs hr => pre0 _ ?_) (own_atH u13 ?_) (by decide) (by decide)
  · refine o_iloadN X0 hx hby d16_0 rfl (o_aloadN X0 hx hby d16_1 rfl rfl (X0.arraylength hx (by rw [e0]; exact Ar7.1) (State.isArrayOf_alike hZ.alike Ar7.2.1) (g := (mkF m 2 #[vR a1, vI 1] [(.ref a1), (.int 1)])) rfl rfl (hb hby d16_2) _ ?_))
    rw [len_of Sz7 Nn7]
    refine st10 _ (o_aloadN X10 hx hby d16_6 rfl rfl (o_iloadN X10 hx hby d16_7 rfl (X10.baloadBytes hx (j := (1 : Int32)) (v := (.int p3)) (by rw [u13]; exact Ar14.1) (State.isArrayOf_alike hZ.alike Ar14.2.1) Ar14.2.2 hin14 hat14 (g := (mkF m 8 #[vR a1, vI 1] [(.int 1), (.ref a1)])) rfl rfl (hb hby d16_8) _ (o_sipush X10 hx hby d16_9 (x := 255) rfl (o_iand X10 hx hby d16_12 (z := i15) hi15.symm (o_i2c X10 hx hby d16_13 (z := i15) (own_i2c255 hi15) ?_))))))
    exact retN X10 hx (t := .char) hret (by simp) (hb hby d16_14) (by rw [(own_nar255 hi15)]; exact hr)
  · exact ⟨i15, hi15, rfl, N10, rfl⟩
def Q14_68 (Z : State) (a1 : Addr) (p3 : Int32) (a11 : Addr) (p14 : Int32) (p15 : Int32) (p16 : Int32) (k17 : ClassId) (va19 : Value) (h0 : Heap) (n0 : Nat) (v : Option Value) (h : Heap) (L : List Loc) : Prop := (∃ (i22 : Int32), i22 = (p15 &&& (255 : Int32)) ∧ v = some (.int i22) ∧ Fr n0 L ∧ h = h0)
theorem rm14_68 (l : Launch) (Z : State) (a0 : Array Value) (hw : own_HW Z a0) (a1 : Addr) (p3 : Int32) (a11 : Addr) (p14 : Int32) (p15 : Int32) (p16 : Int32) (k17 : ClassId) (va19 : Value) (h0 : Heap) (n0 : Nat) (O0 : Old Z n0 h0) (E_2 : Exa Z h0 a1 C_0) (S_4 : Sta Z Z.heap C_0 "COMPACT_STRINGS" "Z" (.int p3)) (hk5 : ¬ (p3 = (0 : Int32))) (F6 : Fld Z h0 a1 C_0 "coder" "B" (.int 0)) (F12 : Fld Z h0 a1 C_0 "value" "[B" (.ref a11)) (V18 : Arv Z h0 a11 k17 .byte (3 : Int32) [(.int p14), (.int p15), (.int p16)] (.int (0 : Int32))) (S_20 : Sta Z Z.heap C_3 "SIOOBE_FORMATTER" C_4 va19) (ir_va19 : va19.isRef = true) : own_Met l Z M_14 bc14 2 (some .char) ({ frames := 3, cells := 0, slots := 0, locals := 40 } : Room) #[(.ref a1), (.int 1)] h0 (Q14_68 Z a1 p3 a11 p14 p15 p16 k17 va19 h0 n0) := by
  refine own_body (L0 := #[vR a1, vI 1]) (plainFor_of_name pn_2) (fun m => by first | (simp [entryFrame, mkF, argsToLocals, Value.category]; done) | rfl) fun p e s m below meth c s₁ EN hx hby hml hown hnm hret X0 hZ e0 hh pre0 fin => ?_
  have N0 := Fr.nil n0
  obtain ⟨_, T7, L7, X7, hQ7, st7⟩ := own_cV X0 hx hZ hown (ww71 hw) (ww72 hw) (notFace_of_selects (args := #[]) (mvT hZ (ww74 hw))) (ww74 hw) (ww73 hw) (ww2 hw) (ww75 hw) E_2 (rm15_15 l Z a0 hw a1 p3 h0 n0 O0 S_4 hk5 F6) e0 pd_10 hml (hb hby d14_1) (Ls := #[vR a1, vI 1]) (W := 0) (argsL := []) (rest := [])
  obtain ⟨rfl, u9, u10⟩ := hQ7
  have N7 := Fr.app N0 u9
  obtain ⟨T13, X13, e13, st13⟩ := getF X7 hx hZ hown (host := "") (Or.inl (ww32 hw)) Via.refl u10 F12 (g := (mkF m 8 #[vR a1, vI 1] [(.ref a1)])) rfl rfl (hb hby d14_8)
  obtain ⟨_, T21, L21, X21, hQ21, st21⟩ := own_cS X13 hx hZ hown (ww76 hw) (ww77 hw) (ww78 hw) (ww79 hw) (rm16_69 l Z a0 hw a11 p14 p15 p16 k17 va19 h0 n0 O0 V18 S_20 ir_va19) e13 pd_13 hml (hb hby d14_12) (Ls := #[vR a1, vI 1]) (W := 0) (argsL := [(.ref a11), (.int 1)]) (rest := [])
  obtain ⟨i22, u23, rfl, u25, u26⟩ := hQ21
  have N21 := Fr.app N7 u25
  refine fin (some (.int i22)) _ _ _ _ X21 nofun (fun fs hr => pre0 _ ?_) (own_atH u26 ?_) (by decide) (by decide)
  · refine o_aloadN X0 hx hby d14_0 rfl rfl (st7 _ (o_ifN X7 hx hby d14_4 (by decide +kernel) (o_aloadN X7 hx hby d14_7 rfl rfl (st13 _ (o_iloadN X13 hx hby d14_11 rfl (st21 _ ?_))))))
    exact retN X21 hx (t := .char) hret (by simp) (hb hby d14_15) (by rw [(own_nar255 u23)]; exact hr)
  · exact ⟨i22, u23, rfl, N21, rfl⟩
def Q18_75 (Z : State) (va1 : Value) (h0 : Heap) (n0 : Nat) (v : Option Value) (h : Heap) (L : List Loc) : Prop := (v = some (.int 2) ∧ Fr n0 L ∧ h = h0)
theorem rm18_75 (l : Launch) (Z : State) (a0 : Array Value) (hw : own_HW Z a0) (va1 : Value) (h0 : Heap) (n0 : Nat) (O0 : Old Z n0 h0) (ir_va1 : va1.isRef = true) : own_Met l Z M_11 bc18 3 (some .int) ({ frames := 0, cells := 0, slots := 0, locals := 0 } : Room) #[(.int 2), (.int 3), va1] h0 (Q18_75 Z va1 h0 n0) := by
  refine own_body (L0 := #[vI 2, vI 3, .val va1]) (plainFor_of_name pn_5) (fun m => by rcases ref_cases ir_va1 with h | ⟨_, h⟩ <;> subst h <;> rfl) fun p e s m below meth c s₁ EN hx hby hml hown hnm hret X0 hZ e0 hh pre0 fin => ?_
  have N0 := Fr.nil n0
  refine fin (some (.int 2)) _ _ _ _ X0 nofun (fun fs hr => pre0 _ ?_) (own_atH e0 ?_) (by decide) (by decide)
  · refine o_iloadN X0 hx hby d18_0 rfl (o_ifN X0 hx hby d18_1 (by decide +kernel) (o_iloadN X0 hx hby d18_4 rfl (o_iloadN X0 hx hby d18_5 rfl (o_icmpY X0 hx hby d18_6 (pc := 6) (pc' := 16) (by decide +kernel) (by decide) (by decide) (o_iloadN X0 hx hby d18_16 rfl ?_)))))
    exact retI X0 hx hret (hb hby d18_17) hr
  · exact ⟨rfl, N0, rfl⟩
def Q17_74 (Z : State) (va1 : Value) (h0 : Heap) (n0 : Nat) (v : Option Value) (h : Heap) (L : List Loc) : Prop := (v = none ∧ Fr n0 L ∧ h = h0)
theorem rm17_74 (l : Launch) (Z : State) (a0 : Array Value) (hw : own_HW Z a0) (va1 : Value) (h0 : Heap) (n0 : Nat) (O0 : Old Z n0 h0) (S_2 : Sta Z Z.heap C_3 "SIOOBE_FORMATTER" C_4 va1) (ir_va1 : va1.isRef = true) : own_Met l Z M_12 bc17 2 none ({ frames := 1, cells := 0, slots := 0, locals := 14 } : Room) #[(.int 2), (.int 3)] h0 (Q17_74 Z va1 h0 n0) := by
  refine own_body (L0 := #[vI 2, vI 3]) (plainFor_of_name pn_2) (fun m => by first | (simp [entryFrame, mkF, argsToLocals, Value.category]; done) | rfl) fun p e s m below meth c s₁ EN hx hby hml hown hnm hret X0 hZ e0 hh pre0 fin => ?_
  have N0 := Fr.nil n0
  obtain ⟨T3, X3, e3, st3⟩ := getS2 X0 hx hZ hown (host := "") (Or.inl (ww83 hw)) Via.refl e0 (Sta.ext O0.2 S_2) (g := (mkF m 2 #[vI 2, vI 3] [(.int 3), (.int 2)])) rfl (hb hby d17_2)
  obtain ⟨_, T4, L4, X4, hQ4, st4⟩ := own_cS X3 hx hZ hown (ww85 hw) (ww86 hw) (ww84 hw) (ww87 hw) (rm18_75 l Z a0 hw va1 h0 n0 O0 ir_va1) e3 pd_11 hml (hb hby d17_5) (Ls := #[vI 2, vI 3]) (W := 0) (argsL := [(.int 2), (.int 3), va1]) (rest := [])
  obtain ⟨rfl, u6, u7⟩ := hQ4
  have N4 := Fr.app N0 u6
  refine fin none _ _ _ _ X4 (fun _ => rfl) (fun fs hr => pre0 _ ?_) (own_atH u7 ?_) (by decide) (by decide)
  · refine o_iloadN X0 hx hby d17_0 rfl (o_iloadN X0 hx hby d17_1 rfl (st3 _ (st4 _ (o_pop X4 hx hby d17_8 rfl ?_))))
    exact X4.returnOut hx hret (hb hby d17_9) hr
  · exact ⟨rfl, N4, rfl⟩
def Q16_73 (Z : State) (a1 : Addr) (p2 : Int32) (p3 : Int32) (p4 : Int32) (k5 : ClassId) (va8 : Value) (h0 : Heap) (n0 : Nat) (v : Option Value) (h : Heap) (L : List Loc) : Prop := (∃ (i15 : Int32), i15 = (p4 &&& (255 : Int32)) ∧ v = some (.int i15) ∧ Fr n0 L ∧ h = h0)
theorem rm16_73 (l : Launch) (Z : State) (a0 : Array Value) (hw : own_HW Z a0) (a1 : Addr) (p2 : Int32) (p3 : Int32) (p4 : Int32) (k5 : ClassId) (va8 : Value) (h0 : Heap) (n0 : Nat) (O0 : Old Z n0 h0) (V6 : Arv Z h0 a1 k5 .byte (3 : Int32) [(.int p2), (.int p3), (.int p4)] (.int (0 : Int32))) (S_9 : Sta Z Z.heap C_3 "SIOOBE_FORMATTER" C_4 va8) (ir_va8 : va8.isRef = true) : own_Met l Z M_13 bc16 2 (some .char) ({ frames := 2, cells := 0, slots := 0, locals := 27 } : Room) #[(.ref a1), (.int 2)] h0 (Q16_73 Z a1 p2 p3 p4 k5 va8 h0 n0) := by
  refine own_body (L0 := #[vR a1, vI 2]) (plainFor_of_name pn_6) (fun m => by first | (simp [entryFrame, mkF, argsToLocals, Value.category]; done) | rfl) fun p e s m below meth c s₁ EN hx hby hml hown hnm hret X0 hZ e0 hh pre0 fin => ?_
  have N0 := Fr.nil n0
  obtain ⟨cl7, Ar7, -, Sz7, Nn7, -, -⟩ := id V6
  obtain ⟨_, T10, L10, X10, hQ10, st10⟩ := own_cS X0 hx hZ hown (ww80 hw) (ww81 hw) (ww2 hw) (ww82 hw) (rm17_74 l Z a0 hw va8 h0 n0 O0 S_9 ir_va8) e0 pd_12 hml (hb hby d16_3) (Ls := #[vR a1, vI 2]) (W := 0) (argsL := [(.int 2), (.int 3)]) (rest := [])
  obtain ⟨rfl, u12, u13⟩ := hQ10
  have N10 := Fr.app N0 u12
  obtain ⟨cl14, Ar14, -, Sz14, -, Hh14, -⟩ := id V6
  have hin14 : ¬ ((2 : Int32) < 0 ∨ cl14.slots.size ≤ ((2 : Int32)).toNatClampNeg) := inb_of Sz14 ⟨by decide +kernel, by decide +kernel⟩
  have hat14 : cl14.slots[((2 : Int32)).toNatClampNeg]? = some (.int p4) := Has.at Hh14 hin14 rfl
  obtain ⟨i15, hi15⟩ : ∃ z, z = (p4 &&& (255 : Int32)) := ⟨_, rfl⟩
  refine fin (some (.int i15)) _ _ _ _ X10 nofun (fun fs hr => pre0 _ ?_) (own_atH u13 ?_) (by decide) (by decide)
  · refine o_iloadN X0 hx hby d16_0 rfl (o_aloadN X0 hx hby d16_1 rfl rfl (X0.arraylength hx (by rw [e0]; exact Ar7.1) (State.isArrayOf_alike hZ.alike Ar7.2.1) (g := (mkF m 2 #[vR a1, vI 2] [(.ref a1), (.int 2)])) rfl rfl (hb hby d16_2) _ ?_))
    rw [len_of Sz7 Nn7]
    refine st10 _ (o_aloadN X10 hx hby d16_6 rfl rfl (o_iloadN X10 hx hby d16_7 rfl (X10.baloadBytes hx (j := (2 : Int32)) (v := (.int p4)) (by rw [u13]; exact Ar14.1) (State.isArrayOf_alike hZ.alike Ar14.2.1) Ar14.2.2 hin14 hat14 (g := (mkF m 8 #[vR a1, vI 2] [(.int 2), (.ref a1)])) rfl rfl (hb hby d16_8) _ (o_sipush X10 hx hby d16_9 (x := 255) rfl (o_iand X10 hx hby d16_12 (z := i15) hi15.symm (o_i2c X10 hx hby d16_13 (z := i15) (own_i2c255 hi15) ?_))))))
    exact retN X10 hx (t := .char) hret (by simp) (hb hby d16_14) (by rw [(own_nar255 hi15)]; exact hr)
  · exact ⟨i15, hi15, rfl, N10, rfl⟩
def Q14_72 (Z : State) (a1 : Addr) (p3 : Int32) (a11 : Addr) (p14 : Int32) (p15 : Int32) (p16 : Int32) (k17 : ClassId) (va19 : Value) (h0 : Heap) (n0 : Nat) (v : Option Value) (h : Heap) (L : List Loc) : Prop := (∃ (i22 : Int32), i22 = (p16 &&& (255 : Int32)) ∧ v = some (.int i22) ∧ Fr n0 L ∧ h = h0)
theorem rm14_72 (l : Launch) (Z : State) (a0 : Array Value) (hw : own_HW Z a0) (a1 : Addr) (p3 : Int32) (a11 : Addr) (p14 : Int32) (p15 : Int32) (p16 : Int32) (k17 : ClassId) (va19 : Value) (h0 : Heap) (n0 : Nat) (O0 : Old Z n0 h0) (E_2 : Exa Z h0 a1 C_0) (S_4 : Sta Z Z.heap C_0 "COMPACT_STRINGS" "Z" (.int p3)) (hk5 : ¬ (p3 = (0 : Int32))) (F6 : Fld Z h0 a1 C_0 "coder" "B" (.int 0)) (F12 : Fld Z h0 a1 C_0 "value" "[B" (.ref a11)) (V18 : Arv Z h0 a11 k17 .byte (3 : Int32) [(.int p14), (.int p15), (.int p16)] (.int (0 : Int32))) (S_20 : Sta Z Z.heap C_3 "SIOOBE_FORMATTER" C_4 va19) (ir_va19 : va19.isRef = true) : own_Met l Z M_14 bc14 2 (some .char) ({ frames := 3, cells := 0, slots := 0, locals := 40 } : Room) #[(.ref a1), (.int 2)] h0 (Q14_72 Z a1 p3 a11 p14 p15 p16 k17 va19 h0 n0) := by
  refine own_body (L0 := #[vR a1, vI 2]) (plainFor_of_name pn_2) (fun m => by first | (simp [entryFrame, mkF, argsToLocals, Value.category]; done) | rfl) fun p e s m below meth c s₁ EN hx hby hml hown hnm hret X0 hZ e0 hh pre0 fin => ?_
  have N0 := Fr.nil n0
  obtain ⟨_, T7, L7, X7, hQ7, st7⟩ := own_cV X0 hx hZ hown (ww71 hw) (ww72 hw) (notFace_of_selects (args := #[]) (mvT hZ (ww74 hw))) (ww74 hw) (ww73 hw) (ww2 hw) (ww75 hw) E_2 (rm15_15 l Z a0 hw a1 p3 h0 n0 O0 S_4 hk5 F6) e0 pd_10 hml (hb hby d14_1) (Ls := #[vR a1, vI 2]) (W := 0) (argsL := []) (rest := [])
  obtain ⟨rfl, u9, u10⟩ := hQ7
  have N7 := Fr.app N0 u9
  obtain ⟨T13, X13, e13, st13⟩ := getF X7 hx hZ hown (host := "") (Or.inl (ww32 hw)) Via.refl u10 F12 (g := (mkF m 8 #[vR a1, vI 2] [(.ref a1)])) rfl rfl (hb hby d14_8)
  obtain ⟨_, T21, L21, X21, hQ21, st21⟩ := own_cS X13 hx hZ hown (ww76 hw) (ww77 hw) (ww78 hw) (ww79 hw) (rm16_73 l Z a0 hw a11 p14 p15 p16 k17 va19 h0 n0 O0 V18 S_20 ir_va19) e13 pd_13 hml (hb hby d14_12) (Ls := #[vR a1, vI 2]) (W := 0) (argsL := [(.ref a11), (.int 2)]) (rest := [])
  obtain ⟨i22, u23, rfl, u25, u26⟩ := hQ21
  have N21 := Fr.app N7 u25
  refine fin (some (.int i22)) _ _ _ _ X21 nofun (fun fs hr => pre0 _ ?_) (own_atH u26 ?_) (by decide) (by decide)
  · refine o_aloadN X0 hx hby d14_0 rfl rfl (st7 _ (o_ifN X7 hx hby d14_4 (by decide +kernel) (o_aloadN X7 hx hby d14_7 rfl rfl (st13 _ (o_iloadN X13 hx hby d14_11 rfl (st21 _ ?_))))))
    exact retN X21 hx (t := .char) hret (by simp) (hb hby d14_15) (by rw [(own_nar255 u23)]; exact hr)
  · exact ⟨i22, u23, rfl, N21, rfl⟩
def Q11_62 (Z : State) (a1 : Addr) (a3 : Addr) (p5 : Int32) (p6 : Int32) (p7 : Int32) (k8 : ClassId) (p10 : Int32) (va18 : Value) (h0 : Heap) (n0 : Nat) (v : Option Value) (h : Heap) (L : List Loc) : Prop := (∃ (i21 : Int32) (i33 : Int32) (i45 : Int32), i21 = (p5 &&& (255 : Int32)) ∧ i33 = (p6 &&& (255 : Int32)) ∧ i45 = (p7 &&& (255 : Int32)) ∧ i21 < (128 : Int32) ∧ i33 < (128 : Int32) ∧ i45 < (128 : Int32) ∧ v = some (.int 3) ∧ Fr n0 L ∧ h = h0) ∨ (∃ (i21 : Int32) (i33 : Int32) (i45 : Int32), i21 = (p5 &&& (255 : Int32)) ∧ i33 = (p6 &&& (255 : Int32)) ∧ i45 = (p7 &&& (255 : Int32)) ∧ i21 < (128 : Int32) ∧ i33 < (128 : Int32) ∧ ¬ (i45 < (128 : Int32)) ∧ v = some (.int 4) ∧ Fr n0 L ∧ h = h0) ∨ (∃ (i21 : Int32) (i33 : Int32) (i65 : Int32), i21 = (p5 &&& (255 : Int32)) ∧ i33 = (p6 &&& (255 : Int32)) ∧ i65 = (p7 &&& (255 : Int32)) ∧ i21 < (128 : Int32) ∧ ¬ (i33 < (128 : Int32)) ∧ i65 < (128 : Int32) ∧ v = some (.int 4) ∧ Fr n0 L ∧ h = h0) ∨ (∃ (i21 : Int32) (i33 : Int32) (i65 : Int32), i21 = (p5 &&& (255 : Int32)) ∧ i33 = (p6 &&& (255 : Int32)) ∧ i65 = (p7 &&& (255 : Int32)) ∧ i21 < (128 : Int32) ∧ ¬ (i33 < (128 : Int32)) ∧ ¬ (i65 < (128 : Int32)) ∧ v = some (.int 5) ∧ Fr n0 L ∧ h = h0) ∨ (∃ (i21 : Int32) (i85 : Int32) (i97 : Int32), i21 = (p5 &&& (255 : Int32)) ∧ i85 = (p6 &&& (255 : Int32)) ∧ i97 = (p7 &&& (255 : Int32)) ∧ ¬ (i21 < (128 : Int32)) ∧ i85 < (128 : Int32) ∧ i97 < (128 : Int32) ∧ v = some (.int 4) ∧ Fr n0 L ∧ h = h0) ∨ (∃ (i21 : Int32) (i85 : Int32) (i97 : Int32), i21 = (p5 &&& (255 : Int32)) ∧ i85 = (p6 &&& (255 : Int32)) ∧ i97 = (p7 &&& (255 : Int32)) ∧ ¬ (i21 < (128 : Int32)) ∧ i85 < (128 : Int32) ∧ ¬ (i97 < (128 : Int32)) ∧ v = some (.int 5) ∧ Fr n0 L ∧ h = h0) ∨ (∃ (i117 : Int32) (i21 : Int32) (i85 : Int32), i21 = (p5 &&& (255 : Int32)) ∧ i85 = (p6 &&& (255 : Int32)) ∧ i117 = (p7 &&& (255 : Int32)) ∧ ¬ (i21 < (128 : Int32)) ∧ ¬ (i85 < (128 : Int32)) ∧ i117 < (128 : Int32) ∧ v = some (.int 5) ∧ Fr n0 L ∧ h = h0) ∨ (∃ (i117 : Int32) (i21 : Int32) (i85 : Int32), i21 = (p5 &&& (255 : Int32)) ∧ i85 = (p6 &&& (255 : Int32)) ∧ i117 = (p7 &&& (255 : Int32)) ∧ ¬ (i21 < (128 : Int32)) ∧ ¬ (i85 < (128 : Int32)) ∧ ¬ (i117 < (128 : Int32)) ∧ v = some (.int 6) ∧ Fr n0 L ∧ h = h0)
theorem rm11_62 (l : Launch) (Z : State) (a0 : Array Value) (hw : own_HW Z a0) (a1 : Addr) (a3 : Addr) (p5 : Int32) (p6 : Int32) (p7 : Int32) (k8 : ClassId) (p10 : Int32) (va18 : Value) (h0 : Heap) (n0 : Nat) (O0 : Old Z n0 h0) (E_2 : Exa Z h0 a1 C_0) (F4 : Fld Z h0 a1 C_0 "value" "[B" (.ref a3)) (V9 : Arv Z h0 a3 k8 .byte (3 : Int32) [(.int p5), (.int p6), (.int p7)] (.int (0 : Int32))) (S_11 : Sta Z Z.heap C_0 "COMPACT_STRINGS" "Z" (.int p10)) (hk12 : ¬ (p10 = (0 : Int32))) (F13 : Fld Z h0 a1 C_0 "coder" "B" (.int 0)) (S_19 : Sta Z Z.heap C_3 "SIOOBE_FORMATTER" C_4 va18) (ir_va18 : va18.isRef = true) : own_Met l Z M_15 bc11 4 (some .int) ({ frames := 4, cells := 0, slots := 0, locals := 53 } : Room) #[(.ref a1)] h0 (Q11_62 Z a1 a3 p5 p6 p7 k8 p10 va18 h0 n0) := by
  refine own_body (L0 := #[vR a1, .unset, .unset, .unset]) (plainFor_of_name pn_7) (fun m => by first | (simp [entryFrame, mkF, argsToLocals, Value.category]; done) | rfl) fun p e s m below meth c s₁ EN hx hby hml hown hnm hret X0 hZ e0 hh pre0 fin => ?_
  have N0 := Fr.nil n0
  obtain ⟨_, T14, L14, X14, hQ14, st14⟩ := own_cV X0 hx hZ hown (ww56 hw) (ww57 hw) (notFace_of_selects (args := #[]) (mvT hZ (ww59 hw))) (ww59 hw) (ww58 hw) (ww2 hw) (ww60 hw) E_2 (rm12_63 l Z a0 hw a1 a3 p5 p6 p7 k8 p10 h0 n0 O0 F4 V9 E_2 S_11 hk12 F13) e0 pd_9 hml (hb hby d11_6) (Ls := #[vR a1, vI 0, vI 0, .unset]) (W := 1) (argsL := []) (rest := [(.int 0)])
  obtain ⟨rfl, u16, u17⟩ := hQ14
  have N14 := Fr.app N0 u16
  obtain ⟨_, T20, L20, X20, hQ20, st20⟩ := own_cV X14 hx hZ hown (ww66 hw) (ww67 hw) (notFace_of_selects (args := #[]) (mvT hZ (ww69 hw))) (ww69 hw) (ww68 hw) (ww2 hw) (ww70 hw) E_2 (rm14_64 l Z a0 hw a1 p10 a3 p5 p6 p7 k8 va18 h0 n0 O0 E_2 S_11 hk12 F13 F4 V9 S_19 ir_va18) u17 pd_14 hml (hb hby d11_14) (Ls := #[vR a1, vI 0, vI 0, .unset]) (W := 0) (argsL := [(.int 0)]) (rest := [])
  obtain ⟨i21, u22, rfl, u24, u25⟩ := hQ20
  have N20 := Fr.app N14 u24
  have pre26 : ∀ t, Steps p.tables e below (T20.setTop (mkF m 22 #[vR a1, vI 0, vI 0, vI i21] [(.int 128), (.int i21)])) t → Steps p.tables e below EN t := by
    intro t kt
    refine pre0 t ?_
    refine o_iconst X0 hx hby d11_0 (x := 0) rfl (o_istoreN X0 hx hby d11_1 (Ls' := #[vR a1, vI 0, .unset, .unset]) rfl (o_iconst X0 hx hby d11_2 (x := 0) rfl (o_istoreN X0 hx hby d11_3 (Ls' := #[vR a1, vI 0, vI 0, .unset]) rfl (o_iloadN X0 hx hby d11_4 rfl (o_aloadN X0 hx hby d11_5 rfl rfl (st14 _ (o_icmpN X14 hx hby d11_9 (by decide +kernel) (o_aloadN X14 hx hby d11_12 rfl rfl (o_iloadN X14 hx hby d11_13 rfl (st20 _ (o_istoreN X20 hx hby d11_17 (Ls' := #[vR a1, vI 0, vI 0, vI i21]) rfl (o_iloadN X20 hx hby d11_18 rfl (o_sipush X20 hx hby d11_19 (x := 128) rfl ?_)))))))))))))
    exact kt
  by_cases hc27 : i21 < (128 : Int32)
  · skip
    obtain ⟨_, T28, L28, X28, hQ28, st28⟩ := own_cV X20 hx hZ hown (ww56 hw) (ww57 hw) (notFace_of_selects (args := #[]) (mvT hZ (ww59 hw))) (ww59 hw) (ww58 hw) (ww2 hw) (ww60 hw) E_2 (rm12_63 l Z a0 hw a1 a3 p5 p6 p7 k8 p10 h0 n0 O0 F4 V9 E_2 S_11 hk12 F13) u25 pd_9 hml (hb hby d11_6) (Ls := #[vR a1, vI 1, vI 1, vI i21]) (W := 1) (argsL := []) (rest := [(.int 1)])
    obtain ⟨rfl, u30, u31⟩ := hQ28
    have N28 := Fr.app N20 u30
    obtain ⟨_, T32, L32, X32, hQ32, st32⟩ := own_cV X28 hx hZ hown (ww66 hw) (ww67 hw) (notFace_of_selects (args := #[]) (mvT hZ (ww69 hw))) (ww69 hw) (ww68 hw) (ww2 hw) (ww70 hw) E_2 (rm14_68 l Z a0 hw a1 p10 a3 p5 p6 p7 k8 va18 h0 n0 O0 E_2 S_11 hk12 F13 F4 V9 S_19 ir_va18) u31 pd_14 hml (hb hby d11_14) (Ls := #[vR a1, vI 1, vI 1, vI i21]) (W := 0) (argsL := [(.int 1)]) (rest := [])
    obtain ⟨i33, u34, rfl, u36, u37⟩ := hQ32
    have N32 := Fr.app N28 u36
    have pre38 : ∀ t, Steps p.tables e below (T32.setTop (mkF m 22 #[vR a1, vI 1, vI 1, vI i33] [(.int 128), (.int i33)])) t → Steps p.tables e below EN t := by
      intro t kt
      refine pre26 t ?_
      refine o_icmpN X20 hx hby d11_22 (tlt hc27).2.1 (o_iinc X20 hx hby d11_25 rfl (z := (1 : Int32)) (k' := 1) rfl (by decide +kernel) (Ls' := #[vR a1, vI 1, vI 0, vI i21]) rfl (o_goto X20 hx hby d11_28 (pc := 28) (pc' := 106) (by decide) (by decide) (o_iinc X20 hx hby d11_106 rfl (z := (1 : Int32)) (k' := 1) rfl (by decide +kernel) (Ls' := #[vR a1, vI 1, vI 1, vI i21]) rfl (o_goto X20 hx hby d11_109 (pc := 109) (pc' := 4) (by decide) (by decide) (o_iloadN X20 hx hby d11_4 rfl (o_aloadN X20 hx hby d11_5 rfl rfl (st28 _ (o_icmpN X28 hx hby d11_9 (by decide +kernel) (o_aloadN X28 hx hby d11_12 rfl rfl (o_iloadN X28 hx hby d11_13 rfl (st32 _ (o_istoreN X32 hx hby d11_17 (Ls' := #[vR a1, vI 1, vI 1, vI i33]) rfl (o_iloadN X32 hx hby d11_18 rfl (o_sipush X32 hx hby d11_19 (x := 128) rfl ?_))))))))))))))
      exact kt
    by_cases hc39 : i33 < (128 : Int32)
    · skip
      obtain ⟨_, T40, L40, X40, hQ40, st40⟩ := own_cV X32 hx hZ hown (ww56 hw) (ww57 hw) (notFace_of_selects (args := #[]) (mvT hZ (ww59 hw))) (ww59 hw) (ww58 hw) (ww2 hw) (ww60 hw) E_2 (rm12_63 l Z a0 hw a1 a3 p5 p6 p7 k8 p10 h0 n0 O0 F4 V9 E_2 S_11 hk12 F13) u37 pd_9 hml (hb hby d11_6) (Ls := #[vR a1, vI 2, vI 2, vI i33]) (W := 1) (argsL := []) (rest := [(.int 2)])
      obtain ⟨rfl, u42, u43⟩ := hQ40
      have N40 := Fr.app N32 u42
      obtain ⟨_, T44, L44, X44, hQ44, st44⟩ := own_cV X40 hx hZ hown (ww66 hw) (ww67 hw) (notFace_of_selects (args := #[]) (mvT hZ (ww69 hw))) (ww69 hw) (ww68 hw) (ww2 hw) (ww70 hw) E_2 (rm14_72 l Z a0 hw a1 p10 a3 p5 p6 p7 k8 va18 h0 n0 O0 E_2 S_11 hk12 F13 F4 V9 S_19 ir_va18) u43 pd_14 hml (hb hby d11_14) (Ls := #[vR a1, vI 2, vI 2, vI i33]) (W := 0) (argsL := [(.int 2)]) (rest := [])
      obtain ⟨i45, u46, rfl, u48, u49⟩ := hQ44
      have N44 := Fr.app N40 u48
      have pre50 : ∀ t, Steps p.tables e below (T44.setTop (mkF m 22 #[vR a1, vI 2, vI 2, vI i45] [(.int 128), (.int i45)])) t → Steps p.tables e below EN t := by
        intro t kt
        refine pre38 t ?_
        refine o_icmpN X32 hx hby d11_22 (tlt hc39).2.1 (o_iinc X32 hx hby d11_25 rfl (z := (2 : Int32)) (k' := 1) rfl (by decide +kernel) (Ls' := #[vR a1, vI 2, vI 1, vI i33]) rfl (o_goto X32 hx hby d11_28 (pc := 28) (pc' := 106) (by decide) (by decide) (o_iinc X32 hx hby d11_106 rfl (z := (2 : Int32)) (k' := 1) rfl (by decide +kernel) (Ls' := #[vR a1, vI 2, vI 2, vI i33]) rfl (o_goto X32 hx hby d11_109 (pc := 109) (pc' := 4) (by decide) (by decide) (o_iloadN X32 hx hby d11_4 rfl (o_aloadN X32 hx hby d11_5 rfl rfl (st40 _ (o_icmpN X40 hx hby d11_9 (by decide +kernel) (o_aloadN X40 hx hby d11_12 rfl rfl (o_iloadN X40 hx hby d11_13 rfl (st44 _ (o_istoreN X44 hx hby d11_17 (Ls' := #[vR a1, vI 2, vI 2, vI i45]) rfl (o_iloadN X44 hx hby d11_18 rfl (o_sipush X44 hx hby d11_19 (x := 128) rfl ?_))))))))))))))
        exact kt
      by_cases hc51 : i45 < (128 : Int32)
      · skip
        obtain ⟨_, T52, L52, X52, hQ52, st52⟩ := own_cV X44 hx hZ hown (ww56 hw) (ww57 hw) (notFace_of_selects (args := #[]) (mvT hZ (ww59 hw))) (ww59 hw) (ww58 hw) (ww2 hw) (ww60 hw) E_2 (rm12_63 l Z a0 hw a1 a3 p5 p6 p7 k8 p10 h0 n0 O0 F4 V9 E_2 S_11 hk12 F13) u49 pd_9 hml (hb hby d11_6) (Ls := #[vR a1, vI 3, vI 3, vI i45]) (W := 1) (argsL := []) (rest := [(.int 3)])
        obtain ⟨rfl, u54, u55⟩ := hQ52
        have N52 := Fr.app N44 u54
        refine fin (some (.int 3)) _ _ _ _ X52 nofun (fun fs hr => pre50 _ ?_) (own_atH u55 ?_) (by decide) (by decide)
        · refine o_icmpN X44 hx hby d11_22 (tlt hc51).2.1 (o_iinc X44 hx hby d11_25 rfl (z := (3 : Int32)) (k' := 1) rfl (by decide +kernel) (Ls' := #[vR a1, vI 3, vI 2, vI i45]) rfl (o_goto X44 hx hby d11_28 (pc := 28) (pc' := 106) (by decide) (by decide) (o_iinc X44 hx hby d11_106 rfl (z := (3 : Int32)) (k' := 1) rfl (by decide +kernel) (Ls' := #[vR a1, vI 3, vI 3, vI i45]) rfl (o_goto X44 hx hby d11_109 (pc := 109) (pc' := 4) (by decide) (by decide) (o_iloadN X44 hx hby d11_4 rfl (o_aloadN X44 hx hby d11_5 rfl rfl (st52 _ (o_icmpY X52 hx hby d11_9 (pc := 9) (pc' := 112) (by decide +kernel) (by decide) (by decide) (o_iloadN X52 hx hby d11_112 rfl ?_)))))))))
          exact retI X52 hx hret (hb hby d11_113) hr
        · exact Or.inl (⟨i21, i33, i45, u22, u34, u46, hc27, hc39, hc51, rfl, N52, rfl⟩)
      · skip
        obtain ⟨_, T56, L56, X56, hQ56, st56⟩ := own_cV X44 hx hZ hown (ww56 hw) (ww57 hw) (notFace_of_selects (args := #[]) (mvT hZ (ww59 hw))) (ww59 hw) (ww58 hw) (ww2 hw) (ww60 hw) E_2 (rm12_63 l Z a0 hw a1 a3 p5 p6 p7 k8 p10 h0 n0 O0 F4 V9 E_2 S_11 hk12 F13) u49 pd_9 hml (hb hby d11_6) (Ls := #[vR a1, vI 4, vI 3, vI i45]) (W := 1) (argsL := []) (rest := [(.int 3)])
        obtain ⟨rfl, u58, u59⟩ := hQ56
        have N56 := Fr.app N44 u58
        refine fin (some (.int 4)) _ _ _ _ X56 nofun (fun fs hr => pre50 _ ?_) (own_atH u59 ?_) (by decide) (by decide)
        · refine o_icmpY X44 hx hby d11_22 (pc := 22) (pc' := 31) (flt hc51).2.1 (by decide) (by decide) (o_iloadN X44 hx hby d11_31 rfl (o_sipush X44 hx hby d11_32 (x := 2048) rfl (o_icmpN X44 hx hby d11_35 (tlt (own_ltk u46 (by decide +kernel))).2.1 (o_iinc X44 hx hby d11_38 rfl (z := (4 : Int32)) (k' := 2) rfl (by decide +kernel) (Ls' := #[vR a1, vI 4, vI 2, vI i45]) rfl (o_goto X44 hx hby d11_41 (pc := 41) (pc' := 106) (by decide) (by decide) (o_iinc X44 hx hby d11_106 rfl (z := (3 : Int32)) (k' := 1) rfl (by decide +kernel) (Ls' := #[vR a1, vI 4, vI 3, vI i45]) rfl (o_goto X44 hx hby d11_109 (pc := 109) (pc' := 4) (by decide) (by decide) (o_iloadN X44 hx hby d11_4 rfl (o_aloadN X44 hx hby d11_5 rfl rfl (st56 _ (o_icmpY X56 hx hby d11_9 (pc := 9) (pc' := 112) (by decide +kernel) (by decide) (by decide) (o_iloadN X56 hx hby d11_112 rfl ?_))))))))))))
          exact retI X56 hx hret (hb hby d11_113) hr
        · exact Or.inr (Or.inl (⟨i21, i33, i45, u22, u34, u46, hc27, hc39, hc51, rfl, N56, rfl⟩))
    · skip
      obtain ⟨_, T60, L60, X60, hQ60, st60⟩ := own_cV X32 hx hZ hown (ww56 hw) (ww57 hw) (notFace_of_selects (args := #[]) (mvT hZ (ww59 hw))) (ww59 hw) (ww58 hw) (ww2 hw) (ww60 hw) E_2 (rm12_63 l Z a0 hw a1 a3 p5 p6 p7 k8 p10 h0 n0 O0 F4 V9 E_2 S_11 hk12 F13) u37 pd_9 hml (hb hby d11_6) (Ls := #[vR a1, vI 3, vI 2, vI i33]) (W := 1) (argsL := []) (rest := [(.int 2)])
      obtain ⟨rfl, u62, u63⟩ := hQ60
      have N60 := Fr.app N32 u62
      obtain ⟨_, T64, L64, X64, hQ64, st64⟩ := own_cV X60 hx hZ hown (ww66 hw) (ww67 hw) (notFace_of_selects (args := #[]) (mvT hZ (ww69 hw))) (ww69 hw) (ww68 hw) (ww2 hw) (ww70 hw) E_2 (rm14_72 l Z a0 hw a1 p10 a3 p5 p6 p7 k8 va18 h0 n0 O0 E_2 S_11 hk12 F13 F4 V9 S_19 ir_va18) u63 pd_14 hml (hb hby d11_14) (Ls := #[vR a1, vI 3, vI 2, vI i33]) (W := 0) (argsL := [(.int 2)]) (rest := [])
      obtain ⟨i65, u66, rfl, u68, u69⟩ := hQ64
      have N64 := Fr.app N60 u68
      have pre70 : ∀ t, Steps p.tables e below (T64.setTop (mkF m 22 #[vR a1, vI 3, vI 2, vI i65] [(.int 128), (.int i65)])) t → Steps p.tables e below EN t := by
        intro t kt
        refine pre38 t ?_
        refine o_icmpY X32 hx hby d11_22 (pc := 22) (pc' := 31) (flt hc39).2.1 (by decide) (by decide) (o_iloadN X32 hx hby d11_31 rfl (o_sipush X32 hx hby d11_32 (x := 2048) rfl (o_icmpN X32 hx hby d11_35 (tlt (own_ltk u34 (by decide +kernel))).2.1 (o_iinc X32 hx hby d11_38 rfl (z := (3 : Int32)) (k' := 2) rfl (by decide +kernel) (Ls' := #[vR a1, vI 3, vI 1, vI i33]) rfl (o_goto X32 hx hby d11_41 (pc := 41) (pc' := 106) (by decide) (by decide) (o_iinc X32 hx hby d11_106 rfl (z := (2 : Int32)) (k' := 1) rfl (by decide +kernel) (Ls' := #[vR a1, vI 3, vI 2, vI i33]) rfl (o_goto X32 hx hby d11_109 (pc := 109) (pc' := 4) (by decide) (by decide) (o_iloadN X32 hx hby d11_4 rfl (o_aloadN X32 hx hby d11_5 rfl rfl (st60 _ (o_icmpN X60 hx hby d11_9 (by decide +kernel) (o_aloadN X60 hx hby d11_12 rfl rfl (o_iloadN X60 hx hby d11_13 rfl (st64 _ (o_istoreN X64 hx hby d11_17 (Ls' := #[vR a1, vI 3, vI 2, vI i65]) rfl (o_iloadN X64 hx hby d11_18 rfl (o_sipush X64 hx hby d11_19 (x := 128) rfl ?_)))))))))))))))))
        exact kt
      by_cases hc71 : i65 < (128 : Int32)
      · skip
        obtain ⟨_, T72, L72, X72, hQ72, st72⟩ := own_cV X64 hx hZ hown (ww56 hw) (ww57 hw) (notFace_of_selects (args := #[]) (mvT hZ (ww59 hw))) (ww59 hw) (ww58 hw) (ww2 hw) (ww60 hw) E_2 (rm12_63 l Z a0 hw a1 a3 p5 p6 p7 k8 p10 h0 n0 O0 F4 V9 E_2 S_11 hk12 F13) u69 pd_9 hml (hb hby d11_6) (Ls := #[vR a1, vI 4, vI 3, vI i65]) (W := 1) (argsL := []) (rest := [(.int 3)])
        obtain ⟨rfl, u74, u75⟩ := hQ72
        have N72 := Fr.app N64 u74
        refine fin (some (.int 4)) _ _ _ _ X72 nofun (fun fs hr => pre70 _ ?_) (own_atH u75 ?_) (by decide) (by decide)
        · refine o_icmpN X64 hx hby d11_22 (tlt hc71).2.1 (o_iinc X64 hx hby d11_25 rfl (z := (4 : Int32)) (k' := 1) rfl (by decide +kernel) (Ls' := #[vR a1, vI 4, vI 2, vI i65]) rfl (o_goto X64 hx hby d11_28 (pc := 28) (pc' := 106) (by decide) (by decide) (o_iinc X64 hx hby d11_106 rfl (z := (3 : Int32)) (k' := 1) rfl (by decide +kernel) (Ls' := #[vR a1, vI 4, vI 3, vI i65]) rfl (o_goto X64 hx hby d11_109 (pc := 109) (pc' := 4) (by decide) (by decide) (o_iloadN X64 hx hby d11_4 rfl (o_aloadN X64 hx hby d11_5 rfl rfl (st72 _ (o_icmpY X72 hx hby d11_9 (pc := 9) (pc' := 112) (by decide +kernel) (by decide) (by decide) (o_iloadN X72 hx hby d11_112 rfl ?_)))))))))
          exact retI X72 hx hret (hb hby d11_113) hr
        · exact Or.inr (Or.inr (Or.inl (⟨i21, i33, i65, u22, u34, u66, hc27, hc39, hc71, rfl, N72, rfl⟩)))
      · skip
        obtain ⟨_, T76, L76, X76, hQ76, st76⟩ := own_cV X64 hx hZ hown (ww56 hw) (ww57 hw) (notFace_of_selects (args := #[]) (mvT hZ (ww59 hw))) (ww59 hw) (ww58 hw) (ww2 hw) (ww60 hw) E_2 (rm12_63 l Z a0 hw a1 a3 p5 p6 p7 k8 p10 h0 n0 O0 F4 V9 E_2 S_11 hk12 F13) u69 pd_9 hml (hb hby d11_6) (Ls := #[vR a1, vI 5, vI 3, vI i65]) (W := 1) (argsL := []) (rest := [(.int 3)])
        obtain ⟨rfl, u78, u79⟩ := hQ76
        have N76 := Fr.app N64 u78
        refine fin (some (.int 5)) _ _ _ _ X76 nofun (fun fs hr => pre70 _ ?_) (own_atH u79 ?_) (by decide) (by decide)
        · refine o_icmpY X64 hx hby d11_22 (pc := 22) (pc' := 31) (flt hc71).2.1 (by decide) (by decide) (o_iloadN X64 hx hby d11_31 rfl (o_sipush X64 hx hby d11_32 (x := 2048) rfl (o_icmpN X64 hx hby d11_35 (tlt (own_ltk u66 (by decide +kernel))).2.1 (o_iinc X64 hx hby d11_38 rfl (z := (5 : Int32)) (k' := 2) rfl (by decide +kernel) (Ls' := #[vR a1, vI 5, vI 2, vI i65]) rfl (o_goto X64 hx hby d11_41 (pc := 41) (pc' := 106) (by decide) (by decide) (o_iinc X64 hx hby d11_106 rfl (z := (3 : Int32)) (k' := 1) rfl (by decide +kernel) (Ls' := #[vR a1, vI 5, vI 3, vI i65]) rfl (o_goto X64 hx hby d11_109 (pc := 109) (pc' := 4) (by decide) (by decide) (o_iloadN X64 hx hby d11_4 rfl (o_aloadN X64 hx hby d11_5 rfl rfl (st76 _ (o_icmpY X76 hx hby d11_9 (pc := 9) (pc' := 112) (by decide +kernel) (by decide) (by decide) (o_iloadN X76 hx hby d11_112 rfl ?_))))))))))))
          exact retI X76 hx hret (hb hby d11_113) hr
        · exact Or.inr (Or.inr (Or.inr (Or.inl (⟨i21, i33, i65, u22, u34, u66, hc27, hc39, hc71, rfl, N76, rfl⟩))))
  · skip
    obtain ⟨_, T80, L80, X80, hQ80, st80⟩ := own_cV X20 hx hZ hown (ww56 hw) (ww57 hw) (notFace_of_selects (args := #[]) (mvT hZ (ww59 hw))) (ww59 hw) (ww58 hw) (ww2 hw) (ww60 hw) E_2 (rm12_63 l Z a0 hw a1 a3 p5 p6 p7 k8 p10 h0 n0 O0 F4 V9 E_2 S_11 hk12 F13) u25 pd_9 hml (hb hby d11_6) (Ls := #[vR a1, vI 2, vI 1, vI i21]) (W := 1) (argsL := []) (rest := [(.int 1)])
    obtain ⟨rfl, u82, u83⟩ := hQ80
    have N80 := Fr.app N20 u82
    obtain ⟨_, T84, L84, X84, hQ84, st84⟩ := own_cV X80 hx hZ hown (ww66 hw) (ww67 hw) (notFace_of_selects (args := #[]) (mvT hZ (ww69 hw))) (ww69 hw) (ww68 hw) (ww2 hw) (ww70 hw) E_2 (rm14_68 l Z a0 hw a1 p10 a3 p5 p6 p7 k8 va18 h0 n0 O0 E_2 S_11 hk12 F13 F4 V9 S_19 ir_va18) u83 pd_14 hml (hb hby d11_14) (Ls := #[vR a1, vI 2, vI 1, vI i21]) (W := 0) (argsL := [(.int 1)]) (rest := [])
    obtain ⟨i85, u86, rfl, u88, u89⟩ := hQ84
    have N84 := Fr.app N80 u88
    have pre90 : ∀ t, Steps p.tables e below (T84.setTop (mkF m 22 #[vR a1, vI 2, vI 1, vI i85] [(.int 128), (.int i85)])) t → Steps p.tables e below EN t := by
      intro t kt
      refine pre26 t ?_
      refine o_icmpY X20 hx hby d11_22 (pc := 22) (pc' := 31) (flt hc27).2.1 (by decide) (by decide) (o_iloadN X20 hx hby d11_31 rfl (o_sipush X20 hx hby d11_32 (x := 2048) rfl (o_icmpN X20 hx hby d11_35 (tlt (own_ltk u22 (by decide +kernel))).2.1 (o_iinc X20 hx hby d11_38 rfl (z := (2 : Int32)) (k' := 2) rfl (by decide +kernel) (Ls' := #[vR a1, vI 2, vI 0, vI i21]) rfl (o_goto X20 hx hby d11_41 (pc := 41) (pc' := 106) (by decide) (by decide) (o_iinc X20 hx hby d11_106 rfl (z := (1 : Int32)) (k' := 1) rfl (by decide +kernel) (Ls' := #[vR a1, vI 2, vI 1, vI i21]) rfl (o_goto X20 hx hby d11_109 (pc := 109) (pc' := 4) (by decide) (by decide) (o_iloadN X20 hx hby d11_4 rfl (o_aloadN X20 hx hby d11_5 rfl rfl (st80 _ (o_icmpN X80 hx hby d11_9 (by decide +kernel) (o_aloadN X80 hx hby d11_12 rfl rfl (o_iloadN X80 hx hby d11_13 rfl (st84 _ (o_istoreN X84 hx hby d11_17 (Ls' := #[vR a1, vI 2, vI 1, vI i85]) rfl (o_iloadN X84 hx hby d11_18 rfl (o_sipush X84 hx hby d11_19 (x := 128) rfl ?_)))))))))))))))))
      exact kt
    by_cases hc91 : i85 < (128 : Int32)
    · skip
      obtain ⟨_, T92, L92, X92, hQ92, st92⟩ := own_cV X84 hx hZ hown (ww56 hw) (ww57 hw) (notFace_of_selects (args := #[]) (mvT hZ (ww59 hw))) (ww59 hw) (ww58 hw) (ww2 hw) (ww60 hw) E_2 (rm12_63 l Z a0 hw a1 a3 p5 p6 p7 k8 p10 h0 n0 O0 F4 V9 E_2 S_11 hk12 F13) u89 pd_9 hml (hb hby d11_6) (Ls := #[vR a1, vI 3, vI 2, vI i85]) (W := 1) (argsL := []) (rest := [(.int 2)])
      obtain ⟨rfl, u94, u95⟩ := hQ92
      have N92 := Fr.app N84 u94
      obtain ⟨_, T96, L96, X96, hQ96, st96⟩ := own_cV X92 hx hZ hown (ww66 hw) (ww67 hw) (notFace_of_selects (args := #[]) (mvT hZ (ww69 hw))) (ww69 hw) (ww68 hw) (ww2 hw) (ww70 hw) E_2 (rm14_72 l Z a0 hw a1 p10 a3 p5 p6 p7 k8 va18 h0 n0 O0 E_2 S_11 hk12 F13 F4 V9 S_19 ir_va18) u95 pd_14 hml (hb hby d11_14) (Ls := #[vR a1, vI 3, vI 2, vI i85]) (W := 0) (argsL := [(.int 2)]) (rest := [])
      obtain ⟨i97, u98, rfl, u100, u101⟩ := hQ96
      have N96 := Fr.app N92 u100
      have pre102 : ∀ t, Steps p.tables e below (T96.setTop (mkF m 22 #[vR a1, vI 3, vI 2, vI i97] [(.int 128), (.int i97)])) t → Steps p.tables e below EN t := by
        intro t kt
        refine pre90 t ?_
        refine o_icmpN X84 hx hby d11_22 (tlt hc91).2.1 (o_iinc X84 hx hby d11_25 rfl (z := (3 : Int32)) (k' := 1) rfl (by decide +kernel) (Ls' := #[vR a1, vI 3, vI 1, vI i85]) rfl (o_goto X84 hx hby d11_28 (pc := 28) (pc' := 106) (by decide) (by decide) (o_iinc X84 hx hby d11_106 rfl (z := (2 : Int32)) (k' := 1) rfl (by decide +kernel) (Ls' := #[vR a1, vI 3, vI 2, vI i85]) rfl (o_goto X84 hx hby d11_109 (pc := 109) (pc' := 4) (by decide) (by decide) (o_iloadN X84 hx hby d11_4 rfl (o_aloadN X84 hx hby d11_5 rfl rfl (st92 _ (o_icmpN X92 hx hby d11_9 (by decide +kernel) (o_aloadN X92 hx hby d11_12 rfl rfl (o_iloadN X92 hx hby d11_13 rfl (st96 _ (o_istoreN X96 hx hby d11_17 (Ls' := #[vR a1, vI 3, vI 2, vI i97]) rfl (o_iloadN X96 hx hby d11_18 rfl (o_sipush X96 hx hby d11_19 (x := 128) rfl ?_))))))))))))))
        exact kt
      by_cases hc103 : i97 < (128 : Int32)
      · skip
        obtain ⟨_, T104, L104, X104, hQ104, st104⟩ := own_cV X96 hx hZ hown (ww56 hw) (ww57 hw) (notFace_of_selects (args := #[]) (mvT hZ (ww59 hw))) (ww59 hw) (ww58 hw) (ww2 hw) (ww60 hw) E_2 (rm12_63 l Z a0 hw a1 a3 p5 p6 p7 k8 p10 h0 n0 O0 F4 V9 E_2 S_11 hk12 F13) u101 pd_9 hml (hb hby d11_6) (Ls := #[vR a1, vI 4, vI 3, vI i97]) (W := 1) (argsL := []) (rest := [(.int 3)])
        obtain ⟨rfl, u106, u107⟩ := hQ104
        have N104 := Fr.app N96 u106
        refine fin (some (.int 4)) _ _ _ _ X104 nofun (fun fs hr => pre102 _ ?_) (own_atH u107 ?_) (by decide) (by decide)
        · refine o_icmpN X96 hx hby d11_22 (tlt hc103).2.1 (o_iinc X96 hx hby d11_25 rfl (z := (4 : Int32)) (k' := 1) rfl (by decide +kernel) (Ls' := #[vR a1, vI 4, vI 2, vI i97]) rfl (o_goto X96 hx hby d11_28 (pc := 28) (pc' := 106) (by decide) (by decide) (o_iinc X96 hx hby d11_106 rfl (z := (3 : Int32)) (k' := 1) rfl (by decide +kernel) (Ls' := #[vR a1, vI 4, vI 3, vI i97]) rfl (o_goto X96 hx hby d11_109 (pc := 109) (pc' := 4) (by decide) (by decide) (o_iloadN X96 hx hby d11_4 rfl (o_aloadN X96 hx hby d11_5 rfl rfl (st104 _ (o_icmpY X104 hx hby d11_9 (pc := 9) (pc' := 112) (by decide +kernel) (by decide) (by decide) (o_iloadN X104 hx hby d11_112 rfl ?_)))))))))
          exact retI X104 hx hret (hb hby d11_113) hr
        · exact Or.inr (Or.inr (Or.inr (Or.inr (Or.inl (⟨i21, i85, i97, u22, u86, u98, hc27, hc91, hc103, rfl, N104, rfl⟩)))))
      · skip
        obtain ⟨_, T108, L108, X108, hQ108, st108⟩ := own_cV X96 hx hZ hown (ww56 hw) (ww57 hw) (notFace_of_selects (args := #[]) (mvT hZ (ww59 hw))) (ww59 hw) (ww58 hw) (ww2 hw) (ww60 hw) E_2 (rm12_63 l Z a0 hw a1 a3 p5 p6 p7 k8 p10 h0 n0 O0 F4 V9 E_2 S_11 hk12 F13) u101 pd_9 hml (hb hby d11_6) (Ls := #[vR a1, vI 5, vI 3, vI i97]) (W := 1) (argsL := []) (rest := [(.int 3)])
        obtain ⟨rfl, u110, u111⟩ := hQ108
        have N108 := Fr.app N96 u110
        refine fin (some (.int 5)) _ _ _ _ X108 nofun (fun fs hr => pre102 _ ?_) (own_atH u111 ?_) (by decide) (by decide)
        · refine o_icmpY X96 hx hby d11_22 (pc := 22) (pc' := 31) (flt hc103).2.1 (by decide) (by decide) (o_iloadN X96 hx hby d11_31 rfl (o_sipush X96 hx hby d11_32 (x := 2048) rfl (o_icmpN X96 hx hby d11_35 (tlt (own_ltk u98 (by decide +kernel))).2.1 (o_iinc X96 hx hby d11_38 rfl (z := (5 : Int32)) (k' := 2) rfl (by decide +kernel) (Ls' := #[vR a1, vI 5, vI 2, vI i97]) rfl (o_goto X96 hx hby d11_41 (pc := 41) (pc' := 106) (by decide) (by decide) (o_iinc X96 hx hby d11_106 rfl (z := (3 : Int32)) (k' := 1) rfl (by decide +kernel) (Ls' := #[vR a1, vI 5, vI 3, vI i97]) rfl (o_goto X96 hx hby d11_109 (pc := 109) (pc' := 4) (by decide) (by decide) (o_iloadN X96 hx hby d11_4 rfl (o_aloadN X96 hx hby d11_5 rfl rfl (st108 _ (o_icmpY X108 hx hby d11_9 (pc := 9) (pc' := 112) (by decide +kernel) (by decide) (by decide) (o_iloadN X108 hx hby d11_112 rfl ?_))))))))))))
          exact retI X108 hx hret (hb hby d11_113) hr
        · exact Or.inr (Or.inr (Or.inr (Or.inr (Or.inr (Or.inl (⟨i21, i85, i97, u22, u86, u98, hc27, hc91, hc103, rfl, N108, rfl⟩))))))
    · skip
      obtain ⟨_, T112, L112, X112, hQ112, st112⟩ := own_cV X84 hx hZ hown (ww56 hw) (ww57 hw) (notFace_of_selects (args := #[]) (mvT hZ (ww59 hw))) (ww59 hw) (ww58 hw) (ww2 hw) (ww60 hw) E_2 (rm12_63 l Z a0 hw a1 a3 p5 p6 p7 k8 p10 h0 n0 O0 F4 V9 E_2 S_11 hk12 F13) u89 pd_9 hml (hb hby d11_6) (Ls := #[vR a1, vI 4, vI 2, vI i85]) (W := 1) (argsL := []) (rest := [(.int 2)])
      obtain ⟨rfl, u114, u115⟩ := hQ112
      have N112 := Fr.app N84 u114
      obtain ⟨_, T116, L116, X116, hQ116, st116⟩ := own_cV X112 hx hZ hown (ww66 hw) (ww67 hw) (notFace_of_selects (args := #[]) (mvT hZ (ww69 hw))) (ww69 hw) (ww68 hw) (ww2 hw) (ww70 hw) E_2 (rm14_72 l Z a0 hw a1 p10 a3 p5 p6 p7 k8 va18 h0 n0 O0 E_2 S_11 hk12 F13 F4 V9 S_19 ir_va18) u115 pd_14 hml (hb hby d11_14) (Ls := #[vR a1, vI 4, vI 2, vI i85]) (W := 0) (argsL := [(.int 2)]) (rest := [])
      obtain ⟨i117, u118, rfl, u120, u121⟩ := hQ116
      have N116 := Fr.app N112 u120
      have pre122 : ∀ t, Steps p.tables e below (T116.setTop (mkF m 22 #[vR a1, vI 4, vI 2, vI i117] [(.int 128), (.int i117)])) t → Steps p.tables e below EN t := by
        intro t kt
        refine pre90 t ?_
        refine o_icmpY X84 hx hby d11_22 (pc := 22) (pc' := 31) (flt hc91).2.1 (by decide) (by decide) (o_iloadN X84 hx hby d11_31 rfl (o_sipush X84 hx hby d11_32 (x := 2048) rfl (o_icmpN X84 hx hby d11_35 (tlt (own_ltk u86 (by decide +kernel))).2.1 (o_iinc X84 hx hby d11_38 rfl (z := (4 : Int32)) (k' := 2) rfl (by decide +kernel) (Ls' := #[vR a1, vI 4, vI 1, vI i85]) rfl (o_goto X84 hx hby d11_41 (pc := 41) (pc' := 106) (by decide) (by decide) (o_iinc X84 hx hby d11_106 rfl (z := (2 : Int32)) (k' := 1) rfl (by decide +kernel) (Ls' := #[vR a1, vI 4, vI 2, vI i85]) rfl (o_goto X84 hx hby d11_109 (pc := 109) (pc' := 4) (by decide) (by decide) (o_iloadN X84 hx hby d11_4 rfl (o_aloadN X84 hx hby d11_5 rfl rfl (st112 _ (o_icmpN X112 hx hby d11_9 (by decide +kernel) (o_aloadN X112 hx hby d11_12 rfl rfl (o_iloadN X112 hx hby d11_13 rfl (st116 _ (o_istoreN X116 hx hby d11_17 (Ls' := #[vR a1, vI 4, vI 2, vI i117]) rfl (o_iloadN X116 hx hby d11_18 rfl (o_sipush X116 hx hby d11_19 (x := 128) rfl ?_)))))))))))))))))
        exact kt
      by_cases hc123 : i117 < (128 : Int32)
      · skip
        obtain ⟨_, T124, L124, X124, hQ124, st124⟩ := own_cV X116 hx hZ hown (ww56 hw) (ww57 hw) (notFace_of_selects (args := #[]) (mvT hZ (ww59 hw))) (ww59 hw) (ww58 hw) (ww2 hw) (ww60 hw) E_2 (rm12_63 l Z a0 hw a1 a3 p5 p6 p7 k8 p10 h0 n0 O0 F4 V9 E_2 S_11 hk12 F13) u121 pd_9 hml (hb hby d11_6) (Ls := #[vR a1, vI 5, vI 3, vI i117]) (W := 1) (argsL := []) (rest := [(.int 3)])
        obtain ⟨rfl, u126, u127⟩ := hQ124
        have N124 := Fr.app N116 u126
        refine fin (some (.int 5)) _ _ _ _ X124 nofun (fun fs hr => pre122 _ ?_) (own_atH u127 ?_) (by decide) (by decide)
        · refine o_icmpN X116 hx hby d11_22 (tlt hc123).2.1 (o_iinc X116 hx hby d11_25 rfl (z := (5 : Int32)) (k' := 1) rfl (by decide +kernel) (Ls' := #[vR a1, vI 5, vI 2, vI i117]) rfl (o_goto X116 hx hby d11_28 (pc := 28) (pc' := 106) (by decide) (by decide) (o_iinc X116 hx hby d11_106 rfl (z := (3 : Int32)) (k' := 1) rfl (by decide +kernel) (Ls' := #[vR a1, vI 5, vI 3, vI i117]) rfl (o_goto X116 hx hby d11_109 (pc := 109) (pc' := 4) (by decide) (by decide) (o_iloadN X116 hx hby d11_4 rfl (o_aloadN X116 hx hby d11_5 rfl rfl (st124 _ (o_icmpY X124 hx hby d11_9 (pc := 9) (pc' := 112) (by decide +kernel) (by decide) (by decide) (o_iloadN X124 hx hby d11_112 rfl ?_)))))))))
          exact retI X124 hx hret (hb hby d11_113) hr
        · exact Or.inr (Or.inr (Or.inr (Or.inr (Or.inr (Or.inr (Or.inl (⟨i117, i21, i85, u22, u86, u118, hc27, hc91, hc123, rfl, N124, rfl⟩)))))))
      · skip
        obtain ⟨_, T128, L128, X128, hQ128, st128⟩ := own_cV X116 hx hZ hown (ww56 hw) (ww57 hw) (notFace_of_selects (args := #[]) (mvT hZ (ww59 hw))) (ww59 hw) (ww58 hw) (ww2 hw) (ww60 hw) E_2 (rm12_63 l Z a0 hw a1 a3 p5 p6 p7 k8 p10 h0 n0 O0 F4 V9 E_2 S_11 hk12 F13) u121 pd_9 hml (hb hby d11_6) (Ls := #[vR a1, vI 6, vI 3, vI i117]) (W := 1) (argsL := []) (rest := [(.int 3)])
        obtain ⟨rfl, u130, u131⟩ := hQ128
        have N128 := Fr.app N116 u130
        refine fin (some (.int 6)) _ _ _ _ X128 nofun (fun fs hr => pre122 _ ?_) (own_atH u131 ?_) (by decide) (by decide)
        · refine o_icmpY X116 hx hby d11_22 (pc := 22) (pc' := 31) (flt hc123).2.1 (by decide) (by decide) (o_iloadN X116 hx hby d11_31 rfl (o_sipush X116 hx hby d11_32 (x := 2048) rfl (o_icmpN X116 hx hby d11_35 (tlt (own_ltk u118 (by decide +kernel))).2.1 (o_iinc X116 hx hby d11_38 rfl (z := (6 : Int32)) (k' := 2) rfl (by decide +kernel) (Ls' := #[vR a1, vI 6, vI 2, vI i117]) rfl (o_goto X116 hx hby d11_41 (pc := 41) (pc' := 106) (by decide) (by decide) (o_iinc X116 hx hby d11_106 rfl (z := (3 : Int32)) (k' := 1) rfl (by decide +kernel) (Ls' := #[vR a1, vI 6, vI 3, vI i117]) rfl (o_goto X116 hx hby d11_109 (pc := 109) (pc' := 4) (by decide) (by decide) (o_iloadN X116 hx hby d11_4 rfl (o_aloadN X116 hx hby d11_5 rfl rfl (st128 _ (o_icmpY X128 hx hby d11_9 (pc := 9) (pc' := 112) (by decide +kernel) (by decide) (by decide) (o_iloadN X128 hx hby d11_112 rfl ?_))))))))))))
          exact retI X128 hx hret (hb hby d11_113) hr
        · exact Or.inr (Or.inr (Or.inr (Or.inr (Or.inr (Or.inr (Or.inr (⟨i117, i21, i85, u22, u86, u118, hc27, hc91, hc123, rfl, N128, rfl⟩)))))))
def Q19_76 (Z : State)  (h0 : Heap) (n0 : Nat) (v : Option Value) (h : Heap) (L : List Loc) : Prop := (v = none ∧ Fr n0 L ∧ h = h0)
theorem rm19_76 (l : Launch) (Z : State) (a0 : Array Value) (hw : own_HW Z a0)  (h0 : Heap) (n0 : Nat) (O0 : Old Z n0 h0) : own_Met l Z M_16 bc19 1 none ({ frames := 0, cells := 0, slots := 0, locals := 0 } : Room) #[(.int 5)] h0 (Q19_76 Z  h0 n0) := by
  refine own_body (L0 := #[vI 5]) (plainFor_of_name pn_7) (fun m => by first | (simp [entryFrame, mkF, argsToLocals, Value.category]; done) | rfl) fun p e s m below meth c s₁ EN hx hby hml hown hnm hret X0 hZ e0 hh pre0 fin => ?_
  have N0 := Fr.nil n0
  refine fin none _ _ _ _ X0 (fun _ => rfl) (fun fs hr => pre0 _ ?_) (own_atH e0 ?_) (by decide) (by decide)
  · refine o_iloadN X0 hx hby d19_0 rfl (o_iconst X0 hx hby d19_1 (x := 1) rfl (o_icmpN X0 hx hby d19_2 (by decide +kernel) (o_iloadN X0 hx hby d19_5 rfl (o_sipush X0 hx hby d19_6 (x := 1024) rfl (o_icmpY X0 hx hby d19_9 (pc := 9) (pc' := 26) (by decide +kernel) (by decide) (by decide) ?_)))))
    exact X0.returnOut hx hret (hb hby d19_26) hr
  · exact ⟨rfl, N0, rfl⟩
def Q19_77 (Z : State)  (h0 : Heap) (n0 : Nat) (v : Option Value) (h : Heap) (L : List Loc) : Prop := (v = none ∧ Fr n0 L ∧ h = h0)
theorem rm19_77 (l : Launch) (Z : State) (a0 : Array Value) (hw : own_HW Z a0)  (h0 : Heap) (n0 : Nat) (O0 : Old Z n0 h0) : own_Met l Z M_16 bc19 1 none ({ frames := 0, cells := 0, slots := 0, locals := 0 } : Room) #[(.int 6)] h0 (Q19_77 Z  h0 n0) := by
  refine own_body (L0 := #[vI 6]) (plainFor_of_name pn_7) (fun m => by first | (simp [entryFrame, mkF, argsToLocals, Value.category]; done) | rfl) fun p e s m below meth c s₁ EN hx hby hml hown hnm hret X0 hZ e0 hh pre0 fin => ?_
  have N0 := Fr.nil n0
  refine fin none _ _ _ _ X0 (fun _ => rfl) (fun fs hr => pre0 _ ?_) (own_atH e0 ?_) (by decide) (by decide)
  · refine o_iloadN X0 hx hby d19_0 rfl (o_iconst X0 hx hby d19_1 (x := 1) rfl (o_icmpN X0 hx hby d19_2 (by decide +kernel) (o_iloadN X0 hx hby d19_5 rfl (o_sipush X0 hx hby d19_6 (x := 1024) rfl (o_icmpY X0 hx hby d19_9 (pc := 9) (pc' := 26) (by decide +kernel) (by decide) (by decide) ?_)))))
    exact X0.returnOut hx hret (hb hby d19_26) hr
  · exact ⟨rfl, N0, rfl⟩
def Q8_61 (Z : State) (a1 : Addr) (a2 : Addr) (a13 : Addr) (p15 : Int32) (p16 : Int32) (p17 : Int32) (k18 : ClassId) (p20 : Int32) (va24 : Value) (h0 : Heap) (n0 : Nat) (v : Option Value) (h : Heap) (L : List Loc) : Prop := (v = none ∧ Fr n0 L ∧ Keep h0 h [a1] ∧ Exa Z h a1 C_1 ∧ Fld Z h a1 C_1 "text" C_2 (.ref a2))
theorem rm8_61 (l : Launch) (Z : State) (a0 : Array Value) (hw : own_HW Z a0) (a1 : Addr) (a2 : Addr) (a13 : Addr) (p15 : Int32) (p16 : Int32) (p17 : Int32) (k18 : ClassId) (p20 : Int32) (va24 : Value) (h0 : Heap) (n0 : Nat) (O0 : Old Z n0 h0) (E_12 : Exa Z h0 a2 C_0) (F14 : Fld Z h0 a2 C_0 "value" "[B" (.ref a13)) (V19 : Arv Z h0 a13 k18 .byte (3 : Int32) [(.int p15), (.int p16), (.int p17)] (.int (0 : Int32))) (S_21 : Sta Z Z.heap C_0 "COMPACT_STRINGS" "Z" (.int p20)) (hk22 : ¬ (p20 = (0 : Int32))) (F23 : Fld Z h0 a2 C_0 "coder" "B" (.int 0)) (S_25 : Sta Z Z.heap C_3 "SIOOBE_FORMATTER" C_4 va24) (ir_va24 : va24.isRef = true) (E_132 : Exa Z h0 a1 C_1) (F133 : Fld Z h0 a1 C_1 "text" C_2 .null) (g_a1 : n0 ≤ a1) : own_MetW l Z M_17 bc8 2 none ({ frames := 5, cells := 2, slots := 20, locals := 68 } : Room) #[(.ref a1), (.ref a2)] h0 (Q8_61 Z a1 a2 a13 p15 p16 p17 k18 p20 va24 h0 n0) := by
  refine own_bodyW (L0 := #[vR a1, vR a2]) (plainFor_of_name pn_7) (fun m => by first | (simp [entryFrame, mkF, argsToLocals, Value.category]; done) | rfl) fun p e s m below meth c s₁ EN hx hby hml hown hnm hret X0 hZ e0 hh pre0 fin => ?_
  have N0 := Fr.nil n0
  have Y0 : h0.size ≤ h0.size := Nat.le_refl _
  have hS0 : s.Since s.vm h0.size := (State.WarmedH.refl s).since _
  obtain ⟨_, T3, L3, X3, hQ3, st3⟩ := own_cI X0 hx hZ hown (ww40 hw) (ww41 hw) (ww43 hw) (ww44 hw) (rm9_9 l Z a0 hw a1 h0 n0 O0) e0 pd_6 hml (hb hby d8_1) (Ls := #[vR a1, vR a2]) (W := 0) (argsL := []) (rest := []) (b := a1)
  obtain ⟨rfl, u5, u6⟩ := hQ3
  have N3 := Fr.app N0 u5
  obtain ⟨a7, T7, h7, k7, X7, e7, E7, hS7, hk7, hZ7, hown7, st7⟩ := ldcS (s := s) (vm0 := s.vm) X3 hx hZ hown (ww46 hw) (own_wS hw) u6 hS0 Y0 (g := (mkF m 5 #[vR a1, vR a2] [(.ref a2)])) rfl (hb hby d8_5) (n := 16) (by decide +kernel) (by decide) (by decide) (by decide)
  have O7 : Old Z n0 h7 := O0.ext E7
  obtain ⟨_, T8, L8, X8, hQ8, st8⟩ := own_cS X7 hx hZ7 hown7 (ww49 hw) (ww50 hw) (ww51 hw) (ww52 hw) (rm10_10 l Z a0 hw a2 a7 h7 n0 O7) e7 pd_7 hml (hb hby d8_7) (Ls := #[vR a1, vR a2]) (W := 0) (argsL := [(.ref a2), (.ref a7)]) (rest := [])
  obtain ⟨rfl, u10, u11⟩ := hQ8
  have N8 := Fr.app N3 u10
  have f26 : Exa Z h7 a2 C_0 := (Exa.ext E7 E_12)
  have f27 : Fld Z h7 a2 C_0 "value" "[B" (.ref a13) := (Fld.ext E7 F14)
  have f28 : Arv Z h7 a13 k18 .byte (3 : Int32) [(.int p15), (.int p16), (.int p17)] (.int (0 : Int32)) := (V19.ext E7)
  have f29 : Fld Z h7 a2 C_0 "coder" "B" (.int 0) := (Fld.ext E7 F23)
  have pre31 : ∀ t, Steps p.tables e below (T8.setTop (mkF m 12 #[vR a1, vR a2] [(.ref a2)])) t → Steps p.tables e below EN t := by
    intro t kt
    refine pre0 t ?_
    refine o_aloadN X0 hx hby d8_0 rfl rfl (st3 _ (o_aloadN X3 hx hby d8_4 rfl rfl (st7 _ (st8 _ (o_pop X8 hx hby d8_10 rfl (o_aloadN X8 hx hby d8_11 rfl rfl ?_))))))
    exact kt
  obtain ⟨_, T30, L30, X30, hQ30, st30⟩ := own_cS X8 hx hZ7 hown7 (ww53 hw) (ww54 hw) (ww36 hw) (ww55 hw) (rm11_62 l Z a0 hw a2 a13 p15 p16 p17 k18 p20 va24 h7 n0 O7 f26 f27 f28 S_21 hk22 f29 S_25 ir_va24) u11 pd_15 hml (hb hby d8_12) (Ls := #[vR a1, vR a2]) (W := 0) (argsL := [(.ref a2)]) (rest := [])
  rcases hQ30 with ⟨i32, i33, i34, u35, u36, u37, u38, u39, u40, rfl, u42, u43⟩ | ⟨i44, i45, i46, u47, u48, u49, u50, u51, u52, rfl, u54, u55⟩ | ⟨i56, i57, i58, u59, u60, u61, u62, u63, u64, rfl, u66, u67⟩ | ⟨i68, i69, i70, u71, u72, u73, u74, u75, u76, rfl, u78, u79⟩ | ⟨i80, i81, i82, u83, u84, u85, u86, u87, u88, rfl, u90, u91⟩ | ⟨i92, i93, i94, u95, u96, u97, u98, u99, u100, rfl, u102, u103⟩ | ⟨i104, i105, i106, u107, u108, u109, u110, u111, u112, rfl, u114, u115⟩ | ⟨i116, i117, i118, u119, u120, u121, u122, u123, u124, rfl, u126, u127⟩
  · skip
    have N30 := Fr.app N8 u42
    obtain ⟨_, T128, L128, X128, hQ128, st128⟩ := own_cS X30 hx hZ7 hown7 (ww88 hw) (ww89 hw) (ww36 hw) (ww90 hw) (rm19_47 l Z a0 hw  h7 n0 O7) u43 pd_16 hml (hb hby d8_15) (Ls := #[vR a1, vR a2]) (W := 0) (argsL := [(.int 3)]) (rest := [])
    obtain ⟨rfl, u130, u131⟩ := hQ128
    have N128 := Fr.app N30 u130
    have f134 : Fld Z h7 a1 C_1 "text" C_2 .null := (Fld.ext E7 F133)
    have f135 : Exa Z h7 a1 C_1 := (Exa.ext E7 E_132)
    obtain ⟨T136, h136, X136, e136, W136, st136⟩ := putF X128 hx hZ7 hown7 (host := "") (Or.inl (ww91 hw)) Via.refl u131 f134 f135 (Or.inr ⟨(ww92 hw), rfl, hnm⟩) (ww35 hw) (ty := (.object "java/lang/String")) (by decide) rfl rfl (g := (mkF m 20 #[vR a1, vR a2] [(.ref a2), (.ref a1)])) rfl rfl (hb hby d8_20)
    have O136 : Old Z n0 h136 := O7.wr W136 g_a1
    have Fw136 : Fld Z h136 a1 C_1 "text" C_2 (.ref a2) := Fld.same W136 f134
    have N136 := Fr.snoc X136 N128 g_a1
    have f137 : Exa Z h136 a1 C_1 := (Exa.wr W136 f135)
    refine fin none _ _ _ _ T7.vm _ X136 hS7 (by rw [e136]; exact (Nat.le_trans hk7 (Keep.of_wr W136).1)) (fun _ => rfl) (fun fs hr => pre31 _ ?_) (own_atH e136 ?_) (by decide) (by decide)
    · refine st30 _ (st128 _ (o_aloadN X128 hx hby d8_18 rfl rfl (o_aloadN X128 hx hby d8_19 rfl rfl (st136 _ ?_))))
      exact X136.returnOut hx hret (hb hby d8_23) hr
    · exact ⟨rfl, N136, (((Keep.refl h0 [a1]).ext E7).wr W136 (Or.inl (List.mem_of_getElem? (i := 0) rfl))), f137, Fw136⟩
  · skip
    have N30 := Fr.app N8 u54
    obtain ⟨_, T138, L138, X138, hQ138, st138⟩ := own_cS X30 hx hZ7 hown7 (ww88 hw) (ww89 hw) (ww36 hw) (ww90 hw) (rm19_48 l Z a0 hw  h7 n0 O7) u55 pd_16 hml (hb hby d8_15) (Ls := #[vR a1, vR a2]) (W := 0) (argsL := [(.int 4)]) (rest := [])
    obtain ⟨rfl, u140, u141⟩ := hQ138
    have N138 := Fr.app N30 u140
    have f142 : Fld Z h7 a1 C_1 "text" C_2 .null := (Fld.ext E7 F133)
    have f143 : Exa Z h7 a1 C_1 := (Exa.ext E7 E_132)
    obtain ⟨T144, h144, X144, e144, W144, st144⟩ := putF X138 hx hZ7 hown7 (host := "") (Or.inl (ww91 hw)) Via.refl u141 f142 f143 (Or.inr ⟨(ww92 hw), rfl, hnm⟩) (ww35 hw) (ty := (.object "java/lang/String")) (by decide) rfl rfl (g := (mkF m 20 #[vR a1, vR a2] [(.ref a2), (.ref a1)])) rfl rfl (hb hby d8_20)
    have O144 : Old Z n0 h144 := O7.wr W144 g_a1
    have Fw144 : Fld Z h144 a1 C_1 "text" C_2 (.ref a2) := Fld.same W144 f142
    have N144 := Fr.snoc X144 N138 g_a1
    have f145 : Exa Z h144 a1 C_1 := (Exa.wr W144 f143)
    refine fin none _ _ _ _ T7.vm _ X144 hS7 (by rw [e144]; exact (Nat.le_trans hk7 (Keep.of_wr W144).1)) (fun _ => rfl) (fun fs hr => pre31 _ ?_) (own_atH e144 ?_) (by decide) (by decide)
    · refine st30 _ (st138 _ (o_aloadN X138 hx hby d8_18 rfl rfl (o_aloadN X138 hx hby d8_19 rfl rfl (st144 _ ?_))))
      exact X144.returnOut hx hret (hb hby d8_23) hr
    · exact ⟨rfl, N144, (((Keep.refl h0 [a1]).ext E7).wr W144 (Or.inl (List.mem_of_getElem? (i := 0) rfl))), f145, Fw144⟩
  · skip
    have N30 := Fr.app N8 u66
    obtain ⟨_, T146, L146, X146, hQ146, st146⟩ := own_cS X30 hx hZ7 hown7 (ww88 hw) (ww89 hw) (ww36 hw) (ww90 hw) (rm19_48 l Z a0 hw  h7 n0 O7) u67 pd_16 hml (hb hby d8_15) (Ls := #[vR a1, vR a2]) (W := 0) (argsL := [(.int 4)]) (rest := [])
    obtain ⟨rfl, u148, u149⟩ := hQ146
    have N146 := Fr.app N30 u148
    have f150 : Fld Z h7 a1 C_1 "text" C_2 .null := (Fld.ext E7 F133)
    have f151 : Exa Z h7 a1 C_1 := (Exa.ext E7 E_132)
    obtain ⟨T152, h152, X152, e152, W152, st152⟩ := putF X146 hx hZ7 hown7 (host := "") (Or.inl (ww91 hw)) Via.refl u149 f150 f151 (Or.inr ⟨(ww92 hw), rfl, hnm⟩) (ww35 hw) (ty := (.object "java/lang/String")) (by decide) rfl rfl (g := (mkF m 20 #[vR a1, vR a2] [(.ref a2), (.ref a1)])) rfl rfl (hb hby d8_20)
    have O152 : Old Z n0 h152 := O7.wr W152 g_a1
    have Fw152 : Fld Z h152 a1 C_1 "text" C_2 (.ref a2) := Fld.same W152 f150
    have N152 := Fr.snoc X152 N146 g_a1
    have f153 : Exa Z h152 a1 C_1 := (Exa.wr W152 f151)
    refine fin none _ _ _ _ T7.vm _ X152 hS7 (by rw [e152]; exact (Nat.le_trans hk7 (Keep.of_wr W152).1)) (fun _ => rfl) (fun fs hr => pre31 _ ?_) (own_atH e152 ?_) (by decide) (by decide)
    · refine st30 _ (st146 _ (o_aloadN X146 hx hby d8_18 rfl rfl (o_aloadN X146 hx hby d8_19 rfl rfl (st152 _ ?_))))
      exact X152.returnOut hx hret (hb hby d8_23) hr
    · exact ⟨rfl, N152, (((Keep.refl h0 [a1]).ext E7).wr W152 (Or.inl (List.mem_of_getElem? (i := 0) rfl))), f153, Fw152⟩
  · skip
    have N30 := Fr.app N8 u78
    obtain ⟨_, T154, L154, X154, hQ154, st154⟩ := own_cS X30 hx hZ7 hown7 (ww88 hw) (ww89 hw) (ww36 hw) (ww90 hw) (rm19_76 l Z a0 hw  h7 n0 O7) u79 pd_16 hml (hb hby d8_15) (Ls := #[vR a1, vR a2]) (W := 0) (argsL := [(.int 5)]) (rest := [])
    obtain ⟨rfl, u156, u157⟩ := hQ154
    have N154 := Fr.app N30 u156
    have f158 : Fld Z h7 a1 C_1 "text" C_2 .null := (Fld.ext E7 F133)
    have f159 : Exa Z h7 a1 C_1 := (Exa.ext E7 E_132)
    obtain ⟨T160, h160, X160, e160, W160, st160⟩ := putF X154 hx hZ7 hown7 (host := "") (Or.inl (ww91 hw)) Via.refl u157 f158 f159 (Or.inr ⟨(ww92 hw), rfl, hnm⟩) (ww35 hw) (ty := (.object "java/lang/String")) (by decide) rfl rfl (g := (mkF m 20 #[vR a1, vR a2] [(.ref a2), (.ref a1)])) rfl rfl (hb hby d8_20)
    have O160 : Old Z n0 h160 := O7.wr W160 g_a1
    have Fw160 : Fld Z h160 a1 C_1 "text" C_2 (.ref a2) := Fld.same W160 f158
    have N160 := Fr.snoc X160 N154 g_a1
    have f161 : Exa Z h160 a1 C_1 := (Exa.wr W160 f159)
    refine fin none _ _ _ _ T7.vm _ X160 hS7 (by rw [e160]; exact (Nat.le_trans hk7 (Keep.of_wr W160).1)) (fun _ => rfl) (fun fs hr => pre31 _ ?_) (own_atH e160 ?_) (by decide) (by decide)
    · refine st30 _ (st154 _ (o_aloadN X154 hx hby d8_18 rfl rfl (o_aloadN X154 hx hby d8_19 rfl rfl (st160 _ ?_))))
      exact X160.returnOut hx hret (hb hby d8_23) hr
    · exact ⟨rfl, N160, (((Keep.refl h0 [a1]).ext E7).wr W160 (Or.inl (List.mem_of_getElem? (i := 0) rfl))), f161, Fw160⟩
  · skip
    have N30 := Fr.app N8 u90
    obtain ⟨_, T162, L162, X162, hQ162, st162⟩ := own_cS X30 hx hZ7 hown7 (ww88 hw) (ww89 hw) (ww36 hw) (ww90 hw) (rm19_48 l Z a0 hw  h7 n0 O7) u91 pd_16 hml (hb hby d8_15) (Ls := #[vR a1, vR a2]) (W := 0) (argsL := [(.int 4)]) (rest := [])
    obtain ⟨rfl, u164, u165⟩ := hQ162
    have N162 := Fr.app N30 u164
    have f166 : Fld Z h7 a1 C_1 "text" C_2 .null := (Fld.ext E7 F133)
    have f167 : Exa Z h7 a1 C_1 := (Exa.ext E7 E_132)
    obtain ⟨T168, h168, X168, e168, W168, st168⟩ := putF X162 hx hZ7 hown7 (host := "") (Or.inl (ww91 hw)) Via.refl u165 f166 f167 (Or.inr ⟨(ww92 hw), rfl, hnm⟩) (ww35 hw) (ty := (.object "java/lang/String")) (by decide) rfl rfl (g := (mkF m 20 #[vR a1, vR a2] [(.ref a2), (.ref a1)])) rfl rfl (hb hby d8_20)
    have O168 : Old Z n0 h168 := O7.wr W168 g_a1
    have Fw168 : Fld Z h168 a1 C_1 "text" C_2 (.ref a2) := Fld.same W168 f166
    have N168 := Fr.snoc X168 N162 g_a1
    have f169 : Exa Z h168 a1 C_1 := (Exa.wr W168 f167)
    refine fin none _ _ _ _ T7.vm _ X168 hS7 (by rw [e168]; exact (Nat.le_trans hk7 (Keep.of_wr W168).1)) (fun _ => rfl) (fun fs hr => pre31 _ ?_) (own_atH e168 ?_) (by decide) (by decide)
    · refine st30 _ (st162 _ (o_aloadN X162 hx hby d8_18 rfl rfl (o_aloadN X162 hx hby d8_19 rfl rfl (st168 _ ?_))))
      exact X168.returnOut hx hret (hb hby d8_23) hr
    · exact ⟨rfl, N168, (((Keep.refl h0 [a1]).ext E7).wr W168 (Or.inl (List.mem_of_getElem? (i := 0) rfl))), f169, Fw168⟩
  · skip
    have N30 := Fr.app N8 u102
    obtain ⟨_, T170, L170, X170, hQ170, st170⟩ := own_cS X30 hx hZ7 hown7 (ww88 hw) (ww89 hw) (ww36 hw) (ww90 hw) (rm19_76 l Z a0 hw  h7 n0 O7) u103 pd_16 hml (hb hby d8_15) (Ls := #[vR a1, vR a2]) (W := 0) (argsL := [(.int 5)]) (rest := [])
    obtain ⟨rfl, u172, u173⟩ := hQ170
    have N170 := Fr.app N30 u172
    have f174 : Fld Z h7 a1 C_1 "text" C_2 .null := (Fld.ext E7 F133)
    have f175 : Exa Z h7 a1 C_1 := (Exa.ext E7 E_132)
    obtain ⟨T176, h176, X176, e176, W176, st176⟩ := putF X170 hx hZ7 hown7 (host := "") (Or.inl (ww91 hw)) Via.refl u173 f174 f175 (Or.inr ⟨(ww92 hw), rfl, hnm⟩) (ww35 hw) (ty := (.object "java/lang/String")) (by decide) rfl rfl (g := (mkF m 20 #[vR a1, vR a2] [(.ref a2), (.ref a1)])) rfl rfl (hb hby d8_20)
    have O176 : Old Z n0 h176 := O7.wr W176 g_a1
    have Fw176 : Fld Z h176 a1 C_1 "text" C_2 (.ref a2) := Fld.same W176 f174
    have N176 := Fr.snoc X176 N170 g_a1
    have f177 : Exa Z h176 a1 C_1 := (Exa.wr W176 f175)
    refine fin none _ _ _ _ T7.vm _ X176 hS7 (by rw [e176]; exact (Nat.le_trans hk7 (Keep.of_wr W176).1)) (fun _ => rfl) (fun fs hr => pre31 _ ?_) (own_atH e176 ?_) (by decide) (by decide)
    · refine st30 _ (st170 _ (o_aloadN X170 hx hby d8_18 rfl rfl (o_aloadN X170 hx hby d8_19 rfl rfl (st176 _ ?_))))
      exact X176.returnOut hx hret (hb hby d8_23) hr
    · exact ⟨rfl, N176, (((Keep.refl h0 [a1]).ext E7).wr W176 (Or.inl (List.mem_of_getElem? (i := 0) rfl))), f177, Fw176⟩
  · skip
    have N30 := Fr.app N8 u114
    obtain ⟨_, T178, L178, X178, hQ178, st178⟩ := own_cS X30 hx hZ7 hown7 (ww88 hw) (ww89 hw) (ww36 hw) (ww90 hw) (rm19_76 l Z a0 hw  h7 n0 O7) u115 pd_16 hml (hb hby d8_15) (Ls := #[vR a1, vR a2]) (W := 0) (argsL := [(.int 5)]) (rest := [])
    obtain ⟨rfl, u180, u181⟩ := hQ178
    have N178 := Fr.app N30 u180
    have f182 : Fld Z h7 a1 C_1 "text" C_2 .null := (Fld.ext E7 F133)
    have f183 : Exa Z h7 a1 C_1 := (Exa.ext E7 E_132)
    obtain ⟨T184, h184, X184, e184, W184, st184⟩ := putF X178 hx hZ7 hown7 (host := "") (Or.inl (ww91 hw)) Via.refl u181 f182 f183 (Or.inr ⟨(ww92 hw), rfl, hnm⟩) (ww35 hw) (ty := (.object "java/lang/String")) (by decide) rfl rfl (g := (mkF m 20 #[vR a1, vR a2] [(.ref a2), (.ref a1)])) rfl rfl (hb hby d8_20)
    have O184 : Old Z n0 h184 := O7.wr W184 g_a1
    have Fw184 : Fld Z h184 a1 C_1 "text" C_2 (.ref a2) := Fld.same W184 f182
    have N184 := Fr.snoc X184 N178 g_a1
    have f185 : Exa Z h184 a1 C_1 := (Exa.wr W184 f183)
    refine fin none _ _ _ _ T7.vm _ X184 hS7 (by rw [e184]; exact (Nat.le_trans hk7 (Keep.of_wr W184).1)) (fun _ => rfl) (fun fs hr => pre31 _ ?_) (own_atH e184 ?_) (by decide) (by decide)
    · refine st30 _ (st178 _ (o_aloadN X178 hx hby d8_18 rfl rfl (o_aloadN X178 hx hby d8_19 rfl rfl (st184 _ ?_))))
      exact X184.returnOut hx hret (hb hby d8_23) hr
    · exact ⟨rfl, N184, (((Keep.refl h0 [a1]).ext E7).wr W184 (Or.inl (List.mem_of_getElem? (i := 0) rfl))), f185, Fw184⟩
  · skip
    have N30 := Fr.app N8 u126
    obtain ⟨_, T186, L186, X186, hQ186, st186⟩ := own_cS X30 hx hZ7 hown7 (ww88 hw) (ww89 hw) (ww36 hw) (ww90 hw) (rm19_77 l Z a0 hw  h7 n0 O7) u127 pd_16 hml (hb hby d8_15) (Ls := #[vR a1, vR a2]) (W := 0) (argsL := [(.int 6)]) (rest := [])
    obtain ⟨rfl, u188, u189⟩ := hQ186
    have N186 := Fr.app N30 u188
    have f190 : Fld Z h7 a1 C_1 "text" C_2 .null := (Fld.ext E7 F133)
    have f191 : Exa Z h7 a1 C_1 := (Exa.ext E7 E_132)
    obtain ⟨T192, h192, X192, e192, W192, st192⟩ := putF X186 hx hZ7 hown7 (host := "") (Or.inl (ww91 hw)) Via.refl u189 f190 f191 (Or.inr ⟨(ww92 hw), rfl, hnm⟩) (ww35 hw) (ty := (.object "java/lang/String")) (by decide) rfl rfl (g := (mkF m 20 #[vR a1, vR a2] [(.ref a2), (.ref a1)])) rfl rfl (hb hby d8_20)
    have O192 : Old Z n0 h192 := O7.wr W192 g_a1
    have Fw192 : Fld Z h192 a1 C_1 "text" C_2 (.ref a2) := Fld.same W192 f190
    have N192 := Fr.snoc X192 N186 g_a1
    have f193 : Exa Z h192 a1 C_1 := (Exa.wr W192 f191)
    refine fin none _ _ _ _ T7.vm _ X192 hS7 (by rw [e192]; exact (Nat.le_trans hk7 (Keep.of_wr W192).1)) (fun _ => rfl) (fun fs hr => pre31 _ ?_) (own_atH e192 ?_) (by decide) (by decide)
    · refine st30 _ (st186 _ (o_aloadN X186 hx hby d8_18 rfl rfl (o_aloadN X186 hx hby d8_19 rfl rfl (st192 _ ?_))))
      exact X192.returnOut hx hret (hb hby d8_23) hr
    · exact ⟨rfl, N192, (((Keep.refl h0 [a1]).ext E7).wr W192 (Or.inl (List.mem_of_getElem? (i := 0) rfl))), f193, Fw192⟩
def Q22_80 (Z : State) (a1 : Addr) (a2 : Addr) (p3 : Int32) (k4 : ClassId) (p7 : Int32) (p8 : Int32) (p9 : Int32) (k10 : ClassId) (h0 : Heap) (n0 : Nat) (v : Option Value) (h : Heap) (L : List Loc) : Prop := (v = some (.int 0) ∧ Fr n0 L ∧ h = h0)
theorem rm22_80 (l : Launch) (Z : State) (a0 : Array Value) (hw : own_HW Z a0) (a1 : Addr) (a2 : Addr) (p3 : Int32) (k4 : ClassId) (p7 : Int32) (p8 : Int32) (p9 : Int32) (k10 : ClassId) (h0 : Heap) (n0 : Nat) (O0 : Old Z n0 h0) (V5 : Arv Z h0 a1 k4 .byte (1 : Int32) [(.int p3)] (.int (0 : Int32))) (V11 : Arv Z h0 a2 k10 .byte (3 : Int32) [(.int p7), (.int p8), (.int p9)] (.int (0 : Int32))) : own_Met l Z M_18 bc22 3 (some .boolean) ({ frames := 0, cells := 0, slots := 0, locals := 0 } : Room) #[(.ref a1), (.ref a2)] h0 (Q22_80 Z a1 a2 p3 k4 p7 p8 p9 k10 h0 n0) := by
  refine own_body (L0 := #[vR a1, vR a2, .unset]) (plainFor_of_name pn_6) (fun m => by first | (simp [entryFrame, mkF, argsToLocals, Value.category]; done) | rfl) fun p e s m below meth c s₁ EN hx hby hml hown hnm hret X0 hZ e0 hh pre0 fin => ?_
  have N0 := Fr.nil n0
  obtain ⟨cl6, Ar6, -, Sz6, Nn6, -, -⟩ := id V5
  obtain ⟨cl12, Ar12, -, Sz12, Nn12, -, -⟩ := id V11
  refine fin (some (.int 0)) _ _ _ _ X0 nofun (fun fs hr => pre0 _ ?_) (own_atH e0 ?_) (by decide) (by decide)
  · refine o_aloadN X0 hx hby d22_0 rfl rfl (X0.arraylength hx (by rw [e0]; exact Ar6.1) (State.isArrayOf_alike hZ.alike Ar6.2.1) (g := (mkF m 1 #[vR a1, vR a2, .unset] [(.ref a1)])) rfl rfl (hb hby d22_1) _ ?_)
    rw [len_of Sz6 Nn6]
    refine o_aloadN X0 hx hby d22_2 rfl rfl (X0.arraylength hx (by rw [e0]; exact Ar12.1) (State.isArrayOf_alike hZ.alike Ar12.2.1) (g := (mkF m 3 #[vR a1, vR a2, .unset] [(.ref a2), (.int 1)])) rfl rfl (hb hby d22_3) _ ?_)
    rw [len_of Sz12 Nn12]
    refine o_icmpY X0 hx hby d22_4 (pc := 4) (pc' := 34) (by decide +kernel) (by decide) (by decide) (o_iconst X0 hx hby d22_34 (x := 0) rfl ?_)
    exact retN X0 hx (t := .boolean) hret (by simp) (hb hby d22_35) hr
  · exact ⟨rfl, N0, rfl⟩
def Q21_79 (Z : State) (a1 : Addr) (a2 : Addr) (p7 : Int32) (a15 : Addr) (a18 : Addr) (p21 : Int32) (k22 : ClassId) (p24 : Int32) (p25 : Int32) (p26 : Int32) (k27 : ClassId) (h0 : Heap) (n0 : Nat) (v : Option Value) (h : Heap) (L : List Loc) : Prop := (v = some (.int 0) ∧ Fr n0 L ∧ h = h0)
theorem rm21_79 (l : Launch) (Z : State) (a0 : Array Value) (hw : own_HW Z a0) (a1 : Addr) (a2 : Addr) (p7 : Int32) (a15 : Addr) (a18 : Addr) (p21 : Int32) (k22 : ClassId) (p24 : Int32) (p25 : Int32) (p26 : Int32) (k27 : ClassId) (h0 : Heap) (n0 : Nat) (O0 : Old Z n0 h0) (hne3 : a1 ≠ a2) (E_4 : Exa Z h0 a2 C_0) (S_8 : Sta Z Z.heap C_0 "COMPACT_STRINGS" "Z" (.int p7)) (hk10 : ¬ (p7 = (0 : Int32))) (F11 : Fld Z h0 a1 C_0 "coder" "B" (.int 0)) (F13 : Fld Z h0 a2 C_0 "coder" "B" (.int 0)) (F16 : Fld Z h0 a1 C_0 "value" "[B" (.ref a15)) (F19 : Fld Z h0 a2 C_0 "value" "[B" (.ref a18)) (V23 : Arv Z h0 a15 k22 .byte (1 : Int32) [(.int p21)] (.int (0 : Int32))) (V28 : Arv Z h0 a18 k27 .byte (3 : Int32) [(.int p24), (.int p25), (.int p26)] (.int (0 : Int32))) : own_Met l Z M_19 bc21 3 (some .boolean) ({ frames := 1, cells := 0, slots := 0, locals := 14 } : Room) #[(.ref a1), (.ref a2)] h0 (Q21_79 Z a1 a2 p7 a15 a18 p21 k22 p24 p25 p26 k27 h0 n0) := by
  refine own_body (L0 := #[vR a1, vR a2, .unset]) (plainFor_of_name pn_2) (fun m => by first | (simp [entryFrame, mkF, argsToLocals, Value.category]; done) | rfl) fun p e s m below meth c s₁ EN hx hby hml hown hnm hret X0 hZ e0 hh pre0 fin => ?_
  have N0 := Fr.nil n0
  obtain ⟨T5, X5, e5, st5⟩ := instY X0 hx hZ hown (ww105 hw) e0 (Ins.self E_4) (g := (mkF m 8 #[vR a1, vR a2, .unset] [(.ref a2)])) rfl rfl (hb hby d21_8)
  obtain ⟨T6, X6, e6, st6⟩ := castY X5 hx hZ hown (ww105 hw) e5 (Ins.self E_4) (g := (mkF m 15 #[vR a1, vR a2, .unset] [(.ref a2)])) rfl rfl (hb hby d21_15)
  obtain ⟨T9, X9, e9, st9⟩ := getS2 X6 hx hZ hown (host := "") (Or.inl (ww18 hw)) Via.refl e6 (Sta.ext O0.2 S_8) (g := (mkF m 19 #[vR a1, vR a2, vR a2] [])) rfl (hb hby d21_19)
  obtain ⟨T12, X12, e12, st12⟩ := getF X9 hx hZ hown (host := "") (Or.inl (ww30 hw)) Via.refl e9 F11 (g := (mkF m 26 #[vR a1, vR a2, vR a2] [(.ref a1)])) rfl rfl (hb hby d21_26)
  obtain ⟨T14, X14, e14, st14⟩ := getF X12 hx hZ hown (host := "") (Or.inl (ww30 hw)) Via.refl e12 F13 (g := (mkF m 30 #[vR a1, vR a2, vR a2] [(.ref a2), (.int 0)])) rfl rfl (hb hby d21_30)
  obtain ⟨T17, X17, e17, st17⟩ := getF X14 hx hZ hown (host := "") (Or.inl (ww32 hw)) Via.refl e14 F16 (g := (mkF m 37 #[vR a1, vR a2, vR a2] [(.ref a1)])) rfl rfl (hb hby d21_37)
  obtain ⟨T20, X20, e20, st20⟩ := getF X17 hx hZ hown (host := "") (Or.inl (ww32 hw)) Via.refl e17 F19 (g := (mkF m 41 #[vR a1, vR a2, vR a2] [(.ref a2), (.ref a15)])) rfl rfl (hb hby d21_41)
  obtain ⟨_, T29, L29, X29, hQ29, st29⟩ := own_cS X20 hx hZ hown (ww106 hw) (ww107 hw) (ww78 hw) (ww108 hw) (rm22_80 l Z a0 hw a15 a18 p21 k22 p24 p25 p26 k27 h0 n0 O0 V23 V28) e20 pd_18 hml (hb hby d21_44) (Ls := #[vR a1, vR a2, vR a2]) (W := 0) (argsL := [(.ref a15), (.ref a18)]) (rest := [])
  obtain ⟨rfl, u31, u32⟩ := hQ29
  have N29 := Fr.app N0 u31
  refine fin (some (.int 0)) _ _ _ _ X29 nofun (fun fs hr => pre0 _ ?_) (own_atH u32 ?_) (by decide) (by decide)
  · refine o_aloadN X0 hx hby d21_0 rfl rfl (o_aloadN X0 hx hby d21_1 rfl rfl (Jvm.RoadKit.acmp (g := (mkF m 2 #[vR a1, vR a2, .unset] [(.ref a2), (.ref a1)])) X0 hx rfl rfl rfl (pc0 := 2) (pc' := 7) (same := false) rfl (hb hby d21_2) rfl (decide_eq_false fun q => hne3 (Value.ref.inj q)) (by decide) (by decide) (o_aloadN X0 hx hby d21_7 rfl rfl (st5 _ (o_ifN X5 hx hby d21_11 (by decide +kernel) (o_aloadN X5 hx hby d21_14 rfl rfl (st6 _ (o_astoreN X6 hx hby d21_18 rfl (Ls' := #[vR a1, vR a2, vR a2]) rfl (st9 _ (o_ifN X9 hx hby d21_22 ((if0 _ _).trans (feq hk10).1) (o_aloadN X9 hx hby d21_25 rfl rfl (st12 _ (o_aloadN X12 hx hby d21_29 rfl rfl (st14 _ (o_icmpN X14 hx hby d21_33 (by decide +kernel) (o_aloadN X14 hx hby d21_36 rfl rfl (st17 _ (o_aloadN X17 hx hby d21_40 rfl rfl (st20 _ (st29 _ (o_ifY X29 hx hby d21_47 (pc := 47) (pc' := 54) (by decide +kernel) (by decide) (by decide) (o_iconst X29 hx hby d21_54 (x := 0) rfl ?_))))))))))))))))))))))
    exact retN X29 hx (t := .boolean) hret (by simp) (hb hby d21_55) hr
  · exact ⟨rfl, N29, rfl⟩
def Q20_78 (Z : State) (a1 : Addr) (a2 : Addr) (a7 : Addr) (a10 : Addr) (p16 : Int32) (a21 : Addr) (a23 : Addr) (p25 : Int32) (k26 : ClassId) (p28 : Int32) (p29 : Int32) (p30 : Int32) (k31 : ClassId) (h0 : Heap) (n0 : Nat) (v : Option Value) (h : Heap) (L : List Loc) : Prop := (v = some (.int 0) ∧ Fr n0 L ∧ h = h0)
theorem rm20_78 (l : Launch) (Z : State) (a0 : Array Value) (hw : own_HW Z a0) (a1 : Addr) (a2 : Addr) (a7 : Addr) (a10 : Addr) (p16 : Int32) (a21 : Addr) (a23 : Addr) (p25 : Int32) (k26 : ClassId) (p28 : Int32) (p29 : Int32) (p30 : Int32) (k31 : ClassId) (h0 : Heap) (n0 : Nat) (O0 : Old Z n0 h0) (hne3 : a1 ≠ a2) (E_4 : Exa Z h0 a2 C_1) (F8 : Fld Z h0 a1 C_1 "text" C_2 (.ref a7)) (F11 : Fld Z h0 a2 C_1 "text" C_2 (.ref a10)) (E_13 : Exa Z h0 a7 C_0) (hne14 : a7 ≠ a10) (E_15 : Exa Z h0 a10 C_0) (S_17 : Sta Z Z.heap C_0 "COMPACT_STRINGS" "Z" (.int p16)) (hk18 : ¬ (p16 = (0 : Int32))) (F19 : Fld Z h0 a7 C_0 "coder" "B" (.int 0)) (F20 : Fld Z h0 a10 C_0 "coder" "B" (.int 0)) (F22 : Fld Z h0 a7 C_0 "value" "[B" (.ref a21)) (F24 : Fld Z h0 a10 C_0 "value" "[B" (.ref a23)) (V27 : Arv Z h0 a21 k26 .byte (1 : Int32) [(.int p25)] (.int (0 : Int32))) (V32 : Arv Z h0 a23 k31 .byte (3 : Int32) [(.int p28), (.int p29), (.int p30)] (.int (0 : Int32))) : own_Met l Z M_20 bc20 3 (some .boolean) ({ frames := 2, cells := 0, slots := 0, locals := 28 } : Room) #[(.ref a1), (.ref a2)] h0 (Q20_78 Z a1 a2 a7 a10 p16 a21 a23 p25 k26 p28 p29 p30 k31 h0 n0) := by
  refine own_body (L0 := #[vR a1, vR a2, .unset]) (plainFor_of_name pn_7) (fun m => by first | (simp [entryFrame, mkF, argsToLocals, Value.category]; done) | rfl) fun p e s m below meth c s₁ EN hx hby hml hown hnm hret X0 hZ e0 hh pre0 fin => ?_
  have N0 := Fr.nil n0
  obtain ⟨T5, X5, e5, st5⟩ := instY X0 hx hZ hown (ww98 hw) e0 (Ins.self E_4) (g := (mkF m 6 #[vR a1, vR a2, .unset] [(.ref a2)])) rfl rfl (hb hby d20_6)
  obtain ⟨T6, X6, e6, st6⟩ := castY X5 hx hZ hown (ww98 hw) e5 (Ins.self E_4) (g := (mkF m 13 #[vR a1, vR a2, .unset] [(.ref a2)])) rfl rfl (hb hby d20_13)
  obtain ⟨T9, X9, e9, st9⟩ := getF X6 hx hZ hown (host := "") (Or.inl (ww91 hw)) Via.refl e6 F8 (g := (mkF m 18 #[vR a1, vR a2, vR a2] [(.ref a1)])) rfl rfl (hb hby d20_18)
  obtain ⟨T12, X12, e12, st12⟩ := getF X9 hx hZ hown (host := "") (Or.inl (ww91 hw)) Via.refl e9 F11 (g := (mkF m 22 #[vR a1, vR a2, vR a2] [(.ref a2), (.ref a7)])) rfl rfl (hb hby d20_22)
  obtain ⟨_, T33, L33, X33, hQ33, st33⟩ := own_cV X12 hx hZ hown (ww100 hw) (ww101 hw) (notFace_of_selects (args := #[]) (mvT hZ (ww103 hw))) (ww103 hw) (ww102 hw) (ww2 hw) (ww104 hw) E_13 (rm21_79 l Z a0 hw a7 a10 p16 a21 a23 p25 k26 p28 p29 p30 k31 h0 n0 O0 hne14 E_15 S_17 hk18 F19 F20 F22 F24 V27 V32) e12 pd_19 hml (hb hby d20_25) (Ls := #[vR a1, vR a2, vR a2]) (W := 0) (argsL := [(.ref a10)]) (rest := [])
  obtain ⟨rfl, u35, u36⟩ := hQ33
  have N33 := Fr.app N0 u35
  refine fin (some (.int 0)) _ _ _ _ X33 nofun (fun fs hr => pre0 _ ?_) (own_atH u36 ?_) (by decide) (by decide)
  · refine o_aloadN X0 hx hby d20_0 rfl rfl (o_aloadN X0 hx hby d20_1 rfl rfl (Jvm.RoadKit.acmp (g := (mkF m 2 #[vR a1, vR a2, .unset] [(.ref a2), (.ref a1)])) X0 hx rfl rfl rfl (pc0 := 2) (pc' := 5) (same := false) rfl (hb hby d20_2) rfl (decide_eq_false fun q => hne3 (Value.ref.inj q)) (by decide) (by decide) (o_aloadN X0 hx hby d20_5 rfl rfl (st5 _ (o_ifN X5 hx hby d20_9 (by decide +kernel) (o_aloadN X5 hx hby d20_12 rfl rfl (st6 _ (o_astoreN X6 hx hby d20_16 rfl (Ls' := #[vR a1, vR a2, vR a2]) rfl (o_aloadN X6 hx hby d20_17 rfl rfl (st9 _ (o_aloadN X9 hx hby d20_21 rfl rfl (st12 _ (st33 _ (o_ifY X33 hx hby d20_28 (pc := 28) (pc' := 35) (by decide +kernel) (by decide) (by decide) (o_iconst X33 hx hby d20_35 (x := 0) rfl ?_)))))))))))))))
    exact retN X33 hx (t := .boolean) hret (by simp) (hb hby d20_36) hr
  · exact ⟨rfl, N33, rfl⟩
def Q22_83 (Z : State) (a1 : Addr) (a2 : Addr) (p3 : Int32) (p4 : Int32) (p5 : Int32) (k6 : ClassId) (p9 : Int32) (k10 : ClassId) (h0 : Heap) (n0 : Nat) (v : Option Value) (h : Heap) (L : List Loc) : Prop := (v = some (.int 0) ∧ Fr n0 L ∧ h = h0)
theorem rm22_83 (l : Launch) (Z : State) (a0 : Array Value) (hw : own_HW Z a0) (a1 : Addr) (a2 : Addr) (p3 : Int32) (p4 : Int32) (p5 : Int32) (k6 : ClassId) (p9 : Int32) (k10 : ClassId) (h0 : Heap) (n0 : Nat) (O0 : Old Z n0 h0) (V7 : Arv Z h0 a1 k6 .byte (3 : Int32) [(.int p3), (.int p4), (.int p5)] (.int (0 : Int32))) (V11 : Arv Z h0 a2 k10 .byte (1 : Int32) [(.int p9)] (.int (0 : Int32))) : own_Met l Z M_18 bc22 3 (some .boolean) ({ frames := 0, cells := 0, slots := 0, locals := 0 } : Room) #[(.ref a1), (.ref a2)] h0 (Q22_83 Z a1 a2 p3 p4 p5 k6 p9 k10 h0 n0) := by
  refine own_body (L0 := #[vR a1, vR a2, .unset]) (plainFor_of_name pn_6) (fun m => by first | (simp [entryFrame, mkF, argsToLocals, Value.category]; done) | rfl) fun p e s m below meth c s₁ EN hx hby hml hown hnm hret X0 hZ e0 hh pre0 fin => ?_
  have N0 := Fr.nil n0
  obtain ⟨cl8, Ar8, -, Sz8, Nn8, -, -⟩ := id V7
  obtain ⟨cl12, Ar12, -, Sz12, Nn12, -, -⟩ := id V11
  refine fin (some (.int 0)) _ _ _ _ X0 nofun (fun fs hr => pre0 _ ?_) (own_atH e0 ?_) (by decide) (by decide)
  · refine o_aloadN X0 hx hby d22_0 rfl rfl (X0.arraylength hx (by rw [e0]; exact Ar8.1) (State.isArrayOf_alike hZ.alike Ar8.2.1) (g := (mkF m 1 #[vR a1, vR a2, .unset] [(.ref a1)])) rfl rfl (hb hby d22_1) _ ?_)
    rw [len_of Sz8 Nn8]
    refine o_aloadN X0 hx hby d22_2 rfl rfl (X0.arraylength hx (by rw [e0]; exact Ar12.1) (State.isArrayOf_alike hZ.alike Ar12.2.1) (g := (mkF m 3 #[vR a1, vR a2, .unset] [(.ref a2), (.int 3)])) rfl rfl (hb hby d22_3) _ ?_)
    rw [len_of Sz12 Nn12]
    refine o_icmpY X0 hx hby d22_4 (pc := 4) (pc' := 34) (by decide +kernel) (by decide) (by decide) (o_iconst X0 hx hby d22_34 (x := 0) rfl ?_)
    exact retN X0 hx (t := .boolean) hret (by simp) (hb hby d22_35) hr
  · exact ⟨rfl, N0, rfl⟩
def Q21_82 (Z : State) (a1 : Addr) (a2 : Addr) (p7 : Int32) (a15 : Addr) (a18 : Addr) (p21 : Int32) (p22 : Int32) (p23 : Int32) (k24 : ClassId) (p26 : Int32) (k27 : ClassId) (h0 : Heap) (n0 : Nat) (v : Option Value) (h : Heap) (L : List Loc) : Prop := (v = some (.int 0) ∧ Fr n0 L ∧ h = h0)
theorem rm21_82 (l : Launch) (Z : State) (a0 : Array Value) (hw : own_HW Z a0) (a1 : Addr) (a2 : Addr) (p7 : Int32) (a15 : Addr) (a18 : Addr) (p21 : Int32) (p22 : Int32) (p23 : Int32) (k24 : ClassId) (p26 : Int32) (k27 : ClassId) (h0 : Heap) (n0 : Nat) (O0 : Old Z n0 h0) (hne3 : a1 ≠ a2) (E_4 : Exa Z h0 a2 C_0) (S_8 : Sta Z Z.heap C_0 "COMPACT_STRINGS" "Z" (.int p7)) (hk10 : ¬ (p7 = (0 : Int32))) (F11 : Fld Z h0 a1 C_0 "coder" "B" (.int 0)) (F13 : Fld Z h0 a2 C_0 "coder" "B" (.int 0)) (F16 : Fld Z h0 a1 C_0 "value" "[B" (.ref a15)) (F19 : Fld Z h0 a2 C_0 "value" "[B" (.ref a18)) (V25 : Arv Z h0 a15 k24 .byte (3 : Int32) [(.int p21), (.int p22), (.int p23)] (.int (0 : Int32))) (V28 : Arv Z h0 a18 k27 .byte (1 : Int32) [(.int p26)] (.int (0 : Int32))) : own_Met l Z M_19 bc21 3 (some .boolean) ({ frames := 1, cells := 0, slots := 0, locals := 14 } : Room) #[(.ref a1), (.ref a2)] h0 (Q21_82 Z a1 a2 p7 a15 a18 p21 p22 p23 k24 p26 k27 h0 n0) := by
  refine own_body (L0 := #[vR a1, vR a2, .unset]) (plainFor_of_name pn_2) (fun m => by first | (simp [entryFrame, mkF, argsToLocals, Value.category]; done) | rfl) fun p e s m below meth c s₁ EN hx hby hml hown hnm hret X0 hZ e0 hh pre0 fin => ?_
  have N0 := Fr.nil n0
  obtain ⟨T5, X5, e5, st5⟩ := instY X0 hx hZ hown (ww105 hw) e0 (Ins.self E_4) (g := (mkF m 8 #[vR a1, vR a2, .unset] [(.ref a2)])) rfl rfl (hb hby d21_8)
  obtain ⟨T6, X6, e6, st6⟩ := castY X5 hx hZ hown (ww105 hw) e5 (Ins.self E_4) (g := (mkF m 15 #[vR a1, vR a2, .unset] [(.ref a2)])) rfl rfl (hb hby d21_15)
  obtain ⟨T9, X9, e9, st9⟩ := getS2 X6 hx hZ hown (host := "") (Or.inl (ww18 hw)) Via.refl e6 (Sta.ext O0.2 S_8) (g := (mkF m 19 #[vR a1, vR a2, vR a2] [])) rfl (hb hby d21_19)
  obtain ⟨T12, X12, e12, st12⟩ := getF X9 hx hZ hown (host := "") (Or.inl (ww30 hw)) Via.refl e9 F11 (g := (mkF m 26 #[vR a1, vR a2, vR a2] [(.ref a1)])) rfl rfl (hb hby d21_26)
  obtain ⟨T14, X14, e14, st14⟩ := getF X12 hx hZ hown (host := "") (Or.inl (ww30 hw)) Via.refl e12 F13 (g := (mkF m 30 #[vR a1, vR a2, vR a2] [(.ref a2), (.int 0)])) rfl rfl (hb hby d21_30)
  obtain ⟨T17, X17, e17, st17⟩ := getF X14 hx hZ hown (host := "") (Or.inl (ww32 hw)) Via.refl e14 F16 (g := (mkF m 37 #[vR a1, vR a2, vR a2] [(.ref a1)])) rfl rfl (hb hby d21_37)
  obtain ⟨T20, X20, e20, st20⟩ := getF X17 hx hZ hown (host := "") (Or.inl (ww32 hw)) Via.refl e17 F19 (g := (mkF m 41 #[vR a1, vR a2, vR a2] [(.ref a2), (.ref a15)])) rfl rfl (hb hby d21_41)
  obtain ⟨_, T29, L29, X29, hQ29, st29⟩ := own_cS X20 hx hZ hown (ww106 hw) (ww107 hw) (ww78 hw) (ww108 hw) (rm22_83 l Z a0 hw a15 a18 p21 p22 p23 k24 p26 k27 h0 n0 O0 V25 V28) e20 pd_18 hml (hb hby d21_44) (Ls := #[vR a1, vR a2, vR a2]) (W := 0) (argsL := [(.ref a15), (.ref a18)]) (rest := [])
  obtain ⟨rfl, u31, u32⟩ := hQ29
  have N29 := Fr.app N0 u31
  refine fin (some (.int 0)) _ _ _ _ X29 nofun (fun fs hr => pre0 _ ?_) (own_atH u32 ?_) (by decide) (by decide)
  · refine o_aloadN X0 hx hby d21_0 rfl rfl (o_aloadN X0 hx hby d21_1 rfl rfl (Jvm.RoadKit.acmp (g := (mkF m 2 #[vR a1, vR a2, .unset] [(.ref a2), (.ref a1)])) X0 hx rfl rfl rfl (pc0 := 2) (pc' := 7) (same := false) rfl (hb hby d21_2) rfl (decide_eq_false fun q => hne3 (Value.ref.inj q)) (by decide) (by decide) (o_aloadN X0 hx hby d21_7 rfl rfl (st5 _ (o_ifN X5 hx hby d21_11 (by decide +kernel) (o_aloadN X5 hx hby d21_14 rfl rfl (st6 _ (o_astoreN X6 hx hby d21_18 rfl (Ls' := #[vR a1, vR a2, vR a2]) rfl (st9 _ (o_ifN X9 hx hby d21_22 ((if0 _ _).trans (feq hk10).1) (o_aloadN X9 hx hby d21_25 rfl rfl (st12 _ (o_aloadN X12 hx hby d21_29 rfl rfl (st14 _ (o_icmpN X14 hx hby d21_33 (by decide +kernel) (o_aloadN X14 hx hby d21_36 rfl rfl (st17 _ (o_aloadN X17 hx hby d21_40 rfl rfl (st20 _ (st29 _ (o_ifY X29 hx hby d21_47 (pc := 47) (pc' := 54) (by decide +kernel) (by decide) (by decide) (o_iconst X29 hx hby d21_54 (x := 0) rfl ?_))))))))))))))))))))))
    exact retN X29 hx (t := .boolean) hret (by simp) (hb hby d21_55) hr
  · exact ⟨rfl, N29, rfl⟩
def Q20_81 (Z : State) (a1 : Addr) (a2 : Addr) (a7 : Addr) (a10 : Addr) (p16 : Int32) (a21 : Addr) (a23 : Addr) (p25 : Int32) (p26 : Int32) (p27 : Int32) (k28 : ClassId) (p30 : Int32) (k31 : ClassId) (h0 : Heap) (n0 : Nat) (v : Option Value) (h : Heap) (L : List Loc) : Prop := (v = some (.int 0) ∧ Fr n0 L ∧ h = h0)
theorem rm20_81 (l : Launch) (Z : State) (a0 : Array Value) (hw : own_HW Z a0) (a1 : Addr) (a2 : Addr) (a7 : Addr) (a10 : Addr) (p16 : Int32) (a21 : Addr) (a23 : Addr) (p25 : Int32) (p26 : Int32) (p27 : Int32) (k28 : ClassId) (p30 : Int32) (k31 : ClassId) (h0 : Heap) (n0 : Nat) (O0 : Old Z n0 h0) (hne3 : a1 ≠ a2) (E_4 : Exa Z h0 a2 C_1) (F8 : Fld Z h0 a1 C_1 "text" C_2 (.ref a7)) (F11 : Fld Z h0 a2 C_1 "text" C_2 (.ref a10)) (E_13 : Exa Z h0 a7 C_0) (hne14 : a7 ≠ a10) (E_15 : Exa Z h0 a10 C_0) (S_17 : Sta Z Z.heap C_0 "COMPACT_STRINGS" "Z" (.int p16)) (hk18 : ¬ (p16 = (0 : Int32))) (F19 : Fld Z h0 a7 C_0 "coder" "B" (.int 0)) (F20 : Fld Z h0 a10 C_0 "coder" "B" (.int 0)) (F22 : Fld Z h0 a7 C_0 "value" "[B" (.ref a21)) (F24 : Fld Z h0 a10 C_0 "value" "[B" (.ref a23)) (V29 : Arv Z h0 a21 k28 .byte (3 : Int32) [(.int p25), (.int p26), (.int p27)] (.int (0 : Int32))) (V32 : Arv Z h0 a23 k31 .byte (1 : Int32) [(.int p30)] (.int (0 : Int32))) : own_Met l Z M_20 bc20 3 (some .boolean) ({ frames := 2, cells := 0, slots := 0, locals := 28 } : Room) #[(.ref a1), (.ref a2)] h0 (Q20_81 Z a1 a2 a7 a10 p16 a21 a23 p25 p26 p27 k28 p30 k31 h0 n0) := by
  refine own_body (L0 := #[vR a1, vR a2, .unset]) (plainFor_of_name pn_7) (fun m => by first | (simp [entryFrame, mkF, argsToLocals, Value.category]; done) | rfl) fun p e s m below meth c s₁ EN hx hby hml hown hnm hret X0 hZ e0 hh pre0 fin => ?_
  have N0 := Fr.nil n0
  obtain ⟨T5, X5, e5, st5⟩ := instY X0 hx hZ hown (ww98 hw) e0 (Ins.self E_4) (g := (mkF m 6 #[vR a1, vR a2, .unset] [(.ref a2)])) rfl rfl (hb hby d20_6)
  obtain ⟨T6, X6, e6, st6⟩ := castY X5 hx hZ hown (ww98 hw) e5 (Ins.self E_4) (g := (mkF m 13 #[vR a1, vR a2, .unset] [(.ref a2)])) rfl rfl (hb hby d20_13)
  obtain ⟨T9, X9, e9, st9⟩ := getF X6 hx hZ hown (host := "") (Or.inl (ww91 hw)) Via.refl e6 F8 (g := (mkF m 18 #[vR a1, vR a2, vR a2] [(.ref a1)])) rfl rfl (hb hby d20_18)
  obtain ⟨T12, X12, e12, st12⟩ := getF X9 hx hZ hown (host := "") (Or.inl (ww91 hw)) Via.refl e9 F11 (g := (mkF m 22 #[vR a1, vR a2, vR a2] [(.ref a2), (.ref a7)])) rfl rfl (hb hby d20_22)
  obtain ⟨_, T33, L33, X33, hQ33, st33⟩ := own_cV X12 hx hZ hown (ww100 hw) (ww101 hw) (notFace_of_selects (args := #[]) (mvT hZ (ww103 hw))) (ww103 hw) (ww102 hw) (ww2 hw) (ww104 hw) E_13 (rm21_82 l Z a0 hw a7 a10 p16 a21 a23 p25 p26 p27 k28 p30 k31 h0 n0 O0 hne14 E_15 S_17 hk18 F19 F20 F22 F24 V29 V32) e12 pd_19 hml (hb hby d20_25) (Ls := #[vR a1, vR a2, vR a2]) (W := 0) (argsL := [(.ref a10)]) (rest := [])
  obtain ⟨rfl, u35, u36⟩ := hQ33
  have N33 := Fr.app N0 u35
  refine fin (some (.int 0)) _ _ _ _ X33 nofun (fun fs hr => pre0 _ ?_) (own_atH u36 ?_) (by decide) (by decide)
  · refine o_aloadN X0 hx hby d20_0 rfl rfl (o_aloadN X0 hx hby d20_1 rfl rfl (Jvm.RoadKit.acmp (g := (mkF m 2 #[vR a1, vR a2, .unset] [(.ref a2), (.ref a1)])) X0 hx rfl rfl rfl (pc0 := 2) (pc' := 5) (same := false) rfl (hb hby d20_2) rfl (decide_eq_false fun q => hne3 (Value.ref.inj q)) (by decide) (by decide) (o_aloadN X0 hx hby d20_5 rfl rfl (st5 _ (o_ifN X5 hx hby d20_9 (by decide +kernel) (o_aloadN X5 hx hby d20_12 rfl rfl (st6 _ (o_astoreN X6 hx hby d20_16 rfl (Ls' := #[vR a1, vR a2, vR a2]) rfl (o_aloadN X6 hx hby d20_17 rfl rfl (st9 _ (o_aloadN X9 hx hby d20_21 rfl rfl (st12 _ (st33 _ (o_ifY X33 hx hby d20_28 (pc := 28) (pc' := 35) (by decide +kernel) (by decide) (by decide) (o_iconst X33 hx hby d20_35 (x := 0) rfl ?_)))))))))))))))
    exact retN X33 hx (t := .boolean) hret (by simp) (hb hby d20_36) hr
  · exact ⟨rfl, N33, rfl⟩
def Q22_86 (Z : State) (a1 : Addr) (a2 : Addr) (p3 : Int32) (p4 : Int32) (k5 : ClassId) (p8 : Int32) (p9 : Int32) (k10 : ClassId) (h0 : Heap) (n0 : Nat) (v : Option Value) (h : Heap) (L : List Loc) : Prop := (v = some (.int 1) ∧ Fr n0 L ∧ h = h0)
theorem rm22_86 (l : Launch) (Z : State) (a0 : Array Value) (hw : own_HW Z a0) (a1 : Addr) (a2 : Addr) (p3 : Int32) (p4 : Int32) (k5 : ClassId) (p8 : Int32) (p9 : Int32) (k10 : ClassId) (h0 : Heap) (n0 : Nat) (O0 : Old Z n0 h0) (V6 : Arv Z h0 a1 k5 .byte (2 : Int32) [(.int p3), (.int p4)] (.int (0 : Int32))) (V11 : Arv Z h0 a2 k10 .byte (2 : Int32) [(.int p8), (.int p9)] (.int (0 : Int32))) (hk16 : p3 = p8) (hk20 : p4 = p9) : own_Met l Z M_18 bc22 3 (some .boolean) ({ frames := 0, cells := 0, slots := 0, locals := 0 } : Room) #[(.ref a1), (.ref a2)] h0 (Q22_86 Z a1 a2 p3 p4 k5 p8 p9 k10 h0 n0) := by
  refine own_body (L0 := #[vR a1, vR a2, .unset]) (plainFor_of_name pn_6) (fun m => by first | (simp [entryFrame, mkF, argsToLocals, Value.category]; done) | rfl) fun p e s m below meth c s₁ EN hx hby hml hown hnm hret X0 hZ e0 hh pre0 fin => ?_
  have N0 := Fr.nil n0
  obtain ⟨cl7, Ar7, -, Sz7, Nn7, -, -⟩ := id V6
  obtain ⟨cl12, Ar12, -, Sz12, Nn12, -, -⟩ := id V11
  obtain ⟨cl13, Ar13, -, Sz13, Nn13, -, -⟩ := id V6
  obtain ⟨cl14, Ar14, -, Sz14, -, Hh14, -⟩ := id V6
  have hin14 : ¬ ((0 : Int32) < 0 ∨ cl14.slots.size ≤ ((0 : Int32)).toNatClampNeg) := inb_of Sz14 ⟨by decide +kernel, by decide +kernel⟩
  have hat14 : cl14.slots[((0 : Int32)).toNatClampNeg]? = some (.int p3) := Has.at Hh14 hin14 rfl
  obtain ⟨cl15, Ar15, -, Sz15, -, Hh15, -⟩ := id V11
  have hin15 : ¬ ((0 : Int32) < 0 ∨ cl15.slots.size ≤ ((0 : Int32)).toNatClampNeg) := inb_of Sz15 ⟨by decide +kernel, by decide +kernel⟩
  have hat15 : cl15.slots[((0 : Int32)).toNatClampNeg]? = some (.int p8) := Has.at Hh15 hin15 rfl
  obtain ⟨cl17, Ar17, -, Sz17, Nn17, -, -⟩ := id V6
  obtain ⟨cl18, Ar18, -, Sz18, -, Hh18, -⟩ := id V6
  have hin18 : ¬ ((1 : Int32) < 0 ∨ cl18.slots.size ≤ ((1 : Int32)).toNatClampNeg) := inb_of Sz18 ⟨by decide +kernel, by decide +kernel⟩
  have hat18 : cl18.slots[((1 : Int32)).toNatClampNeg]? = some (.int p4) := Has.at Hh18 hin18 rfl
  obtain ⟨cl19, Ar19, -, Sz19, -, Hh19, -⟩ := id V11
  have hin19 : ¬ ((1 : Int32) < 0 ∨ cl19.slots.size ≤ ((1 : Int32)).toNatClampNeg) := inb_of Sz19 ⟨by decide +kernel, by decide +kernel⟩
  have hat19 : cl19.slots[((1 : Int32)).toNatClampNeg]? = some (.int p9) := Has.at Hh19 hin19 rfl
  obtain ⟨cl21, Ar21, -, Sz21, Nn21, -, -⟩ := id V6
  refine fin (some (.int 1)) _ _ _ _ X0 nofun (fun fs hr => pre0 _ ?_) (own_atH e0 ?_) (by decide) (by decide)
  · refine o_aloadN X0 hx hby d22_0 rfl rfl (X0.arraylength hx (by rw [e0]; exact Ar7.1) (State.isArrayOf_alike hZ.alike Ar7.2.1) (g := (mkF m 1 #[vR a1, vR a2, .unset] [(.ref a1)])) rfl rfl (hb hby d22_1) _ ?_)
    rw [len_of Sz7 Nn7]
    refine o_aloadN X0 hx hby d22_2 rfl rfl (X0.arraylength hx (by rw [e0]; exact Ar12.1) (State.isArrayOf_alike hZ.alike Ar12.2.1) (g := (mkF m 3 #[vR a1, vR a2, .unset] [(.ref a2), (.int 2)])) rfl rfl (hb hby d22_3) _ ?_)
    rw [len_of Sz12 Nn12]
    refine o_icmpN X0 hx hby d22_4 (by decide +kernel) (o_iconst X0 hx hby d22_7 (x := 0) rfl (o_istoreN X0 hx hby d22_8 (Ls' := #[vR a1, vR a2, vI 0]) rfl (o_iloadN X0 hx hby d22_9 rfl (o_aloadN X0 hx hby d22_10 rfl rfl (X0.arraylength hx (by rw [e0]; exact Ar13.1) (State.isArrayOf_alike hZ.alike Ar13.2.1) (g := (mkF m 11 #[vR a1, vR a2, vI 0] [(.ref a1), (.int 0)])) rfl rfl (hb hby d22_11) _ ?_)))))
    rw [len_of Sz13 Nn13]
    refine o_icmpN X0 hx hby d22_12 (by decide +kernel) (o_aloadN X0 hx hby d22_15 rfl rfl (o_iloadN X0 hx hby d22_16 rfl (X0.baloadBytes hx (j := (0 : Int32)) (v := (.int p3)) (by rw [e0]; exact Ar14.1) (State.isArrayOf_alike hZ.alike Ar14.2.1) Ar14.2.2 hin14 hat14 (g := (mkF m 17 #[vR a1, vR a2, vI 0] [(.int 0), (.ref a1)])) rfl rfl (hb hby d22_17) _ (o_aloadN X0 hx hby d22_18 rfl rfl (o_iloadN X0 hx hby d22_19 rfl (X0.baloadBytes hx (j := (0 : Int32)) (v := (.int p8)) (by rw [e0]; exact Ar15.1) (State.isArrayOf_alike hZ.alike Ar15.2.1) Ar15.2.2 hin15 hat15 (g := (mkF m 20 #[vR a1, vR a2, vI 0] [(.int 0), (.ref a2), (.int p3)])) rfl rfl (hb hby d22_20) _ (o_icmpY X0 hx hby d22_21 (pc := 21) (pc' := 26) (teq hk16).1 (by decide) (by decide) (o_iinc X0 hx hby d22_26 rfl (z := (1 : Int32)) (k' := 1) rfl (by decide +kernel) (Ls' := #[vR a1, vR a2, vI 1]) rfl (o_goto X0 hx hby d22_29 (pc := 29) (pc' := 9) (by decide) (by decide) (o_iloadN X0 hx hby d22_9 rfl (o_aloadN X0 hx hby d22_10 rfl rfl (X0.arraylength hx (by rw [e0]; exact Ar17.1) (State.isArrayOf_alike hZ.alike Ar17.2.1) (g := (mkF m 11 #[vR a1, vR a2, vI 1] [(.ref a1), (.int 1)])) rfl rfl (hb hby d22_11) _ ?_))))))))))))
    rw [len_of Sz17 Nn17]
    refine o_icmpN X0 hx hby d22_12 (by decide +kernel) (o_aloadN X0 hx hby d22_15 rfl rfl (o_iloadN X0 hx hby d22_16 rfl (X0.baloadBytes hx (j := (1 : Int32)) (v := (.int p4)) (by rw [e0]; exact Ar18.1) (State.isArrayOf_alike hZ.alike Ar18.2.1) Ar18.2.2 hin18 hat18 (g := (mkF m 17 #[vR a1, vR a2, vI 1] [(.int 1), (.ref a1)])) rfl rfl (hb hby d22_17) _ (o_aloadN X0 hx hby d22_18 rfl rfl (o_iloadN X0 hx hby d22_19 rfl (X0.baloadBytes hx (j := (1 : Int32)) (v := (.int p9)) (by rw [e0]; exact Ar19.1) (State.isArrayOf_alike hZ.alike Ar19.2.1) Ar19.2.2 hin19 hat19 (g := (mkF m 20 #[vR a1, vR a2, vI 1] [(.int 1), (.ref a2), (.int p4)])) rfl rfl (hb hby d22_20) _ (o_icmpY X0 hx hby d22_21 (pc := 21) (pc' := 26) (teq hk20).1 (by decide) (by decide) (o_iinc X0 hx hby d22_26 rfl (z := (2 : Int32)) (k' := 1) rfl (by decide +kernel) (Ls' := #[vR a1, vR a2, vI 2]) rfl (o_goto X0 hx hby d22_29 (pc := 29) (pc' := 9) (by decide) (by decide) (o_iloadN X0 hx hby d22_9 rfl (o_aloadN X0 hx hby d22_10 rfl rfl (X0.arraylength hx (by rw [e0]; exact Ar21.1) (State.isArrayOf_alike hZ.alike Ar21.2.1) (g := (mkF m 11 #[vR a1, vR a2, vI 2] [(.ref a1), (.int 2)])) rfl rfl (hb hby d22_11) _ ?_))))))))))))
    rw [len_of Sz21 Nn21]
    refine o_icmpY X0 hx hby d22_12 (pc := 12) (pc' := 32) (by decide +kernel) (by decide) (by decide) (o_iconst X0 hx hby d22_32 (x := 1) rfl ?_)
    exact retN X0 hx (t := .boolean) hret (by simp) (hb hby d22_33) hr
  · exact ⟨rfl, N0, rfl⟩
def Q21_85 (Z : State) (a1 : Addr) (a2 : Addr) (p7 : Int32) (a15 : Addr) (a18 : Addr) (p21 : Int32) (p22 : Int32) (k23 : ClassId) (p25 : Int32) (p26 : Int32) (k27 : ClassId) (h0 : Heap) (n0 : Nat) (v : Option Value) (h : Heap) (L : List Loc) : Prop := (v = some (.int 1) ∧ Fr n0 L ∧ h = h0)
theorem rm21_85 (l : Launch) (Z : State) (a0 : Array Value) (hw : own_HW Z a0) (a1 : Addr) (a2 : Addr) (p7 : Int32) (a15 : Addr) (a18 : Addr) (p21 : Int32) (p22 : Int32) (k23 : ClassId) (p25 : Int32) (p26 : Int32) (k27 : ClassId) (h0 : Heap) (n0 : Nat) (O0 : Old Z n0 h0) (hne3 : a1 ≠ a2) (E_4 : Exa Z h0 a2 C_0) (S_8 : Sta Z Z.heap C_0 "COMPACT_STRINGS" "Z" (.int p7)) (hk10 : ¬ (p7 = (0 : Int32))) (F11 : Fld Z h0 a1 C_0 "coder" "B" (.int 0)) (F13 : Fld Z h0 a2 C_0 "coder" "B" (.int 0)) (F16 : Fld Z h0 a1 C_0 "value" "[B" (.ref a15)) (F19 : Fld Z h0 a2 C_0 "value" "[B" (.ref a18)) (V24 : Arv Z h0 a15 k23 .byte (2 : Int32) [(.int p21), (.int p22)] (.int (0 : Int32))) (V28 : Arv Z h0 a18 k27 .byte (2 : Int32) [(.int p25), (.int p26)] (.int (0 : Int32))) (hk29 : p21 = p25) (hk30 : p22 = p26) : own_Met l Z M_19 bc21 3 (some .boolean) ({ frames := 1, cells := 0, slots := 0, locals := 14 } : Room) #[(.ref a1), (.ref a2)] h0 (Q21_85 Z a1 a2 p7 a15 a18 p21 p22 k23 p25 p26 k27 h0 n0) := by
  refine own_body (L0 := #[vR a1, vR a2, .unset]) (plainFor_of_name pn_2) (fun m => by first | (simp [entryFrame, mkF, argsToLocals, Value.category]; done) | rfl) fun p e s m below meth c s₁ EN hx hby hml hown hnm hret X0 hZ e0 hh pre0 fin => ?_
  have N0 := Fr.nil n0
  obtain ⟨T5, X5, e5, st5⟩ := instY X0 hx hZ hown (ww105 hw) e0 (Ins.self E_4) (g := (mkF m 8 #[vR a1, vR a2, .unset] [(.ref a2)])) rfl rfl (hb hby d21_8)
  obtain ⟨T6, X6, e6, st6⟩ := castY X5 hx hZ hown (ww105 hw) e5 (Ins.self E_4) (g := (mkF m 15 #[vR a1, vR a2, .unset] [(.ref a2)])) rfl rfl (hb hby d21_15)
  obtain ⟨T9, X9, e9, st9⟩ := getS2 X6 hx hZ hown (host := "") (Or.inl (ww18 hw)) Via.refl e6 (Sta.ext O0.2 S_8) (g := (mkF m 19 #[vR a1, vR a2, vR a2] [])) rfl (hb hby d21_19)
  obtain ⟨T12, X12, e12, st12⟩ := getF X9 hx hZ hown (host := "") (Or.inl (ww30 hw)) Via.refl e9 F11 (g := (mkF m 26 #[vR a1, vR a2, vR a2] [(.ref a1)])) rfl rfl (hb hby d21_26)
  obtain ⟨T14, X14, e14, st14⟩ := getF X12 hx hZ hown (host := "") (Or.inl (ww30 hw)) Via.refl e12 F13 (g := (mkF m 30 #[vR a1, vR a2, vR a2] [(.ref a2), (.int 0)])) rfl rfl (hb hby d21_30)
  obtain ⟨T17, X17, e17, st17⟩ := getF X14 hx hZ hown (host := "") (Or.inl (ww32 hw)) Via.refl e14 F16 (g := (mkF m 37 #[vR a1, vR a2, vR a2] [(.ref a1)])) rfl rfl (hb hby d21_37)
  obtain ⟨T20, X20, e20, st20⟩ := getF X17 hx hZ hown (host := "") (Or.inl (ww32 hw)) Via.refl e17 F19 (g := (mkF m 41 #[vR a1, vR a2, vR a2] [(.ref a2), (.ref a15)])) rfl rfl (hb hby d21_41)
  obtain ⟨_, T31, L31, X31, hQ31, st31⟩ := own_cS X20 hx hZ hown (ww106 hw) (ww107 hw) (ww78 hw) (ww108 hw) (rm22_86 l Z a0 hw a15 a18 p21 p22 k23 p25 p26 k27 h0 n0 O0 V24 V28 hk29 hk30) e20 pd_18 hml (hb hby d21_44) (Ls := #[vR a1, vR a2, vR a2]) (W := 0) (argsL := [(.ref a15), (.ref a18)]) (rest := [])
  obtain ⟨rfl, u33, u34⟩ := hQ31
  have N31 := Fr.app N0 u33
  refine fin (some (.int 1)) _ _ _ _ X31 nofun (fun fs hr => pre0 _ ?_) (own_atH u34 ?_) (by decide) (by decide)
  · refine o_aloadN X0 hx hby d21_0 rfl rfl (o_aloadN X0 hx hby d21_1 rfl rfl (Jvm.RoadKit.acmp (g := (mkF m 2 #[vR a1, vR a2, .unset] [(.ref a2), (.ref a1)])) X0 hx rfl rfl rfl (pc0 := 2) (pc' := 7) (same := false) rfl (hb hby d21_2) rfl (decide_eq_false fun q => hne3 (Value.ref.inj q)) (by decide) (by decide) (o_aloadN X0 hx hby d21_7 rfl rfl (st5 _ (o_ifN X5 hx hby d21_11 (by decide +kernel) (o_aloadN X5 hx hby d21_14 rfl rfl (st6 _ (o_astoreN X6 hx hby d21_18 rfl (Ls' := #[vR a1, vR a2, vR a2]) rfl (st9 _ (o_ifN X9 hx hby d21_22 ((if0 _ _).trans (feq hk10).1) (o_aloadN X9 hx hby d21_25 rfl rfl (st12 _ (o_aloadN X12 hx hby d21_29 rfl rfl (st14 _ (o_icmpN X14 hx hby d21_33 (by decide +kernel) (o_aloadN X14 hx hby d21_36 rfl rfl (st17 _ (o_aloadN X17 hx hby d21_40 rfl rfl (st20 _ (st31 _ (o_ifN X31 hx hby d21_47 (by decide +kernel) (o_iconst X31 hx hby d21_50 (x := 1) rfl (o_goto X31 hx hby d21_51 (pc := 51) (pc' := 55) (by decide) (by decide) ?_)))))))))))))))))))))))
    exact retN X31 hx (t := .boolean) hret (by simp) (hb hby d21_55) hr
  · exact ⟨rfl, N31, rfl⟩
def Q20_84 (Z : State) (a1 : Addr) (a2 : Addr) (a7 : Addr) (a10 : Addr) (p16 : Int32) (a21 : Addr) (a23 : Addr) (p25 : Int32) (p26 : Int32) (k27 : ClassId) (p29 : Int32) (p30 : Int32) (k31 : ClassId) (h0 : Heap) (n0 : Nat) (v : Option Value) (h : Heap) (L : List Loc) : Prop := (v = some (.int 1) ∧ Fr n0 L ∧ h = h0)
theorem rm20_84 (l : Launch) (Z : State) (a0 : Array Value) (hw : own_HW Z a0) (a1 : Addr) (a2 : Addr) (a7 : Addr) (a10 : Addr) (p16 : Int32) (a21 : Addr) (a23 : Addr) (p25 : Int32) (p26 : Int32) (k27 : ClassId) (p29 : Int32) (p30 : Int32) (k31 : ClassId) (h0 : Heap) (n0 : Nat) (O0 : Old Z n0 h0) (hne3 : a1 ≠ a2) (E_4 : Exa Z h0 a2 C_1) (F8 : Fld Z h0 a1 C_1 "text" C_2 (.ref a7)) (F11 : Fld Z h0 a2 C_1 "text" C_2 (.ref a10)) (E_13 : Exa Z h0 a7 C_0) (hne14 : a7 ≠ a10) (E_15 : Exa Z h0 a10 C_0) (S_17 : Sta Z Z.heap C_0 "COMPACT_STRINGS" "Z" (.int p16)) (hk18 : ¬ (p16 = (0 : Int32))) (F19 : Fld Z h0 a7 C_0 "coder" "B" (.int 0)) (F20 : Fld Z h0 a10 C_0 "coder" "B" (.int 0)) (F22 : Fld Z h0 a7 C_0 "value" "[B" (.ref a21)) (F24 : Fld Z h0 a10 C_0 "value" "[B" (.ref a23)) (V28 : Arv Z h0 a21 k27 .byte (2 : Int32) [(.int p25), (.int p26)] (.int (0 : Int32))) (V32 : Arv Z h0 a23 k31 .byte (2 : Int32) [(.int p29), (.int p30)] (.int (0 : Int32))) (hk33 : p25 = p29) (hk34 : p26 = p30) : own_Met l Z M_20 bc20 3 (some .boolean) ({ frames := 2, cells := 0, slots := 0, locals := 28 } : Room) #[(.ref a1), (.ref a2)] h0 (Q20_84 Z a1 a2 a7 a10 p16 a21 a23 p25 p26 k27 p29 p30 k31 h0 n0) := by
  refine own_body (L0 := #[vR a1, vR a2, .unset]) (plainFor_of_name pn_7) (fun m => by first | (simp [entryFrame, mkF, argsToLocals, Value.category]; done) | rfl) fun p e s m below meth c s₁ EN hx hby hml hown hnm hret X0 hZ e0 hh pre0 fin => ?_
  have N0 := Fr.nil n0
  obtain ⟨T5, X5, e5, st5⟩ := instY X0 hx hZ hown (ww98 hw) e0 (Ins.self E_4) (g := (mkF m 6 #[vR a1, vR a2, .unset] [(.ref a2)])) rfl rfl (hb hby d20_6)
  obtain ⟨T6, X6, e6, st6⟩ := castY X5 hx hZ hown (ww98 hw) e5 (Ins.self E_4) (g := (mkF m 13 #[vR a1, vR a2, .unset] [(.ref a2)])) rfl rfl (hb hby d20_13)
  obtain ⟨T9, X9, e9, st9⟩ := getF X6 hx hZ hown (host := "") (Or.inl (ww91 hw)) Via.refl e6 F8 (g := (mkF m 18 #[vR a1, vR a2, vR a2] [(.ref a1)])) rfl rfl (hb hby d20_18)
  obtain ⟨T12, X12, e12, st12⟩ := getF X9 hx hZ hown (host := "") (Or.inl (ww91 hw)) Via.refl e9 F11 (g := (mkF m 22 #[vR a1, vR a2, vR a2] [(.ref a2), (.ref a7)])) rfl rfl (hb hby d20_22)
  obtain ⟨_, T35, L35, X35, hQ35, st35⟩ := own_cV X12 hx hZ hown (ww100 hw) (ww101 hw) (notFace_of_selects (args := #[]) (mvT hZ (ww103 hw))) (ww103 hw) (ww102 hw) (ww2 hw) (ww104 hw) E_13 (rm21_85 l Z a0 hw a7 a10 p16 a21 a23 p25 p26 k27 p29 p30 k31 h0 n0 O0 hne14 E_15 S_17 hk18 F19 F20 F22 F24 V28 V32 hk33 hk34) e12 pd_19 hml (hb hby d20_25) (Ls := #[vR a1, vR a2, vR a2]) (W := 0) (argsL := [(.ref a10)]) (rest := [])
  obtain ⟨rfl, u37, u38⟩ := hQ35
  have N35 := Fr.app N0 u37
  refine fin (some (.int 1)) _ _ _ _ X35 nofun (fun fs hr => pre0 _ ?_) (own_atH u38 ?_) (by decide) (by decide)
  · refine o_aloadN X0 hx hby d20_0 rfl rfl (o_aloadN X0 hx hby d20_1 rfl rfl (Jvm.RoadKit.acmp (g := (mkF m 2 #[vR a1, vR a2, .unset] [(.ref a2), (.ref a1)])) X0 hx rfl rfl rfl (pc0 := 2) (pc' := 5) (same := false) rfl (hb hby d20_2) rfl (decide_eq_false fun q => hne3 (Value.ref.inj q)) (by decide) (by decide) (o_aloadN X0 hx hby d20_5 rfl rfl (st5 _ (o_ifN X5 hx hby d20_9 (by decide +kernel) (o_aloadN X5 hx hby d20_12 rfl rfl (st6 _ (o_astoreN X6 hx hby d20_16 rfl (Ls' := #[vR a1, vR a2, vR a2]) rfl (o_aloadN X6 hx hby d20_17 rfl rfl (st9 _ (o_aloadN X9 hx hby d20_21 rfl rfl (st12 _ (st35 _ (o_ifN X35 hx hby d20_28 (by decide +kernel) (o_iconst X35 hx hby d20_31 (x := 1) rfl (o_goto X35 hx hby d20_32 (pc := 32) (pc' := 36) (by decide) (by decide) ?_))))))))))))))))
    exact retN X35 hx (t := .boolean) hret (by simp) (hb hby d20_36) hr
  · exact ⟨rfl, N35, rfl⟩
def Q22_89 (Z : State) (a1 : Addr) (a2 : Addr) (p3 : Int32) (p4 : Int32) (k5 : ClassId) (p8 : Int32) (p9 : Int32) (k10 : ClassId) (h0 : Heap) (n0 : Nat) (v : Option Value) (h : Heap) (L : List Loc) : Prop := (v = some (.int 0) ∧ Fr n0 L ∧ h = h0)
theorem rm22_89 (l : Launch) (Z : State) (a0 : Array Value) (hw : own_HW Z a0) (a1 : Addr) (a2 : Addr) (p3 : Int32) (p4 : Int32) (k5 : ClassId) (p8 : Int32) (p9 : Int32) (k10 : ClassId) (h0 : Heap) (n0 : Nat) (O0 : Old Z n0 h0) (V6 : Arv Z h0 a1 k5 .byte (2 : Int32) [(.int p3), (.int p4)] (.int (0 : Int32))) (V11 : Arv Z h0 a2 k10 .byte (2 : Int32) [(.int p8), (.int p9)] (.int (0 : Int32))) (hk16 : p3 = p8) (hk20 : ¬ (p4 = p9)) : own_Met l Z M_18 bc22 3 (some .boolean) ({ frames := 0, cells := 0, slots := 0, locals := 0 } : Room) #[(.ref a1), (.ref a2)] h0 (Q22_89 Z a1 a2 p3 p4 k5 p8 p9 k10 h0 n0) := by
  refine own_body (L0 := #[vR a1, vR a2, .unset]) (plainFor_of_name pn_6) (fun m => by first | (simp [entryFrame, mkF, argsToLocals, Value.category]; done) | rfl) fun p e s m below meth c s₁ EN hx hby hml hown hnm hret X0 hZ e0 hh pre0 fin => ?_
  have N0 := Fr.nil n0
  obtain ⟨cl7, Ar7, -, Sz7, Nn7, -, -⟩ := id V6
  obtain ⟨cl12, Ar12, -, Sz12, Nn12, -, -⟩ := id V11
  obtain ⟨cl13, Ar13, -, Sz13, Nn13, -, -⟩ := id V6
  obtain ⟨cl14, Ar14, -, Sz14, -, Hh14, -⟩ := id V6
  have hin14 : ¬ ((0 : Int32) < 0 ∨ cl14.slots.size ≤ ((0 : Int32)).toNatClampNeg) := inb_of Sz14 ⟨by decide +kernel, by decide +kernel⟩
  have hat14 : cl14.slots[((0 : Int32)).toNatClampNeg]? = some (.int p3) := Has.at Hh14 hin14 rfl
  obtain ⟨cl15, Ar15, -, Sz15, -, Hh15, -⟩ := id V11
  have hin15 : ¬ ((0 : Int32) < 0 ∨ cl15.slots.size ≤ ((0 : Int32)).toNatClampNeg) := inb_of Sz15 ⟨by decide +kernel, by decide +kernel⟩
  have hat15 : cl15.slots[((0 : Int32)).toNatClampNeg]? = some (.int p8) := Has.at Hh15 hin15 rfl
  obtain ⟨cl17, Ar17, -, Sz17, Nn17, -, -⟩ := id V6
  obtain ⟨cl18, Ar18, -, Sz18, -, Hh18, -⟩ := id V6
  have hin18 : ¬ ((1 : Int32) < 0 ∨ cl18.slots.size ≤ ((1 : Int32)).toNatClampNeg) := inb_of Sz18 ⟨by decide +kernel, by decide +kernel⟩
  have hat18 : cl18.slots[((1 : Int32)).toNatClampNeg]? = some (.int p4) := Has.at Hh18 hin18 rfl
  obtain ⟨cl19, Ar19, -, Sz19, -, Hh19, -⟩ := id V11
  have hin19 : ¬ ((1 : Int32) < 0 ∨ cl19.slots.size ≤ ((1 : Int32)).toNatClampNeg) := inb_of Sz19 ⟨by decide +kernel, by decide +kernel⟩
  have hat19 : cl19.slots[((1 : Int32)).toNatClampNeg]? = some (.int p9) := Has.at Hh19 hin19 rfl
  refine fin (some (.int 0)) _ _ _ _ X0 nofun (fun fs hr => pre0 _ ?_) (own_atH e0 ?_) (by decide) (by decide)
  · refine o_aloadN X0 hx hby d22_0 rfl rfl (X0.arraylength hx (by rw [e0]; exact Ar7.1) (State.isArrayOf_alike hZ.alike Ar7.2.1) (g := (mkF m 1 #[vR a1, vR a2, .unset] [(.ref a1)])) rfl rfl (hb hby d22_1) _ ?_)
    rw [len_of Sz7 Nn7]
    refine o_aloadN X0 hx hby d22_2 rfl rfl (X0.arraylength hx (by rw [e0]; exact Ar12.1) (State.isArrayOf_alike hZ.alike Ar12.2.1) (g := (mkF m 3 #[vR a1, vR a2, .unset] [(.ref a2), (.int 2)])) rfl rfl (hb hby d22_3) _ ?_)
    rw [len_of Sz12 Nn12]
    refine o_icmpN X0 hx hby d22_4 (by decide +kernel) (o_iconst X0 hx hby d22_7 (x := 0) rfl (o_istoreN X0 hx hby d22_8 (Ls' := #[vR a1, vR a2, vI 0]) rfl (o_iloadN X0 hx hby d22_9 rfl (o_aloadN X0 hx hby d22_10 rfl rfl (X0.arraylength hx (by rw [e0]; exact Ar13.1) (State.isArrayOf_alike hZ.alike Ar13.2.1) (g := (mkF m 11 #[vR a1, vR a2, vI 0] [(.ref a1), (.int 0)])) rfl rfl (hb hby d22_11) _ ?_)))))
    rw [len_of Sz13 Nn13]
    refine o_icmpN X0 hx hby d22_12 (by decide +kernel) (o_aloadN X0 hx hby d22_15 rfl rfl (o_iloadN X0 hx hby d22_16 rfl (X0.baloadBytes hx (j := (0 : Int32)) (v := (.int p3)) (by rw [e0]; exact Ar14.1) (State.isArrayOf_alike hZ.alike Ar14.2.1) Ar14.2.2 hin14 hat14 (g := (mkF m 17 #[vR a1, vR a2, vI 0] [(.int 0), (.ref a1)])) rfl rfl (hb hby d22_17) _ (o_aloadN X0 hx hby d22_18 rfl rfl (o_iloadN X0 hx hby d22_19 rfl (X0.baloadBytes hx (j := (0 : Int32)) (v := (.int p8)) (by rw [e0]; exact Ar15.1) (State.isArrayOf_alike hZ.alike Ar15.2.1) Ar15.2.2 hin15 hat15 (g := (mkF m 20 #[vR a1, vR a2, vI 0] [(.int 0), (.ref a2), (.int p3)])) rfl rfl (hb hby d22_20) _ (o_icmpY X0 hx hby d22_21 (pc := 21) (pc' := 26) (teq hk16).1 (by decide) (by decide) (o_iinc X0 hx hby d22_26 rfl (z := (1 : Int32)) (k' := 1) rfl (by decide +kernel) (Ls' := #[vR a1, vR a2, vI 1]) rfl (o_goto X0 hx hby d22_29 (pc := 29) (pc' := 9) (by decide) (by decide) (o_iloadN X0 hx hby d22_9 rfl (o_aloadN X0 hx hby d22_10 rfl rfl (X0.arraylength hx (by rw [e0]; exact Ar17.1) (State.isArrayOf_alike hZ.alike Ar17.2.1) (g := (mkF m 11 #[vR a1, vR a2, vI 1] [(.ref a1), (.int 1)])) rfl rfl (hb hby d22_11) _ ?_))))))))))))
    rw [len_of Sz17 Nn17]
    refine o_icmpN X0 hx hby d22_12 (by decide +kernel) (o_aloadN X0 hx hby d22_15 rfl rfl (o_iloadN X0 hx hby d22_16 rfl (X0.baloadBytes hx (j := (1 : Int32)) (v := (.int p4)) (by rw [e0]; exact Ar18.1) (State.isArrayOf_alike hZ.alike Ar18.2.1) Ar18.2.2 hin18 hat18 (g := (mkF m 17 #[vR a1, vR a2, vI 1] [(.int 1), (.ref a1)])) rfl rfl (hb hby d22_17) _ (o_aloadN X0 hx hby d22_18 rfl rfl (o_iloadN X0 hx hby d22_19 rfl (X0.baloadBytes hx (j := (1 : Int32)) (v := (.int p9)) (by rw [e0]; exact Ar19.1) (State.isArrayOf_alike hZ.alike Ar19.2.1) Ar19.2.2 hin19 hat19 (g := (mkF m 20 #[vR a1, vR a2, vI 1] [(.int 1), (.ref a2), (.int p4)])) rfl rfl (hb hby d22_20) _ (o_icmpN X0 hx hby d22_21 (feq hk20).1 (o_iconst X0 hx hby d22_24 (x := 0) rfl ?_))))))))
    exact retN X0 hx (t := .boolean) hret (by simp) (hb hby d22_25) hr
  · exact ⟨rfl, N0, rfl⟩
def Q21_88 (Z : State) (a1 : Addr) (a2 : Addr) (p7 : Int32) (a15 : Addr) (a18 : Addr) (p21 : Int32) (p22 : Int32) (k23 : ClassId) (p25 : Int32) (p26 : Int32) (k27 : ClassId) (h0 : Heap) (n0 : Nat) (v : Option Value) (h : Heap) (L : List Loc) : Prop := (v = some (.int 0) ∧ Fr n0 L ∧ h = h0)
theorem rm21_88 (l : Launch) (Z : State) (a0 : Array Value) (hw : own_HW Z a0) (a1 : Addr) (a2 : Addr) (p7 : Int32) (a15 : Addr) (a18 : Addr) (p21 : Int32) (p22 : Int32) (k23 : ClassId) (p25 : Int32) (p26 : Int32) (k27 : ClassId) (h0 : Heap) (n0 : Nat) (O0 : Old Z n0 h0) (hne3 : a1 ≠ a2) (E_4 : Exa Z h0 a2 C_0) (S_8 : Sta Z Z.heap C_0 "COMPACT_STRINGS" "Z" (.int p7)) (hk10 : ¬ (p7 = (0 : Int32))) (F11 : Fld Z h0 a1 C_0 "coder" "B" (.int 0)) (F13 : Fld Z h0 a2 C_0 "coder" "B" (.int 0)) (F16 : Fld Z h0 a1 C_0 "value" "[B" (.ref a15)) (F19 : Fld Z h0 a2 C_0 "value" "[B" (.ref a18)) (V24 : Arv Z h0 a15 k23 .byte (2 : Int32) [(.int p21), (.int p22)] (.int (0 : Int32))) (V28 : Arv Z h0 a18 k27 .byte (2 : Int32) [(.int p25), (.int p26)] (.int (0 : Int32))) (hk29 : p21 = p25) (hk30 : ¬ (p22 = p26)) : own_Met l Z M_19 bc21 3 (some .boolean) ({ frames := 1, cells := 0, slots := 0, locals := 14 } : Room) #[(.ref a1), (.ref a2)] h0 (Q21_88 Z a1 a2 p7 a15 a18 p21 p22 k23 p25 p26 k27 h0 n0) := by
  refine own_body (L0 := #[vR a1, vR a2, .unset]) (plainFor_of_name pn_2) (fun m => by first | (simp [entryFrame, mkF, argsToLocals, Value.category]; done) | rfl) fun p e s m below meth c s₁ EN hx hby hml hown hnm hret X0 hZ e0 hh pre0 fin => ?_
  have N0 := Fr.nil n0
  obtain ⟨T5, X5, e5, st5⟩ := instY X0 hx hZ hown (ww105 hw) e0 (Ins.self E_4) (g := (mkF m 8 #[vR a1, vR a2, .unset] [(.ref a2)])) rfl rfl (hb hby d21_8)
  obtain ⟨T6, X6, e6, st6⟩ := castY X5 hx hZ hown (ww105 hw) e5 (Ins.self E_4) (g := (mkF m 15 #[vR a1, vR a2, .unset] [(.ref a2)])) rfl rfl (hb hby d21_15)
  obtain ⟨T9, X9, e9, st9⟩ := getS2 X6 hx hZ hown (host := "") (Or.inl (ww18 hw)) Via.refl e6 (Sta.ext O0.2 S_8) (g := (mkF m 19 #[vR a1, vR a2, vR a2] [])) rfl (hb hby d21_19)
  obtain ⟨T12, X12, e12, st12⟩ := getF X9 hx hZ hown (host := "") (Or.inl (ww30 hw)) Via.refl e9 F11 (g := (mkF m 26 #[vR a1, vR a2, vR a2] [(.ref a1)])) rfl rfl (hb hby d21_26)
  obtain ⟨T14, X14, e14, st14⟩ := getF X12 hx hZ hown (host := "") (Or.inl (ww30 hw)) Via.refl e12 F13 (g := (mkF m 30 #[vR a1, vR a2, vR a2] [(.ref a2), (.int 0)])) rfl rfl (hb hby d21_30)
  obtain ⟨T17, X17, e17, st17⟩ := getF X14 hx hZ hown (host := "") (Or.inl (ww32 hw)) Via.refl e14 F16 (g := (mkF m 37 #[vR a1, vR a2, vR a2] [(.ref a1)])) rfl rfl (hb hby d21_37)
  obtain ⟨T20, X20, e20, st20⟩ := getF X17 hx hZ hown (host := "") (Or.inl (ww32 hw)) Via.refl e17 F19 (g := (mkF m 41 #[vR a1, vR a2, vR a2] [(.ref a2), (.ref a15)])) rfl rfl (hb hby d21_41)
  obtain ⟨_, T31, L31, X31, hQ31, st31⟩ := own_cS X20 hx hZ hown (ww106 hw) (ww107 hw) (ww78 hw) (ww108 hw) (rm22_89 l Z a0 hw a15 a18 p21 p22 k23 p25 p26 k27 h0 n0 O0 V24 V28 hk29 hk30) e20 pd_18 hml (hb hby d21_44) (Ls := #[vR a1, vR a2, vR a2]) (W := 0) (argsL := [(.ref a15), (.ref a18)]) (rest := [])
  obtain ⟨rfl, u33, u34⟩ := hQ31
  have N31 := Fr.app N0 u33
  refine fin (some (.int 0)) _ _ _ _ X31 nofun (fun fs hr => pre0 _ ?_) (own_atH u34 ?_) (by decide) (by decide)
  · refine o_aloadN X0 hx hby d21_0 rfl rfl (o_aloadN X0 hx hby d21_1 rfl rfl (Jvm.RoadKit.acmp (g := (mkF m 2 #[vR a1, vR a2, .unset] [(.ref a2), (.ref a1)])) X0 hx rfl rfl rfl (pc0 := 2) (pc' := 7) (same := false) rfl (hb hby d21_2) rfl (decide_eq_false fun q => hne3 (Value.ref.inj q)) (by decide) (by decide) (o_aloadN X0 hx hby d21_7 rfl rfl (st5 _ (o_ifN X5 hx hby d21_11 (by decide +kernel) (o_aloadN X5 hx hby d21_14 rfl rfl (st6 _ (o_astoreN X6 hx hby d21_18 rfl (Ls' := #[vR a1, vR a2, vR a2]) rfl (st9 _ (o_ifN X9 hx hby d21_22 ((if0 _ _).trans (feq hk10).1) (o_aloadN X9 hx hby d21_25 rfl rfl (st12 _ (o_aloadN X12 hx hby d21_29 rfl rfl (st14 _ (o_icmpN X14 hx hby d21_33 (by decide +kernel) (o_aloadN X14 hx hby d21_36 rfl rfl (st17 _ (o_aloadN X17 hx hby d21_40 rfl rfl (st20 _ (st31 _ (o_ifY X31 hx hby d21_47 (pc := 47) (pc' := 54) (by decide +kernel) (by decide) (by decide) (o_iconst X31 hx hby d21_54 (x := 0) rfl ?_))))))))))))))))))))))
    exact retN X31 hx (t := .boolean) hret (by simp) (hb hby d21_55) hr
  · exact ⟨rfl, N31, rfl⟩
def Q20_87 (Z : State) (a1 : Addr) (a2 : Addr) (a7 : Addr) (a10 : Addr) (p16 : Int32) (a21 : Addr) (a23 : Addr) (p25 : Int32) (p26 : Int32) (k27 : ClassId) (p29 : Int32) (p30 : Int32) (k31 : ClassId) (h0 : Heap) (n0 : Nat) (v : Option Value) (h : Heap) (L : List Loc) : Prop := (v = some (.int 0) ∧ Fr n0 L ∧ h = h0)
theorem rm20_87 (l : Launch) (Z : State) (a0 : Array Value) (hw : own_HW Z a0) (a1 : Addr) (a2 : Addr) (a7 : Addr) (a10 : Addr) (p16 : Int32) (a21 : Addr) (a23 : Addr) (p25 : Int32) (p26 : Int32) (k27 : ClassId) (p29 : Int32) (p30 : Int32) (k31 : ClassId) (h0 : Heap) (n0 : Nat) (O0 : Old Z n0 h0) (hne3 : a1 ≠ a2) (E_4 : Exa Z h0 a2 C_1) (F8 : Fld Z h0 a1 C_1 "text" C_2 (.ref a7)) (F11 : Fld Z h0 a2 C_1 "text" C_2 (.ref a10)) (E_13 : Exa Z h0 a7 C_0) (hne14 : a7 ≠ a10) (E_15 : Exa Z h0 a10 C_0) (S_17 : Sta Z Z.heap C_0 "COMPACT_STRINGS" "Z" (.int p16)) (hk18 : ¬ (p16 = (0 : Int32))) (F19 : Fld Z h0 a7 C_0 "coder" "B" (.int 0)) (F20 : Fld Z h0 a10 C_0 "coder" "B" (.int 0)) (F22 : Fld Z h0 a7 C_0 "value" "[B" (.ref a21)) (F24 : Fld Z h0 a10 C_0 "value" "[B" (.ref a23)) (V28 : Arv Z h0 a21 k27 .byte (2 : Int32) [(.int p25), (.int p26)] (.int (0 : Int32))) (V32 : Arv Z h0 a23 k31 .byte (2 : Int32) [(.int p29), (.int p30)] (.int (0 : Int32))) (hk33 : p25 = p29) (hk34 : ¬ (p26 = p30)) : own_Met l Z M_20 bc20 3 (some .boolean) ({ frames := 2, cells := 0, slots := 0, locals := 28 } : Room) #[(.ref a1), (.ref a2)] h0 (Q20_87 Z a1 a2 a7 a10 p16 a21 a23 p25 p26 k27 p29 p30 k31 h0 n0) := by
  refine own_body (L0 := #[vR a1, vR a2, .unset]) (plainFor_of_name pn_7) (fun m => by first | (simp [entryFrame, mkF, argsToLocals, Value.category]; done) | rfl) fun p e s m below meth c s₁ EN hx hby hml hown hnm hret X0 hZ e0 hh pre0 fin => ?_
  have N0 := Fr.nil n0
  obtain ⟨T5, X5, e5, st5⟩ := instY X0 hx hZ hown (ww98 hw) e0 (Ins.self E_4) (g := (mkF m 6 #[vR a1, vR a2, .unset] [(.ref a2)])) rfl rfl (hb hby d20_6)
  obtain ⟨T6, X6, e6, st6⟩ := castY X5 hx hZ hown (ww98 hw) e5 (Ins.self E_4) (g := (mkF m 13 #[vR a1, vR a2, .unset] [(.ref a2)])) rfl rfl (hb hby d20_13)
  obtain ⟨T9, X9, e9, st9⟩ := getF X6 hx hZ hown (host := "") (Or.inl (ww91 hw)) Via.refl e6 F8 (g := (mkF m 18 #[vR a1, vR a2, vR a2] [(.ref a1)])) rfl rfl (hb hby d20_18)
  obtain ⟨T12, X12, e12, st12⟩ := getF X9 hx hZ hown (host := "") (Or.inl (ww91 hw)) Via.refl e9 F11 (g := (mkF m 22 #[vR a1, vR a2, vR a2] [(.ref a2), (.ref a7)])) rfl rfl (hb hby d20_22)
  obtain ⟨_, T35, L35, X35, hQ35, st35⟩ := own_cV X12 hx hZ hown (ww100 hw) (ww101 hw) (notFace_of_selects (args := #[]) (mvT hZ (ww103 hw))) (ww103 hw) (ww102 hw) (ww2 hw) (ww104 hw) E_13 (rm21_88 l Z a0 hw a7 a10 p16 a21 a23 p25 p26 k27 p29 p30 k31 h0 n0 O0 hne14 E_15 S_17 hk18 F19 F20 F22 F24 V28 V32 hk33 hk34) e12 pd_19 hml (hb hby d20_25) (Ls := #[vR a1, vR a2, vR a2]) (W := 0) (argsL := [(.ref a10)]) (rest := [])
  obtain ⟨rfl, u37, u38⟩ := hQ35
  have N35 := Fr.app N0 u37
  refine fin (some (.int 0)) _ _ _ _ X35 nofun (fun fs hr => pre0 _ ?_) (own_atH u38 ?_) (by decide) (by decide)
  · refine o_aloadN X0 hx hby d20_0 rfl rfl (o_aloadN X0 hx hby d20_1 rfl rfl (Jvm.RoadKit.acmp (g := (mkF m 2 #[vR a1, vR a2, .unset] [(.ref a2), (.ref a1)])) X0 hx rfl rfl rfl (pc0 := 2) (pc' := 5) (same := false) rfl (hb hby d20_2) rfl (decide_eq_false fun q => hne3 (Value.ref.inj q)) (by decide) (by decide) (o_aloadN X0 hx hby d20_5 rfl rfl (st5 _ (o_ifN X5 hx hby d20_9 (by decide +kernel) (o_aloadN X5 hx hby d20_12 rfl rfl (st6 _ (o_astoreN X6 hx hby d20_16 rfl (Ls' := #[vR a1, vR a2, vR a2]) rfl (o_aloadN X6 hx hby d20_17 rfl rfl (st9 _ (o_aloadN X9 hx hby d20_21 rfl rfl (st12 _ (st35 _ (o_ifY X35 hx hby d20_28 (pc := 28) (pc' := 35) (by decide +kernel) (by decide) (by decide) (o_iconst X35 hx hby d20_35 (x := 0) rfl ?_)))))))))))))))
    exact retN X35 hx (t := .boolean) hret (by simp) (hb hby d20_36) hr
  · exact ⟨rfl, N35, rfl⟩
def Q22_92 (Z : State) (a1 : Addr) (a2 : Addr) (p3 : Int32) (p4 : Int32) (k5 : ClassId) (p8 : Int32) (p9 : Int32) (k10 : ClassId) (h0 : Heap) (n0 : Nat) (v : Option Value) (h : Heap) (L : List Loc) : Prop := (v = some (.int 0) ∧ Fr n0 L ∧ h = h0)
theorem rm22_92 (l : Launch) (Z : State) (a0 : Array Value) (hw : own_HW Z a0) (a1 : Addr) (a2 : Addr) (p3 : Int32) (p4 : Int32) (k5 : ClassId) (p8 : Int32) (p9 : Int32) (k10 : ClassId) (h0 : Heap) (n0 : Nat) (O0 : Old Z n0 h0) (V6 : Arv Z h0 a1 k5 .byte (2 : Int32) [(.int p3), (.int p4)] (.int (0 : Int32))) (V11 : Arv Z h0 a2 k10 .byte (2 : Int32) [(.int p8), (.int p9)] (.int (0 : Int32))) (hk16 : ¬ (p3 = p8)) : own_Met l Z M_18 bc22 3 (some .boolean) ({ frames := 0, cells := 0, slots := 0, locals := 0 } : Room) #[(.ref a1), (.ref a2)] h0 (Q22_92 Z a1 a2 p3 p4 k5 p8 p9 k10 h0 n0) := by
  refine own_body (L0 := #[vR a1, vR a2, .unset]) (plainFor_of_name pn_6) (fun m => by first | (simp [entryFrame, mkF, argsToLocals, Value.category]; done) | rfl) fun p e s m below meth c s₁ EN hx hby hml hown hnm hret X0 hZ e0 hh pre0 fin => ?_
  have N0 := Fr.nil n0
  obtain ⟨cl7, Ar7, -, Sz7, Nn7, -, -⟩ := id V6
  obtain ⟨cl12, Ar12, -, Sz12, Nn12, -, -⟩ := id V11
  obtain ⟨cl13, Ar13, -, Sz13, Nn13, -, -⟩ := id V6
  obtain ⟨cl14, Ar14, -, Sz14, -, Hh14, -⟩ := id V6
  have hin14 : ¬ ((0 : Int32) < 0 ∨ cl14.slots.size ≤ ((0 : Int32)).toNatClampNeg) := inb_of Sz14 ⟨by decide +kernel, by decide +kernel⟩
  have hat14 : cl14.slots[((0 : Int32)).toNatClampNeg]? = some (.int p3) := Has.at Hh14 hin14 rfl
  obtain ⟨cl15, Ar15, -, Sz15, -, Hh15, -⟩ := id V11
  have hin15 : ¬ ((0 : Int32) < 0 ∨ cl15.slots.size ≤ ((0 : Int32)).toNatClampNeg) := inb_of Sz15 ⟨by decide +kernel, by decide +kernel⟩
  have hat15 : cl15.slots[((0 : Int32)).toNatClampNeg]? = some (.int p8) := Has.at Hh15 hin15 rfl
  refine fin (some (.int 0)) _ _ _ _ X0 nofun (fun fs hr => pre0 _ ?_) (own_atH e0 ?_) (by decide) (by decide)
  · refine o_aloadN X0 hx hby d22_0 rfl rfl (X0.arraylength hx (by rw [e0]; exact Ar7.1) (State.isArrayOf_alike hZ.alike Ar7.2.1) (g := (mkF m 1 #[vR a1, vR a2, .unset] [(.ref a1)])) rfl rfl (hb hby d22_1) _ ?_)
    rw [len_of Sz7 Nn7]
    refine o_aloadN X0 hx hby d22_2 rfl rfl (X0.arraylength hx (by rw [e0]; exact Ar12.1) (State.isArrayOf_alike hZ.alike Ar12.2.1) (g := (mkF m 3 #[vR a1, vR a2, .unset] [(.ref a2), (.int 2)])) rfl rfl (hb hby d22_3) _ ?_)
    rw [len_of Sz12 Nn12]
    refine o_icmpN X0 hx hby d22_4 (by decide +kernel) (o_iconst X0 hx hby d22_7 (x := 0) rfl (o_istoreN X0 hx hby d22_8 (Ls' := #[vR a1, vR a2, vI 0]) rfl (o_iloadN X0 hx hby d22_9 rfl (o_aloadN X0 hx hby d22_10 rfl rfl (X0.arraylength hx (by rw [e0]; exact Ar13.1) (State.isArrayOf_alike hZ.alike Ar13.2.1) (g := (mkF m 11 #[vR a1, vR a2, vI 0] [(.ref a1), (.int 0)])) rfl rfl (hb hby d22_11) _ ?_)))))
    rw [len_of Sz13 Nn13]
    refine o_icmpN X0 hx hby d22_12 (by decide +kernel) (o_aloadN X0 hx hby d22_15 rfl rfl (o_iloadN X0 hx hby d22_16 rfl (X0.baloadBytes hx (j := (0 : Int32)) (v := (.int p3)) (by rw [e0]; exact Ar14.1) (State.isArrayOf_alike hZ.alike Ar14.2.1) Ar14.2.2 hin14 hat14 (g := (mkF m 17 #[vR a1, vR a2, vI 0] [(.int 0), (.ref a1)])) rfl rfl (hb hby d22_17) _ (o_aloadN X0 hx hby d22_18 rfl rfl (o_iloadN X0 hx hby d22_19 rfl (X0.baloadBytes hx (j := (0 : Int32)) (v := (.int p8)) (by rw [e0]; exact Ar15.1) (State.isArrayOf_alike hZ.alike Ar15.2.1) Ar15.2.2 hin15 hat15 (g := (mkF m 20 #[vR a1, vR a2, vI 0] [(.int 0), (.ref a2), (.int p3)])) rfl rfl (hb hby d22_20) _ (o_icmpN X0 hx hby d22_21 (feq hk16).1 (o_iconst X0 hx hby d22_24 (x := 0) rfl ?_))))))))
    exact retN X0 hx (t := .boolean) hret (by simp) (hb hby d22_25) hr
  · exact ⟨rfl, N0, rfl⟩
def Q21_91 (Z : State) (a1 : Addr) (a2 : Addr) (p7 : Int32) (a15 : Addr) (a18 : Addr) (p21 : Int32) (p22 : Int32) (k23 : ClassId) (p25 : Int32) (p26 : Int32) (k27 : ClassId) (h0 : Heap) (n0 : Nat) (v : Option Value) (h : Heap) (L : List Loc) : Prop := (v = some (.int 0) ∧ Fr n0 L ∧ h = h0)
theorem rm21_91 (l : Launch) (Z : State) (a0 : Array Value) (hw : own_HW Z a0) (a1 : Addr) (a2 : Addr) (p7 : Int32) (a15 : Addr) (a18 : Addr) (p21 : Int32) (p22 : Int32) (k23 : ClassId) (p25 : Int32) (p26 : Int32) (k27 : ClassId) (h0 : Heap) (n0 : Nat) (O0 : Old Z n0 h0) (hne3 : a1 ≠ a2) (E_4 : Exa Z h0 a2 C_0) (S_8 : Sta Z Z.heap C_0 "COMPACT_STRINGS" "Z" (.int p7)) (hk10 : ¬ (p7 = (0 : Int32))) (F11 : Fld Z h0 a1 C_0 "coder" "B" (.int 0)) (F13 : Fld Z h0 a2 C_0 "coder" "B" (.int 0)) (F16 : Fld Z h0 a1 C_0 "value" "[B" (.ref a15)) (F19 : Fld Z h0 a2 C_0 "value" "[B" (.ref a18)) (V24 : Arv Z h0 a15 k23 .byte (2 : Int32) [(.int p21), (.int p22)] (.int (0 : Int32))) (V28 : Arv Z h0 a18 k27 .byte (2 : Int32) [(.int p25), (.int p26)] (.int (0 : Int32))) (hk29 : ¬ (p21 = p25)) : own_Met l Z M_19 bc21 3 (some .boolean) ({ frames := 1, cells := 0, slots := 0, locals := 14 } : Room) #[(.ref a1), (.ref a2)] h0 (Q21_91 Z a1 a2 p7 a15 a18 p21 p22 k23 p25 p26 k27 h0 n0) := by
  refine own_body (L0 := #[vR a1, vR a2, .unset]) (plainFor_of_name pn_2) (fun m => by first | (simp [entryFrame, mkF, argsToLocals, Value.category]; done) | rfl) fun p e s m below meth c s₁ EN hx hby hml hown hnm hret X0 hZ e0 hh pre0 fin => ?_
  have N0 := Fr.nil n0
  obtain ⟨T5, X5, e5, st5⟩ := instY X0 hx hZ hown (ww105 hw) e0 (Ins.self E_4) (g := (mkF m 8 #[vR a1, vR a2, .unset] [(.ref a2)])) rfl rfl (hb hby d21_8)
  obtain ⟨T6, X6, e6, st6⟩ := castY X5 hx hZ hown (ww105 hw) e5 (Ins.self E_4) (g := (mkF m 15 #[vR a1, vR a2, .unset] [(.ref a2)])) rfl rfl (hb hby d21_15)
  obtain ⟨T9, X9, e9, st9⟩ := getS2 X6 hx hZ hown (host := "") (Or.inl (ww18 hw)) Via.refl e6 (Sta.ext O0.2 S_8) (g := (mkF m 19 #[vR a1, vR a2, vR a2] [])) rfl (hb hby d21_19)
  obtain ⟨T12, X12, e12, st12⟩ := getF X9 hx hZ hown (host := "") (Or.inl (ww30 hw)) Via.refl e9 F11 (g := (mkF m 26 #[vR a1, vR a2, vR a2] [(.ref a1)])) rfl rfl (hb hby d21_26)
  obtain ⟨T14, X14, e14, st14⟩ := getF X12 hx hZ hown (host := "") (Or.inl (ww30 hw)) Via.refl e12 F13 (g := (mkF m 30 #[vR a1, vR a2, vR a2] [(.ref a2), (.int 0)])) rfl rfl (hb hby d21_30)
  obtain ⟨T17, X17, e17, st17⟩ := getF X14 hx hZ hown (host := "") (Or.inl (ww32 hw)) Via.refl e14 F16 (g := (mkF m 37 #[vR a1, vR a2, vR a2] [(.ref a1)])) rfl rfl (hb hby d21_37)
  obtain ⟨T20, X20, e20, st20⟩ := getF X17 hx hZ hown (host := "") (Or.inl (ww32 hw)) Via.refl e17 F19 (g := (mkF m 41 #[vR a1, vR a2, vR a2] [(.ref a2), (.ref a15)])) rfl rfl (hb hby d21_41)
  obtain ⟨_, T30, L30, X30, hQ30, st30⟩ := own_cS X20 hx hZ hown (ww106 hw) (ww107 hw) (ww78 hw) (ww108 hw) (rm22_92 l Z a0 hw a15 a18 p21 p22 k23 p25 p26 k27 h0 n0 O0 V24 V28 hk29) e20 pd_18 hml (hb hby d21_44) (Ls := #[vR a1, vR a2, vR a2]) (W := 0) (argsL := [(.ref a15), (.ref a18)]) (rest := [])
  obtain ⟨rfl, u32, u33⟩ := hQ30
  have N30 := Fr.app N0 u32
  refine fin (some (.int 0)) _ _ _ _ X30 nofun (fun fs hr => pre0 _ ?_) (own_atH u33 ?_) (by decide) (by decide)
  · refine o_aloadN X0 hx hby d21_0 rfl rfl (o_aloadN X0 hx hby d21_1 rfl rfl (Jvm.RoadKit.acmp (g := (mkF m 2 #[vR a1, vR a2, .unset] [(.ref a2), (.ref a1)])) X0 hx rfl rfl rfl (pc0 := 2) (pc' := 7) (same := false) rfl (hb hby d21_2) rfl (decide_eq_false fun q => hne3 (Value.ref.inj q)) (by decide) (by decide) (o_aloadN X0 hx hby d21_7 rfl rfl (st5 _ (o_ifN X5 hx hby d21_11 (by decide +kernel) (o_aloadN X5 hx hby d21_14 rfl rfl (st6 _ (o_astoreN X6 hx hby d21_18 rfl (Ls' := #[vR a1, vR a2, vR a2]) rfl (st9 _ (o_ifN X9 hx hby d21_22 ((if0 _ _).trans (feq hk10).1) (o_aloadN X9 hx hby d21_25 rfl rfl (st12 _ (o_aloadN X12 hx hby d21_29 rfl rfl (st14 _ (o_icmpN X14 hx hby d21_33 (by decide +kernel) (o_aloadN X14 hx hby d21_36 rfl rfl (st17 _ (o_aloadN X17 hx hby d21_40 rfl rfl (st20 _ (st30 _ (o_ifY X30 hx hby d21_47 (pc := 47) (pc' := 54) (by decide +kernel) (by decide) (by decide) (o_iconst X30 hx hby d21_54 (x := 0) rfl ?_))))))))))))))))))))))
    exact retN X30 hx (t := .boolean) hret (by simp) (hb hby d21_55) hr
  · exact ⟨rfl, N30, rfl⟩
def Q20_90 (Z : State) (a1 : Addr) (a2 : Addr) (a7 : Addr) (a10 : Addr) (p16 : Int32) (a21 : Addr) (a23 : Addr) (p25 : Int32) (p26 : Int32) (k27 : ClassId) (p29 : Int32) (p30 : Int32) (k31 : ClassId) (h0 : Heap) (n0 : Nat) (v : Option Value) (h : Heap) (L : List Loc) : Prop := (v = some (.int 0) ∧ Fr n0 L ∧ h = h0)
theorem rm20_90 (l : Launch) (Z : State) (a0 : Array Value) (hw : own_HW Z a0) (a1 : Addr) (a2 : Addr) (a7 : Addr) (a10 : Addr) (p16 : Int32) (a21 : Addr) (a23 : Addr) (p25 : Int32) (p26 : Int32) (k27 : ClassId) (p29 : Int32) (p30 : Int32) (k31 : ClassId) (h0 : Heap) (n0 : Nat) (O0 : Old Z n0 h0) (hne3 : a1 ≠ a2) (E_4 : Exa Z h0 a2 C_1) (F8 : Fld Z h0 a1 C_1 "text" C_2 (.ref a7)) (F11 : Fld Z h0 a2 C_1 "text" C_2 (.ref a10)) (E_13 : Exa Z h0 a7 C_0) (hne14 : a7 ≠ a10) (E_15 : Exa Z h0 a10 C_0) (S_17 : Sta Z Z.heap C_0 "COMPACT_STRINGS" "Z" (.int p16)) (hk18 : ¬ (p16 = (0 : Int32))) (F19 : Fld Z h0 a7 C_0 "coder" "B" (.int 0)) (F20 : Fld Z h0 a10 C_0 "coder" "B" (.int 0)) (F22 : Fld Z h0 a7 C_0 "value" "[B" (.ref a21)) (F24 : Fld Z h0 a10 C_0 "value" "[B" (.ref a23)) (V28 : Arv Z h0 a21 k27 .byte (2 : Int32) [(.int p25), (.int p26)] (.int (0 : Int32))) (V32 : Arv Z h0 a23 k31 .byte (2 : Int32) [(.int p29), (.int p30)] (.int (0 : Int32))) (hk33 : ¬ (p25 = p29)) : own_Met l Z M_20 bc20 3 (some .boolean) ({ frames := 2, cells := 0, slots := 0, locals := 28 } : Room) #[(.ref a1), (.ref a2)] h0 (Q20_90 Z a1 a2 a7 a10 p16 a21 a23 p25 p26 k27 p29 p30 k31 h0 n0) := by
  refine own_body (L0 := #[vR a1, vR a2, .unset]) (plainFor_of_name pn_7) (fun m => by first | (simp [entryFrame, mkF, argsToLocals, Value.category]; done) | rfl) fun p e s m below meth c s₁ EN hx hby hml hown hnm hret X0 hZ e0 hh pre0 fin => ?_
  have N0 := Fr.nil n0
  obtain ⟨T5, X5, e5, st5⟩ := instY X0 hx hZ hown (ww98 hw) e0 (Ins.self E_4) (g := (mkF m 6 #[vR a1, vR a2, .unset] [(.ref a2)])) rfl rfl (hb hby d20_6)
  obtain ⟨T6, X6, e6, st6⟩ := castY X5 hx hZ hown (ww98 hw) e5 (Ins.self E_4) (g := (mkF m 13 #[vR a1, vR a2, .unset] [(.ref a2)])) rfl rfl (hb hby d20_13)
  obtain ⟨T9, X9, e9, st9⟩ := getF X6 hx hZ hown (host := "") (Or.inl (ww91 hw)) Via.refl e6 F8 (g := (mkF m 18 #[vR a1, vR a2, vR a2] [(.ref a1)])) rfl rfl (hb hby d20_18)
  obtain ⟨T12, X12, e12, st12⟩ := getF X9 hx hZ hown (host := "") (Or.inl (ww91 hw)) Via.refl e9 F11 (g := (mkF m 22 #[vR a1, vR a2, vR a2] [(.ref a2), (.ref a7)])) rfl rfl (hb hby d20_22)
  obtain ⟨_, T34, L34, X34, hQ34, st34⟩ := own_cV X12 hx hZ hown (ww100 hw) (ww101 hw) (notFace_of_selects (args := #[]) (mvT hZ (ww103 hw))) (ww103 hw) (ww102 hw) (ww2 hw) (ww104 hw) E_13 (rm21_91 l Z a0 hw a7 a10 p16 a21 a23 p25 p26 k27 p29 p30 k31 h0 n0 O0 hne14 E_15 S_17 hk18 F19 F20 F22 F24 V28 V32 hk33) e12 pd_19 hml (hb hby d20_25) (Ls := #[vR a1, vR a2, vR a2]) (W := 0) (argsL := [(.ref a10)]) (rest := [])
  obtain ⟨rfl, u36, u37⟩ := hQ34
  have N34 := Fr.app N0 u36
  refine fin (some (.int 0)) _ _ _ _ X34 nofun (fun fs hr => pre0 _ ?_) (own_atH u37 ?_) (by decide) (by decide)
  · refine o_aloadN X0 hx hby d20_0 rfl rfl (o_aloadN X0 hx hby d20_1 rfl rfl (Jvm.RoadKit.acmp (g := (mkF m 2 #[vR a1, vR a2, .unset] [(.ref a2), (.ref a1)])) X0 hx rfl rfl rfl (pc0 := 2) (pc' := 5) (same := false) rfl (hb hby d20_2) rfl (decide_eq_false fun q => hne3 (Value.ref.inj q)) (by decide) (by decide) (o_aloadN X0 hx hby d20_5 rfl rfl (st5 _ (o_ifN X5 hx hby d20_9 (by decide +kernel) (o_aloadN X5 hx hby d20_12 rfl rfl (st6 _ (o_astoreN X6 hx hby d20_16 rfl (Ls' := #[vR a1, vR a2, vR a2]) rfl (o_aloadN X6 hx hby d20_17 rfl rfl (st9 _ (o_aloadN X9 hx hby d20_21 rfl rfl (st12 _ (st34 _ (o_ifY X34 hx hby d20_28 (pc := 28) (pc' := 35) (by decide +kernel) (by decide) (by decide) (o_iconst X34 hx hby d20_35 (x := 0) rfl ?_)))))))))))))))
    exact retN X34 hx (t := .boolean) hret (by simp) (hb hby d20_36) hr
  · exact ⟨rfl, N34, rfl⟩
def Q22_95 (Z : State) (a1 : Addr) (a2 : Addr) (p3 : Int32) (p4 : Int32) (k5 : ClassId) (p8 : Int32) (p9 : Int32) (p10 : Int32) (k11 : ClassId) (h0 : Heap) (n0 : Nat) (v : Option Value) (h : Heap) (L : List Loc) : Prop := (v = some (.int 0) ∧ Fr n0 L ∧ h = h0)
theorem rm22_95 (l : Launch) (Z : State) (a0 : Array Value) (hw : own_HW Z a0) (a1 : Addr) (a2 : Addr) (p3 : Int32) (p4 : Int32) (k5 : ClassId) (p8 : Int32) (p9 : Int32) (p10 : Int32) (k11 : ClassId) (h0 : Heap) (n0 : Nat) (O0 : Old Z n0 h0) (V6 : Arv Z h0 a1 k5 .byte (2 : Int32) [(.int p3), (.int p4)] (.int (0 : Int32))) (V12 : Arv Z h0 a2 k11 .byte (3 : Int32) [(.int p8), (.int p9), (.int p10)] (.int (0 : Int32))) : own_Met l Z M_18 bc22 3 (some .boolean) ({ frames := 0, cells := 0, slots := 0, locals := 0 } : Room) #[(.ref a1), (.ref a2)] h0 (Q22_95 Z a1 a2 p3 p4 k5 p8 p9 p10 k11 h0 n0) := by
  refine own_body (L0 := #[vR a1, vR a2, .unset]) (plainFor_of_name pn_6) (fun m => by first | (simp [entryFrame, mkF, argsToLocals, Value.category]; done) | rfl) fun p e s m below meth c s₁ EN hx hby hml hown hnm hret X0 hZ e0 hh pre0 fin => ?_
  have N0 := Fr.nil n0
  obtain ⟨cl7, Ar7, -, Sz7, Nn7, -, -⟩ := id V6
  obtain ⟨cl13, Ar13, -, Sz13, Nn13, -, -⟩ := id V12
  refine fin (some (.int 0)) _ _ _ _ X0 nofun (fun fs hr => pre0 _ ?_) (own_atH e0 ?_) (by decide) (by decide)
  · refine o_aloadN X0 hx hby d22_0 rfl rfl (X0.arraylength hx (by rw [e0]; exact Ar7.1) (State.isArrayOf_alike hZ.alike Ar7.2.1) (g := (mkF m 1 #[vR a1, vR a2, .unset] [(.ref a1)])) rfl rfl (hb hby d22_1) _ ?_)
    rw [len_of Sz7 Nn7]
    refine o_aloadN X0 hx hby d22_2 rfl rfl (X0.arraylength hx (by rw [e0]; exact Ar13.1) (State.isArrayOf_alike hZ.alike Ar13.2.1) (g := (mkF m 3 #[vR a1, vR a2, .unset] [(.ref a2), (.int 2)])) rfl rfl (hb hby d22_3) _ ?_)
    rw [len_of Sz13 Nn13]
    refine o_icmpY X0 hx hby d22_4 (pc := 4) (pc' := 34) (by decide +kernel) (by decide) (by decide) (o_iconst X0 hx hby d22_34 (x := 0) rfl ?_)
    exact retN X0 hx (t := .boolean) hret (by simp) (hb hby d22_35) hr
  · exact ⟨rfl, N0, rfl⟩
def Q21_94 (Z : State) (a1 : Addr) (a2 : Addr) (p7 : Int32) (a15 : Addr) (a18 : Addr) (p21 : Int32) (p22 : Int32) (k23 : ClassId) (p25 : Int32) (p26 : Int32) (p27 : Int32) (k28 : ClassId) (h0 : Heap) (n0 : Nat) (v : Option Value) (h : Heap) (L : List Loc) : Prop := (v = some (.int 0) ∧ Fr n0 L ∧ h = h0)
theorem rm21_94 (l : Launch) (Z : State) (a0 : Array Value) (hw : own_HW Z a0) (a1 : Addr) (a2 : Addr) (p7 : Int32) (a15 : Addr) (a18 : Addr) (p21 : Int32) (p22 : Int32) (k23 : ClassId) (p25 : Int32) (p26 : Int32) (p27 : Int32) (k28 : ClassId) (h0 : Heap) (n0 : Nat) (O0 : Old Z n0 h0) (hne3 : a1 ≠ a2) (E_4 : Exa Z h0 a2 C_0) (S_8 : Sta Z Z.heap C_0 "COMPACT_STRINGS" "Z" (.int p7)) (hk10 : ¬ (p7 = (0 : Int32))) (F11 : Fld Z h0 a1 C_0 "coder" "B" (.int 0)) (F13 : Fld Z h0 a2 C_0 "coder" "B" (.int 0)) (F16 : Fld Z h0 a1 C_0 "value" "[B" (.ref a15)) (F19 : Fld Z h0 a2 C_0 "value" "[B" (.ref a18)) (V24 : Arv Z h0 a15 k23 .byte (2 : Int32) [(.int p21), (.int p22)] (.int (0 : Int32))) (V29 : Arv Z h0 a18 k28 .byte (3 : Int32) [(.int p25), (.int p26), (.int p27)] (.int (0 : Int32))) : own_Met l Z M_19 bc21 3 (some .boolean) ({ frames := 1, cells := 0, slots := 0, locals := 14 } : Room) #[(.ref a1), (.ref a2)] h0 (Q21_94 Z a1 a2 p7 a15 a18 p21 p22 k23 p25 p26 p27 k28 h0 n0) := by
  refine own_body (L0 := #[vR a1, vR a2, .unset]) (plainFor_of_name pn_2) (fun m => by first | (simp [entryFrame, mkF, argsToLocals, Value.category]; done) | rfl) fun p e s m below meth c s₁ EN hx hby hml hown hnm hret X0 hZ e0 hh pre0 fin => ?_
  have N0 := Fr.nil n0
  obtain ⟨T5, X5, e5, st5⟩ := instY X0 hx hZ hown (ww105 hw) e0 (Ins.self E_4) (g := (mkF m 8 #[vR a1, vR a2, .unset] [(.ref a2)])) rfl rfl (hb hby d21_8)
  obtain ⟨T6, X6, e6, st6⟩ := castY X5 hx hZ hown (ww105 hw) e5 (Ins.self E_4) (g := (mkF m 15 #[vR a1, vR a2, .unset] [(.ref a2)])) rfl rfl (hb hby d21_15)
  obtain ⟨T9, X9, e9, st9⟩ := getS2 X6 hx hZ hown (host := "") (Or.inl (ww18 hw)) Via.refl e6 (Sta.ext O0.2 S_8) (g := (mkF m 19 #[vR a1, vR a2, vR a2] [])) rfl (hb hby d21_19)
  obtain ⟨T12, X12, e12, st12⟩ := getF X9 hx hZ hown (host := "") (Or.inl (ww30 hw)) Via.refl e9 F11 (g := (mkF m 26 #[vR a1, vR a2, vR a2] [(.ref a1)])) rfl rfl (hb hby d21_26)
  obtain ⟨T14, X14, e14, st14⟩ := getF X12 hx hZ hown (host := "") (Or.inl (ww30 hw)) Via.refl e12 F13 (g := (mkF m 30 #[vR a1, vR a2, vR a2] [(.ref a2), (.int 0)])) rfl rfl (hb hby d21_30)
  obtain ⟨T17, X17, e17, st17⟩ := getF X14 hx hZ hown (host := "") (Or.inl (ww32 hw)) Via.refl e14 F16 (g := (mkF m 37 #[vR a1, vR a2, vR a2] [(.ref a1)])) rfl rfl (hb hby d21_37)
  obtain ⟨T20, X20, e20, st20⟩ := getF X17 hx hZ hown (host := "") (Or.inl (ww32 hw)) Via.refl e17 F19 (g := (mkF m 41 #[vR a1, vR a2, vR a2] [(.ref a2), (.ref a15)])) rfl rfl (hb hby d21_41)
  obtain ⟨_, T30, L30, X30, hQ30, st30⟩ := own_cS X20 hx hZ hown (ww106 hw) (ww107 hw) (ww78 hw) (ww108 hw) (rm22_95 l Z a0 hw a15 a18 p21 p22 k23 p25 p26 p27 k28 h0 n0 O0 V24 V29) e20 pd_18 hml (hb hby d21_44) (Ls := #[vR a1, vR a2, vR a2]) (W := 0) (argsL := [(.ref a15), (.ref a18)]) (rest := [])
  obtain ⟨rfl, u32, u33⟩ := hQ30
  have N30 := Fr.app N0 u32
  refine fin (some (.int 0)) _ _ _ _ X30 nofun (fun fs hr => pre0 _ ?_) (own_atH u33 ?_) (by decide) (by decide)
  · refine o_aloadN X0 hx hby d21_0 rfl rfl (o_aloadN X0 hx hby d21_1 rfl rfl (Jvm.RoadKit.acmp (g := (mkF m 2 #[vR a1, vR a2, .unset] [(.ref a2), (.ref a1)])) X0 hx rfl rfl rfl (pc0 := 2) (pc' := 7) (same := false) rfl (hb hby d21_2) rfl (decide_eq_false fun q => hne3 (Value.ref.inj q)) (by decide) (by decide) (o_aloadN X0 hx hby d21_7 rfl rfl (st5 _ (o_ifN X5 hx hby d21_11 (by decide +kernel) (o_aloadN X5 hx hby d21_14 rfl rfl (st6 _ (o_astoreN X6 hx hby d21_18 rfl (Ls' := #[vR a1, vR a2, vR a2]) rfl (st9 _ (o_ifN X9 hx hby d21_22 ((if0 _ _).trans (feq hk10).1) (o_aloadN X9 hx hby d21_25 rfl rfl (st12 _ (o_aloadN X12 hx hby d21_29 rfl rfl (st14 _ (o_icmpN X14 hx hby d21_33 (by decide +kernel) (o_aloadN X14 hx hby d21_36 rfl rfl (st17 _ (o_aloadN X17 hx hby d21_40 rfl rfl (st20 _ (st30 _ (o_ifY X30 hx hby d21_47 (pc := 47) (pc' := 54) (by decide +kernel) (by decide) (by decide) (o_iconst X30 hx hby d21_54 (x := 0) rfl ?_))))))))))))))))))))))
    exact retN X30 hx (t := .boolean) hret (by simp) (hb hby d21_55) hr
  · exact ⟨rfl, N30, rfl⟩
def Q20_93 (Z : State) (a1 : Addr) (a2 : Addr) (a7 : Addr) (a10 : Addr) (p16 : Int32) (a21 : Addr) (a23 : Addr) (p25 : Int32) (p26 : Int32) (k27 : ClassId) (p29 : Int32) (p30 : Int32) (p31 : Int32) (k32 : ClassId) (h0 : Heap) (n0 : Nat) (v : Option Value) (h : Heap) (L : List Loc) : Prop := (v = some (.int 0) ∧ Fr n0 L ∧ h = h0)
theorem rm20_93 (l : Launch) (Z : State) (a0 : Array Value) (hw : own_HW Z a0) (a1 : Addr) (a2 : Addr) (a7 : Addr) (a10 : Addr) (p16 : Int32) (a21 : Addr) (a23 : Addr) (p25 : Int32) (p26 : Int32) (k27 : ClassId) (p29 : Int32) (p30 : Int32) (p31 : Int32) (k32 : ClassId) (h0 : Heap) (n0 : Nat) (O0 : Old Z n0 h0) (hne3 : a1 ≠ a2) (E_4 : Exa Z h0 a2 C_1) (F8 : Fld Z h0 a1 C_1 "text" C_2 (.ref a7)) (F11 : Fld Z h0 a2 C_1 "text" C_2 (.ref a10)) (E_13 : Exa Z h0 a7 C_0) (hne14 : a7 ≠ a10) (E_15 : Exa Z h0 a10 C_0) (S_17 : Sta Z Z.heap C_0 "COMPACT_STRINGS" "Z" (.int p16)) (hk18 : ¬ (p16 = (0 : Int32))) (F19 : Fld Z h0 a7 C_0 "coder" "B" (.int 0)) (F20 : Fld Z h0 a10 C_0 "coder" "B" (.int 0)) (F22 : Fld Z h0 a7 C_0 "value" "[B" (.ref a21)) (F24 : Fld Z h0 a10 C_0 "value" "[B" (.ref a23)) (V28 : Arv Z h0 a21 k27 .byte (2 : Int32) [(.int p25), (.int p26)] (.int (0 : Int32))) (V33 : Arv Z h0 a23 k32 .byte (3 : Int32) [(.int p29), (.int p30), (.int p31)] (.int (0 : Int32))) : own_Met l Z M_20 bc20 3 (some .boolean) ({ frames := 2, cells := 0, slots := 0, locals := 28 } : Room) #[(.ref a1), (.ref a2)] h0 (Q20_93 Z a1 a2 a7 a10 p16 a21 a23 p25 p26 k27 p29 p30 p31 k32 h0 n0) := by
  refine own_body (L0 := #[vR a1, vR a2, .unset]) (plainFor_of_name pn_7) (fun m => by first | (simp [entryFrame, mkF, argsToLocals, Value.category]; done) | rfl) fun p e s m below meth c s₁ EN hx hby hml hown hnm hret X0 hZ e0 hh pre0 fin => ?_
  have N0 := Fr.nil n0
  obtain ⟨T5, X5, e5, st5⟩ := instY X0 hx hZ hown (ww98 hw) e0 (Ins.self E_4) (g := (mkF m 6 #[vR a1, vR a2, .unset] [(.ref a2)])) rfl rfl (hb hby d20_6)
  obtain ⟨T6, X6, e6, st6⟩ := castY X5 hx hZ hown (ww98 hw) e5 (Ins.self E_4) (g := (mkF m 13 #[vR a1, vR a2, .unset] [(.ref a2)])) rfl rfl (hb hby d20_13)
  obtain ⟨T9, X9, e9, st9⟩ := getF X6 hx hZ hown (host := "") (Or.inl (ww91 hw)) Via.refl e6 F8 (g := (mkF m 18 #[vR a1, vR a2, vR a2] [(.ref a1)])) rfl rfl (hb hby d20_18)
  obtain ⟨T12, X12, e12, st12⟩ := getF X9 hx hZ hown (host := "") (Or.inl (ww91 hw)) Via.refl e9 F11 (g := (mkF m 22 #[vR a1, vR a2, vR a2] [(.ref a2), (.ref a7)])) rfl rfl (hb hby d20_22)
  obtain ⟨_, T34, L34, X34, hQ34, st34⟩ := own_cV X12 hx hZ hown (ww100 hw) (ww101 hw) (notFace_of_selects (args := #[]) (mvT hZ (ww103 hw))) (ww103 hw) (ww102 hw) (ww2 hw) (ww104 hw) E_13 (rm21_94 l Z a0 hw a7 a10 p16 a21 a23 p25 p26 k27 p29 p30 p31 k32 h0 n0 O0 hne14 E_15 S_17 hk18 F19 F20 F22 F24 V28 V33) e12 pd_19 hml (hb hby d20_25) (Ls := #[vR a1, vR a2, vR a2]) (W := 0) (argsL := [(.ref a10)]) (rest := [])
  obtain ⟨rfl, u36, u37⟩ := hQ34
  have N34 := Fr.app N0 u36
  refine fin (some (.int 0)) _ _ _ _ X34 nofun (fun fs hr => pre0 _ ?_) (own_atH u37 ?_) (by decide) (by decide)
  · refine o_aloadN X0 hx hby d20_0 rfl rfl (o_aloadN X0 hx hby d20_1 rfl rfl (Jvm.RoadKit.acmp (g := (mkF m 2 #[vR a1, vR a2, .unset] [(.ref a2), (.ref a1)])) X0 hx rfl rfl rfl (pc0 := 2) (pc' := 5) (same := false) rfl (hb hby d20_2) rfl (decide_eq_false fun q => hne3 (Value.ref.inj q)) (by decide) (by decide) (o_aloadN X0 hx hby d20_5 rfl rfl (st5 _ (o_ifN X5 hx hby d20_9 (by decide +kernel) (o_aloadN X5 hx hby d20_12 rfl rfl (st6 _ (o_astoreN X6 hx hby d20_16 rfl (Ls' := #[vR a1, vR a2, vR a2]) rfl (o_aloadN X6 hx hby d20_17 rfl rfl (st9 _ (o_aloadN X9 hx hby d20_21 rfl rfl (st12 _ (st34 _ (o_ifY X34 hx hby d20_28 (pc := 28) (pc' := 35) (by decide +kernel) (by decide) (by decide) (o_iconst X34 hx hby d20_35 (x := 0) rfl ?_)))))))))))))))
    exact retN X34 hx (t := .boolean) hret (by simp) (hb hby d20_36) hr
  · exact ⟨rfl, N34, rfl⟩
def Q22_98 (Z : State) (a1 : Addr) (a2 : Addr) (p3 : Int32) (p4 : Int32) (p5 : Int32) (k6 : ClassId) (p9 : Int32) (p10 : Int32) (k11 : ClassId) (h0 : Heap) (n0 : Nat) (v : Option Value) (h : Heap) (L : List Loc) : Prop := (v = some (.int 0) ∧ Fr n0 L ∧ h = h0)
theorem rm22_98 (l : Launch) (Z : State) (a0 : Array Value) (hw : own_HW Z a0) (a1 : Addr) (a2 : Addr) (p3 : Int32) (p4 : Int32) (p5 : Int32) (k6 : ClassId) (p9 : Int32) (p10 : Int32) (k11 : ClassId) (h0 : Heap) (n0 : Nat) (O0 : Old Z n0 h0) (V7 : Arv Z h0 a1 k6 .byte (3 : Int32) [(.int p3), (.int p4), (.int p5)] (.int (0 : Int32))) (V12 : Arv Z h0 a2 k11 .byte (2 : Int32) [(.int p9), (.int p10)] (.int (0 : Int32))) : own_Met l Z M_18 bc22 3 (some .boolean) ({ frames := 0, cells := 0, slots := 0, locals := 0 } : Room) #[(.ref a1), (.ref a2)] h0 (Q22_98 Z a1 a2 p3 p4 p5 k6 p9 p10 k11 h0 n0) := by
  refine own_body (L0 := #[vR a1, vR a2, .unset]) (plainFor_of_name pn_6) (fun m => by first | (simp [entryFrame, mkF, argsToLocals, Value.category]; done) | rfl) fun p e s m below meth c s₁ EN hx hby hml hown hnm hret X0 hZ e0 hh pre0 fin => ?_
  have N0 := Fr.nil n0
  obtain ⟨cl8, Ar8, -, Sz8, Nn8, -, -⟩ := id V7
  obtain ⟨cl13, Ar13, -, Sz13, Nn13, -, -⟩ := id V12
  refine fin (some (.int 0)) _ _ _ _ X0 nofun (fun fs hr => pre0 _ ?_) (own_atH e0 ?_) (by decide) (by decide)
  · refine o_aloadN X0 hx hby d22_0 rfl rfl (X0.arraylength hx (by rw [e0]; exact Ar8.1) (State.isArrayOf_alike hZ.alike Ar8.2.1) (g := (mkF m 1 #[vR a1, vR a2, .unset] [(.ref a1)])) rfl rfl (hb hby d22_1) _ ?_)
    rw [len_of Sz8 Nn8]
    refine o_aloadN X0 hx hby d22_2 rfl rfl (X0.arraylength hx (by rw [e0]; exact Ar13.1) (State.isArrayOf_alike hZ.alike Ar13.2.1) (g := (mkF m 3 #[vR a1, vR a2, .unset] [(.ref a2), (.int 3)])) rfl rfl (hb hby d22_3) _ ?_)
    rw [len_of Sz13 Nn13]
    refine o_icmpY X0 hx hby d22_4 (pc := 4) (pc' := 34) (by decide +kernel) (by decide) (by decide) (o_iconst X0 hx hby d22_34 (x := 0) rfl ?_)
    exact retN X0 hx (t := .boolean) hret (by simp) (hb hby d22_35) hr
  · exact ⟨rfl, N0, rfl⟩
def Q21_97 (Z : State) (a1 : Addr) (a2 : Addr) (p7 : Int32) (a15 : Addr) (a18 : Addr) (p21 : Int32) (p22 : Int32) (p23 : Int32) (k24 : ClassId) (p26 : Int32) (p27 : Int32) (k28 : ClassId) (h0 : Heap) (n0 : Nat) (v : Option Value) (h : Heap) (L : List Loc) : Prop := (v = some (.int 0) ∧ Fr n0 L ∧ h = h0)
theorem rm21_97 (l : Launch) (Z : State) (a0 : Array Value) (hw : own_HW Z a0) (a1 : Addr) (a2 : Addr) (p7 : Int32) (a15 : Addr) (a18 : Addr) (p21 : Int32) (p22 : Int32) (p23 : Int32) (k24 : ClassId) (p26 : Int32) (p27 : Int32) (k28 : ClassId) (h0 : Heap) (n0 : Nat) (O0 : Old Z n0 h0) (hne3 : a1 ≠ a2) (E_4 : Exa Z h0 a2 C_0) (S_8 : Sta Z Z.heap C_0 "COMPACT_STRINGS" "Z" (.int p7)) (hk10 : ¬ (p7 = (0 : Int32))) (F11 : Fld Z h0 a1 C_0 "coder" "B" (.int 0)) (F13 : Fld Z h0 a2 C_0 "coder" "B" (.int 0)) (F16 : Fld Z h0 a1 C_0 "value" "[B" (.ref a15)) (F19 : Fld Z h0 a2 C_0 "value" "[B" (.ref a18)) (V25 : Arv Z h0 a15 k24 .byte (3 : Int32) [(.int p21), (.int p22), (.int p23)] (.int (0 : Int32))) (V29 : Arv Z h0 a18 k28 .byte (2 : Int32) [(.int p26), (.int p27)] (.int (0 : Int32))) : own_Met l Z M_19 bc21 3 (some .boolean) ({ frames := 1, cells := 0, slots := 0, locals := 14 } : Room) #[(.ref a1), (.ref a2)] h0 (Q21_97 Z a1 a2 p7 a15 a18 p21 p22 p23 k24 p26 p27 k28 h0 n0) := by
  refine own_body (L0 := #[vR a1, vR a2, .unset]) (plainFor_of_name pn_2) (fun m => by first | (simp [entryFrame, mkF, argsToLocals, Value.category]; done) | rfl) fun p e s m below meth c s₁ EN hx hby hml hown hnm hret X0 hZ e0 hh pre0 fin => ?_
  have N0 := Fr.nil n0
  obtain ⟨T5, X5, e5, st5⟩ := instY X0 hx hZ hown (ww105 hw) e0 (Ins.self E_4) (g := (mkF m 8 #[vR a1, vR a2, .unset] [(.ref a2)])) rfl rfl (hb hby d21_8)
  obtain ⟨T6, X6, e6, st6⟩ := castY X5 hx hZ hown (ww105 hw) e5 (Ins.self E_4) (g := (mkF m 15 #[vR a1, vR a2, .unset] [(.ref a2)])) rfl rfl (hb hby d21_15)
  obtain ⟨T9, X9, e9, st9⟩ := getS2 X6 hx hZ hown (host := "") (Or.inl (ww18 hw)) Via.refl e6 (Sta.ext O0.2 S_8) (g := (mkF m 19 #[vR a1, vR a2, vR a2] [])) rfl (hb hby d21_19)
  obtain ⟨T12, X12, e12, st12⟩ := getF X9 hx hZ hown (host := "") (Or.inl (ww30 hw)) Via.refl e9 F11 (g := (mkF m 26 #[vR a1, vR a2, vR a2] [(.ref a1)])) rfl rfl (hb hby d21_26)
  obtain ⟨T14, X14, e14, st14⟩ := getF X12 hx hZ hown (host := "") (Or.inl (ww30 hw)) Via.refl e12 F13 (g := (mkF m 30 #[vR a1, vR a2, vR a2] [(.ref a2), (.int 0)])) rfl rfl (hb hby d21_30)
  obtain ⟨T17, X17, e17, st17⟩ := getF X14 hx hZ hown (host := "") (Or.inl (ww32 hw)) Via.refl e14 F16 (g := (mkF m 37 #[vR a1, vR a2, vR a2] [(.ref a1)])) rfl rfl (hb hby d21_37)
  obtain ⟨T20, X20, e20, st20⟩ := getF X17 hx hZ hown (host := "") (Or.inl (ww32 hw)) Via.refl e17 F19 (g := (mkF m 41 #[vR a1, vR a2, vR a2] [(.ref a2), (.ref a15)])) rfl rfl (hb hby d21_41)
  obtain ⟨_, T30, L30, X30, hQ30, st30⟩ := own_cS X20 hx hZ hown (ww106 hw) (ww107 hw) (ww78 hw) (ww108 hw) (rm22_98 l Z a0 hw a15 a18 p21 p22 p23 k24 p26 p27 k28 h0 n0 O0 V25 V29) e20 pd_18 hml (hb hby d21_44) (Ls := #[vR a1, vR a2, vR a2]) (W := 0) (argsL := [(.ref a15), (.ref a18)]) (rest := [])
  obtain ⟨rfl, u32, u33⟩ := hQ30
  have N30 := Fr.app N0 u32
  refine fin (some (.int 0)) _ _ _ _ X30 nofun (fun fs hr => pre0 _ ?_) (own_atH u33 ?_) (by decide) (by decide)
  · refine o_aloadN X0 hx hby d21_0 rfl rfl (o_aloadN X0 hx hby d21_1 rfl rfl (Jvm.RoadKit.acmp (g := (mkF m 2 #[vR a1, vR a2, .unset] [(.ref a2), (.ref a1)])) X0 hx rfl rfl rfl (pc0 := 2) (pc' := 7) (same := false) rfl (hb hby d21_2) rfl (decide_eq_false fun q => hne3 (Value.ref.inj q)) (by decide) (by decide) (o_aloadN X0 hx hby d21_7 rfl rfl (st5 _ (o_ifN X5 hx hby d21_11 (by decide +kernel) (o_aloadN X5 hx hby d21_14 rfl rfl (st6 _ (o_astoreN X6 hx hby d21_18 rfl (Ls' := #[vR a1, vR a2, vR a2]) rfl (st9 _ (o_ifN X9 hx hby d21_22 ((if0 _ _).trans (feq hk10).1) (o_aloadN X9 hx hby d21_25 rfl rfl (st12 _ (o_aloadN X12 hx hby d21_29 rfl rfl (st14 _ (o_icmpN X14 hx hby d21_33 (by decide +kernel) (o_aloadN X14 hx hby d21_36 rfl rfl (st17 _ (o_aloadN X17 hx hby d21_40 rfl rfl (st20 _ (st30 _ (o_ifY X30 hx hby d21_47 (pc := 47) (pc' := 54) (by decide +kernel) (by decide) (by decide) (o_iconst X30 hx hby d21_54 (x := 0) rfl ?_))))))))))))))))))))))
    exact retN X30 hx (t := .boolean) hret (by simp) (hb hby d21_55) hr
  · exact ⟨rfl, N30, rfl⟩
def Q20_96 (Z : State) (a1 : Addr) (a2 : Addr) (a7 : Addr) (a10 : Addr) (p16 : Int32) (a21 : Addr) (a23 : Addr) (p25 : Int32) (p26 : Int32) (p27 : Int32) (k28 : ClassId) (p30 : Int32) (p31 : Int32) (k32 : ClassId) (h0 : Heap) (n0 : Nat) (v : Option Value) (h : Heap) (L : List Loc) : Prop := (v = some (.int 0) ∧ Fr n0 L ∧ h = h0)
theorem rm20_96 (l : Launch) (Z : State) (a0 : Array Value) (hw : own_HW Z a0) (a1 : Addr) (a2 : Addr) (a7 : Addr) (a10 : Addr) (p16 : Int32) (a21 : Addr) (a23 : Addr) (p25 : Int32) (p26 : Int32) (p27 : Int32) (k28 : ClassId) (p30 : Int32) (p31 : Int32) (k32 : ClassId) (h0 : Heap) (n0 : Nat) (O0 : Old Z n0 h0) (hne3 : a1 ≠ a2) (E_4 : Exa Z h0 a2 C_1) (F8 : Fld Z h0 a1 C_1 "text" C_2 (.ref a7)) (F11 : Fld Z h0 a2 C_1 "text" C_2 (.ref a10)) (E_13 : Exa Z h0 a7 C_0) (hne14 : a7 ≠ a10) (E_15 : Exa Z h0 a10 C_0) (S_17 : Sta Z Z.heap C_0 "COMPACT_STRINGS" "Z" (.int p16)) (hk18 : ¬ (p16 = (0 : Int32))) (F19 : Fld Z h0 a7 C_0 "coder" "B" (.int 0)) (F20 : Fld Z h0 a10 C_0 "coder" "B" (.int 0)) (F22 : Fld Z h0 a7 C_0 "value" "[B" (.ref a21)) (F24 : Fld Z h0 a10 C_0 "value" "[B" (.ref a23)) (V29 : Arv Z h0 a21 k28 .byte (3 : Int32) [(.int p25), (.int p26), (.int p27)] (.int (0 : Int32))) (V33 : Arv Z h0 a23 k32 .byte (2 : Int32) [(.int p30), (.int p31)] (.int (0 : Int32))) : own_Met l Z M_20 bc20 3 (some .boolean) ({ frames := 2, cells := 0, slots := 0, locals := 28 } : Room) #[(.ref a1), (.ref a2)] h0 (Q20_96 Z a1 a2 a7 a10 p16 a21 a23 p25 p26 p27 k28 p30 p31 k32 h0 n0) := by
  refine own_body (L0 := #[vR a1, vR a2, .unset]) (plainFor_of_name pn_7) (fun m => by first | (simp [entryFrame, mkF, argsToLocals, Value.category]; done) | rfl) fun p e s m below meth c s₁ EN hx hby hml hown hnm hret X0 hZ e0 hh pre0 fin => ?_
  have N0 := Fr.nil n0
  obtain ⟨T5, X5, e5, st5⟩ := instY X0 hx hZ hown (ww98 hw) e0 (Ins.self E_4) (g := (mkF m 6 #[vR a1, vR a2, .unset] [(.ref a2)])) rfl rfl (hb hby d20_6)
  obtain ⟨T6, X6, e6, st6⟩ := castY X5 hx hZ hown (ww98 hw) e5 (Ins.self E_4) (g := (mkF m 13 #[vR a1, vR a2, .unset] [(.ref a2)])) rfl rfl (hb hby d20_13)
  obtain ⟨T9, X9, e9, st9⟩ := getF X6 hx hZ hown (host := "") (Or.inl (ww91 hw)) Via.refl e6 F8 (g := (mkF m 18 #[vR a1, vR a2, vR a2] [(.ref a1)])) rfl rfl (hb hby d20_18)
  obtain ⟨T12, X12, e12, st12⟩ := getF X9 hx hZ hown (host := "") (Or.inl (ww91 hw)) Via.refl e9 F11 (g := (mkF m 22 #[vR a1, vR a2, vR a2] [(.ref a2), (.ref a7)])) rfl rfl (hb hby d20_22)
  obtain ⟨_, T34, L34, X34, hQ34, st34⟩ := own_cV X12 hx hZ hown (ww100 hw) (ww101 hw) (notFace_of_selects (args := #[]) (mvT hZ (ww103 hw))) (ww103 hw) (ww102 hw) (ww2 hw) (ww104 hw) E_13 (rm21_97 l Z a0 hw a7 a10 p16 a21 a23 p25 p26 p27 k28 p30 p31 k32 h0 n0 O0 hne14 E_15 S_17 hk18 F19 F20 F22 F24 V29 V33) e12 pd_19 hml (hb hby d20_25) (Ls := #[vR a1, vR a2, vR a2]) (W := 0) (argsL := [(.ref a10)]) (rest := [])
  obtain ⟨rfl, u36, u37⟩ := hQ34
  have N34 := Fr.app N0 u36
  refine fin (some (.int 0)) _ _ _ _ X34 nofun (fun fs hr => pre0 _ ?_) (own_atH u37 ?_) (by decide) (by decide)
  · refine o_aloadN X0 hx hby d20_0 rfl rfl (o_aloadN X0 hx hby d20_1 rfl rfl (Jvm.RoadKit.acmp (g := (mkF m 2 #[vR a1, vR a2, .unset] [(.ref a2), (.ref a1)])) X0 hx rfl rfl rfl (pc0 := 2) (pc' := 5) (same := false) rfl (hb hby d20_2) rfl (decide_eq_false fun q => hne3 (Value.ref.inj q)) (by decide) (by decide) (o_aloadN X0 hx hby d20_5 rfl rfl (st5 _ (o_ifN X5 hx hby d20_9 (by decide +kernel) (o_aloadN X5 hx hby d20_12 rfl rfl (st6 _ (o_astoreN X6 hx hby d20_16 rfl (Ls' := #[vR a1, vR a2, vR a2]) rfl (o_aloadN X6 hx hby d20_17 rfl rfl (st9 _ (o_aloadN X9 hx hby d20_21 rfl rfl (st12 _ (st34 _ (o_ifY X34 hx hby d20_28 (pc := 28) (pc' := 35) (by decide +kernel) (by decide) (by decide) (o_iconst X34 hx hby d20_35 (x := 0) rfl ?_)))))))))))))))
    exact retN X34 hx (t := .boolean) hret (by simp) (hb hby d20_36) hr
  · exact ⟨rfl, N34, rfl⟩
def Q22_101 (Z : State) (a1 : Addr) (a2 : Addr) (p3 : Int32) (p4 : Int32) (p5 : Int32) (k6 : ClassId) (p9 : Int32) (p10 : Int32) (p11 : Int32) (k12 : ClassId) (h0 : Heap) (n0 : Nat) (v : Option Value) (h : Heap) (L : List Loc) : Prop := (v = some (.int 1) ∧ Fr n0 L ∧ h = h0)
theorem rm22_101 (l : Launch) (Z : State) (a0 : Array Value) (hw : own_HW Z a0) (a1 : Addr) (a2 : Addr) (p3 : Int32) (p4 : Int32) (p5 : Int32) (k6 : ClassId) (p9 : Int32) (p10 : Int32) (p11 : Int32) (k12 : ClassId) (h0 : Heap) (n0 : Nat) (O0 : Old Z n0 h0) (V7 : Arv Z h0 a1 k6 .byte (3 : Int32) [(.int p3), (.int p4), (.int p5)] (.int (0 : Int32))) (V13 : Arv Z h0 a2 k12 .byte (3 : Int32) [(.int p9), (.int p10), (.int p11)] (.int (0 : Int32))) (hk18 : p3 = p9) (hk22 : p4 = p10) (hk26 : p5 = p11) : own_Met l Z M_18 bc22 3 (some .boolean) ({ frames := 0, cells := 0, slots := 0, locals := 0 } : Room) #[(.ref a1), (.ref a2)] h0 (Q22_101 Z a1 a2 p3 p4 p5 k6 p9 p10 p11 k12 h0 n0) := by
  refine own_body (L0 := #[vR a1, vR a2, .unset]) (plainFor_of_name pn_6) (fun m => by first | (simp [entryFrame, mkF, argsToLocals, Value.category]; done) | rfl) fun p e s m below meth c s₁ EN hx hby hml hown hnm hret X0 hZ e0 hh pre0 fin => ?_
  have N0 := Fr.nil n0
  obtain ⟨cl8, Ar8, -, Sz8, Nn8, -, -⟩ := id V7
  obtain ⟨cl14, Ar14, -, Sz14, Nn14, -, -⟩ := id V13
  obtain ⟨cl15, Ar15, -, Sz15, Nn15, -, -⟩ := id V7
  obtain ⟨cl16, Ar16, -, Sz16, -, Hh16, -⟩ := id V7
  have hin16 : ¬ ((0 : Int32) < 0 ∨ cl16.slots.size ≤ ((0 : Int32)).toNatClampNeg) := inb_of Sz16 ⟨by decide +kernel, by decide +kernel⟩
  have hat16 : cl16.slots[((0 : Int32)).toNatClampNeg]? = some (.int p3) := Has.at Hh16 hin16 rfl
  obtain ⟨cl17, Ar17, -, Sz17, -, Hh17, -⟩ := id V13
  have hin17 : ¬ ((0 : Int32) < 0 ∨ cl17.slots.size ≤ ((0 : Int32)).toNatClampNeg) := inb_of Sz17 ⟨by decide +kernel, by decide +kernel⟩
  have hat17 : cl17.slots[((0 : Int32)).toNatClampNeg]? = some (.int p9) := Has.at Hh17 hin17 rfl
  obtain ⟨cl19, Ar19, -, Sz19, Nn19, -, -⟩ := id V7
  obtain ⟨cl20, Ar20, -, Sz20, -, Hh20, -⟩ := id V7
  have hin20 : ¬ ((1 : Int32) < 0 ∨ cl20.slots.size ≤ ((1 : Int32)).toNatClampNeg) := inb_of Sz20 ⟨by decide +kernel, by decide +kernel⟩
  have hat20 : cl20.slots[((1 : Int32)).toNatClampNeg]? = some (.int p4) := Has.at Hh20 hin20 rfl
  obtain ⟨cl21, Ar21, -, Sz21, -, Hh21, -⟩ := id V13
  have hin21 : ¬ ((1 : Int32) < 0 ∨ cl21.slots.size ≤ ((1 : Int32)).toNatClampNeg) := inb_of Sz21 ⟨by decide +kernel, by decide +kernel⟩
  have hat21 : cl21.slots[((1 : Int32)).toNatClampNeg]? = some (.int p10) := Has.at Hh21 hin21 rfl
  obtain ⟨cl23, Ar23, -, Sz23, Nn23, -, -⟩ := id V7
  obtain ⟨cl24, Ar24, -, Sz24, -, Hh24, -⟩ := id V7
  have hin24 : ¬ ((2 : Int32) < 0 ∨ cl24.slots.size ≤ ((2 : Int32)).toNatClampNeg) := inb_of Sz24 ⟨by decide +kernel, by decide +kernel⟩
  have hat24 : cl24.slots[((2 : Int32)).toNatClampNeg]? = some (.int p5) := Has.at Hh24 hin24 rfl
  obtain ⟨cl25, Ar25, -, Sz25, -, Hh25, -⟩ := id V13
  have hin25 : ¬ ((2 : Int32) < 0 ∨ cl25.slots.size ≤ ((2 : Int32)).toNatClampNeg) := inb_of Sz25 ⟨by decide +kernel, by decide +kernel⟩
  have hat25 : cl25.slots[((2 : Int32)).toNatClampNeg]? = some (.int p11) := Has.at Hh25 hin25 rfl
  obtain ⟨cl27, Ar27, -, Sz27, Nn27, -, -⟩ := id V7
  refine fin (some (.int 1)) _ _ _ _ X0 nofun (fun fs hr => pre0 _ ?_) (own_atH e0 ?_) (by decide) (by decide)
  · refine o_aloadN X0 hx hby d22_0 rfl rfl (X0.arraylength hx (by rw [e0]; exact Ar8.1) (State.isArrayOf_alike hZ.alike Ar8.2.1) (g := (mkF m 1 #[vR a1, vR a2, .unset] [(.ref a1)])) rfl rfl (hb hby d22_1) _ ?_)
    rw [len_of Sz8 Nn8]
    refine o_aloadN X0 hx hby d22_2 rfl rfl (X0.arraylength hx (by rw [e0]; exact Ar14.1) (State.isArrayOf_alike hZ.alike Ar14.2.1) (g := (mkF m 3 #[vR a1, vR a2, .unset] [(.ref a2), (.int 3)])) rfl rfl (hb hby d22_3) _ ?_)
    rw [len_of Sz14 Nn14]
    refine o_icmpN X0 hx hby d22_4 (by decide +kernel) (o_iconst X0 hx hby d22_7 (x := 0) rfl (o_istoreN X0 hx hby d22_8 (Ls' := #[vR a1, vR a2, vI 0]) rfl (o_iloadN X0 hx hby d22_9 rfl (o_aloadN X0 hx hby d22_10 rfl rfl (X0.arraylength hx (by rw [e0]; exact Ar15.1) (State.isArrayOf_alike hZ.alike Ar15.2.1) (g := (mkF m 11 #[vR a1, vR a2, vI 0] [(.ref a1), (.int 0)])) rfl rfl (hb hby d22_11) _ ?_)))))
    rw [len_of Sz15 Nn15]
    refine o_icmpN X0 hx hby d22_12 (by decide +kernel) (o_aloadN X0 hx hby d22_15 rfl rfl (o_iloadN X0 hx hby d22_16 rfl (X0.baloadBytes hx (j := (0 : Int32)) (v := (.int p3)) (by rw [e0]; exact Ar16.1) (State.isArrayOf_alike hZ.alike Ar16.2.1) Ar16.2.2 hin16 hat16 (g := (mkF m 17 #[vR a1, vR a2, vI 0] [(.int 0), (.ref a1)])) rfl rfl (hb hby d22_17) _ (o_aloadN X0 hx hby d22_18 rfl rfl (o_iloadN X0 hx hby d22_19 rfl (X0.baloadBytes hx (j := (0 : Int32)) (v := (.int p9)) (by rw [e0]; exact Ar17.1) (State.isArrayOf_alike hZ.alike Ar17.2.1) Ar17.2.2 hin17 hat17 (g := (mkF m 20 #[vR a1, vR a2, vI 0] [(.int 0), (.ref a2), (.int p3)])) rfl rfl (hb hby d22_20) _ (o_icmpY X0 hx hby d22_21 (pc := 21) (pc' := 26) (teq hk18).1 (by decide) (by decide) (o_iinc X0 hx hby d22_26 rfl (z := (1 : Int32)) (k' := 1) rfl (by decide +kernel) (Ls' := #[vR a1, vR a2, vI 1]) rfl (o_goto X0 hx hby d22_29 (pc := 29) (pc' := 9) (by decide) (by decide) (o_iloadN X0 hx hby d22_9 rfl (o_aloadN X0 hx hby d22_10 rfl rfl (X0.arraylength hx (by rw [e0]; exact Ar19.1) (State.isArrayOf_alike hZ.alike Ar19.2.1) (g := (mkF m 11 #[vR a1, vR a2, vI 1] [(.ref a1), (.int 1)])) rfl rfl (hb hby d22_11) _ ?_))))))))))))
    rw [len_of Sz19 Nn19]
    refine o_icmpN X0 hx hby d22_12 (by decide +kernel) (o_aloadN X0 hx hby d22_15 rfl rfl (o_iloadN X0 hx hby d22_16 rfl (X0.baloadBytes hx (j := (1 : Int32)) (v := (.int p4)) (by rw [e0]; exact Ar20.1) (State.isArrayOf_alike hZ.alike Ar20.2.1) Ar20.2.2 hin20 hat20 (g := (mkF m 17 #[vR a1, vR a2, vI 1] [(.int 1), (.ref a1)])) rfl rfl (hb hby d22_17) _ (o_aloadN X0 hx hby d22_18 rfl rfl (o_iloadN X0 hx hby d22_19 rfl (X0.baloadBytes hx (j := (1 : Int32)) (v := (.int p10)) (by rw [e0]; exact Ar21.1) (State.isArrayOf_alike hZ.alike Ar21.2.1) Ar21.2.2 hin21 hat21 (g := (mkF m 20 #[vR a1, vR a2, vI 1] [(.int 1), (.ref a2), (.int p4)])) rfl rfl (hb hby d22_20) _ (o_icmpY X0 hx hby d22_21 (pc := 21) (pc' := 26) (teq hk22).1 (by decide) (by decide) (o_iinc X0 hx hby d22_26 rfl (z := (2 : Int32)) (k' := 1) rfl (by decide +kernel) (Ls' := #[vR a1, vR a2, vI 2]) rfl (o_goto X0 hx hby d22_29 (pc := 29) (pc' := 9) (by decide) (by decide) (o_iloadN X0 hx hby d22_9 rfl (o_aloadN X0 hx hby d22_10 rfl rfl (X0.arraylength hx (by rw [e0]; exact Ar23.1) (State.isArrayOf_alike hZ.alike Ar23.2.1) (g := (mkF m 11 #[vR a1, vR a2, vI 2] [(.ref a1), (.int 2)])) rfl rfl (hb hby d22_11) _ ?_))))))))))))
    rw [len_of Sz23 Nn23]
    refine o_icmpN X0 hx hby d22_12 (by decide +kernel) (o_aloadN X0 hx hby d22_15 rfl rfl (o_iloadN X0 hx hby d22_16 rfl (X0.baloadBytes hx (j := (2 : Int32)) (v := (.int p5)) (by rw [e0]; exact Ar24.1) (State.isArrayOf_alike hZ.alike Ar24.2.1) Ar24.2.2 hin24 hat24 (g := (mkF m 17 #[vR a1, vR a2, vI 2] [(.int 2), (.ref a1)])) rfl rfl (hb hby d22_17) _ (o_aloadN X0 hx hby d22_18 rfl rfl (o_iloadN X0 hx hby d22_19 rfl (X0.baloadBytes hx (j := (2 : Int32)) (v := (.int p11)) (by rw [e0]; exact Ar25.1) (State.isArrayOf_alike hZ.alike Ar25.2.1) Ar25.2.2 hin25 hat25 (g := (mkF m 20 #[vR a1, vR a2, vI 2] [(.int 2), (.ref a2), (.int p5)])) rfl rfl (hb hby d22_20) _ (o_icmpY X0 hx hby d22_21 (pc := 21) (pc' := 26) (teq hk26).1 (by decide) (by decide) (o_iinc X0 hx hby d22_26 rfl (z := (3 : Int32)) (k' := 1) rfl (by decide +kernel) (Ls' := #[vR a1, vR a2, vI 3]) rfl (o_goto X0 hx hby d22_29 (pc := 29) (pc' := 9) (by decide) (by decide) (o_iloadN X0 hx hby d22_9 rfl (o_aloadN X0 hx hby d22_10 rfl rfl (X0.arraylength hx (by rw [e0]; exact Ar27.1) (State.isArrayOf_alike hZ.alike Ar27.2.1) (g := (mkF m 11 #[vR a1, vR a2, vI 3] [(.ref a1), (.int 3)])) rfl rfl (hb hby d22_11) _ ?_))))))))))))
    rw [len_of Sz27 Nn27]
    refine o_icmpY X0 hx hby d22_12 (pc := 12) (pc' := 32) (by decide +kernel) (by decide) (by decide) (o_iconst X0 hx hby d22_32 (x := 1) rfl ?_)
    exact retN X0 hx (t := .boolean) hret (by simp) (hb hby d22_33) hr
  · exact ⟨rfl, N0, rfl⟩
def Q21_100 (Z : State) (a1 : Addr) (a2 : Addr) (p7 : Int32) (a15 : Addr) (a18 : Addr) (p21 : Int32) (p22 : Int32) (p23 : Int32) (k24 : ClassId) (p26 : Int32) (p27 : Int32) (p28 : Int32) (k29 : ClassId) (h0 : Heap) (n0 : Nat) (v : Option Value) (h : Heap) (L : List Loc) : Prop := (v = some (.int 1) ∧ Fr n0 L ∧ h = h0)
theorem rm21_100 (l : Launch) (Z : State) (a0 : Array Value) (hw : own_HW Z a0) (a1 : Addr) (a2 : Addr) (p7 : Int32) (a15 : Addr) (a18 : Addr) (p21 : Int32) (p22 : Int32) (p23 : Int32) (k24 : ClassId) (p26 : Int32) (p27 : Int32) (p28 : Int32) (k29 : ClassId) (h0 : Heap) (n0 : Nat) (O0 : Old Z n0 h0) (hne3 : a1 ≠ a2) (E_4 : Exa Z h0 a2 C_0) (S_8 : Sta Z Z.heap C_0 "COMPACT_STRINGS" "Z" (.int p7)) (hk10 : ¬ (p7 = (0 : Int32))) (F11 : Fld Z h0 a1 C_0 "coder" "B" (.int 0)) (F13 : Fld Z h0 a2 C_0 "coder" "B" (.int 0)) (F16 : Fld Z h0 a1 C_0 "value" "[B" (.ref a15)) (F19 : Fld Z h0 a2 C_0 "value" "[B" (.ref a18)) (V25 : Arv Z h0 a15 k24 .byte (3 : Int32) [(.int p21), (.int p22), (.int p23)] (.int (0 : Int32))) (V30 : Arv Z h0 a18 k29 .byte (3 : Int32) [(.int p26), (.int p27), (.int p28)] (.int (0 : Int32))) (hk31 : p21 = p26) (hk32 : p22 = p27) (hk33 : p23 = p28) : own_Met l Z M_19 bc21 3 (some .boolean) ({ frames := 1, cells := 0, slots := 0, locals := 14 } : Room) #[(.ref a1), (.ref a2)] h0 (Q21_100 Z a1 a2 p7 a15 a18 p21 p22 p23 k24 p26 p27 p28 k29 h0 n0) := by
  refine own_body (L0 := #[vR a1, vR a2, .unset]) (plainFor_of_name pn_2) (fun m => by first | (simp [entryFrame, mkF, argsToLocals, Value.category]; done) | rfl) fun p e s m below meth c s₁ EN hx hby hml hown hnm hret X0 hZ e0 hh pre0 fin => ?_
  have N0 := Fr.nil n0
  obtain ⟨T5, X5, e5, st5⟩ := instY X0 hx hZ hown (ww105 hw) e0 (Ins.self E_4) (g := (mkF m 8 #[vR a1, vR a2, .unset] [(.ref a2)])) rfl rfl (hb hby d21_8)
  obtain ⟨T6, X6, e6, st6⟩ := castY X5 hx hZ hown (ww105 hw) e5 (Ins.self E_4) (g := (mkF m 15 #[vR a1, vR a2, .unset] [(.ref a2)])) rfl rfl (hb hby d21_15)
  obtain ⟨T9, X9, e9, st9⟩ := getS2 X6 hx hZ hown (host := "") (Or.inl (ww18 hw)) Via.refl e6 (Sta.ext O0.2 S_8) (g := (mkF m 19 #[vR a1, vR a2, vR a2] [])) rfl (hb hby d21_19)
  obtain ⟨T12, X12, e12, st12⟩ := getF X9 hx hZ hown (host := "") (Or.inl (ww30 hw)) Via.refl e9 F11 (g := (mkF m 26 #[vR a1, vR a2, vR a2] [(.ref a1)])) rfl rfl (hb hby d21_26)
  obtain ⟨T14, X14, e14, st14⟩ := getF X12 hx hZ hown (host := "") (Or.inl (ww30 hw)) Via.refl e12 F13 (g := (mkF m 30 #[vR a1, vR a2, vR a2] [(.ref a2), (.int 0)])) rfl rfl (hb hby d21_30)
  obtain ⟨T17, X17, e17, st17⟩ := getF X14 hx hZ hown (host := "") (Or.inl (ww32 hw)) Via.refl e14 F16 (g := (mkF m 37 #[vR a1, vR a2, vR a2] [(.ref a1)])) rfl rfl (hb hby d21_37)
  obtain ⟨T20, X20, e20, st20⟩ := getF X17 hx hZ hown (host := "") (Or.inl (ww32 hw)) Via.refl e17 F19 (g := (mkF m 41 #[vR a1, vR a2, vR a2] [(.ref a2), (.ref a15)])) rfl rfl (hb hby d21_41)
  obtain ⟨_, T34, L34, X34, hQ34, st34⟩ := own_cS X20 hx hZ hown (ww106 hw) (ww107 hw) (ww78 hw) (ww108 hw) (rm22_101 l Z a0 hw a15 a18 p21 p22 p23 k24 p26 p27 p28 k29 h0 n0 O0 V25 V30 hk31 hk32 hk33) e20 pd_18 hml (hb hby d21_44) (Ls := #[vR a1, vR a2, vR a2]) (W := 0) (argsL := [(.ref a15), (.ref a18)]) (rest := [])
  obtain ⟨rfl, u36, u37⟩ := hQ34
  have N34 := Fr.app N0 u36
  refine fin (some (.int 1)) _ _ _ _ X34 nofun (fun fs hr => pre0 _ ?_) (own_atH u37 ?_) (by decide) (by decide)
  · refine o_aloadN X0 hx hby d21_0 rfl rfl (o_aloadN X0 hx hby d21_1 rfl rfl (Jvm.RoadKit.acmp (g := (mkF m 2 #[vR a1, vR a2, .unset] [(.ref a2), (.ref a1)])) X0 hx rfl rfl rfl (pc0 := 2) (pc' := 7) (same := false) rfl (hb hby d21_2) rfl (decide_eq_false fun q => hne3 (Value.ref.inj q)) (by decide) (by decide) (o_aloadN X0 hx hby d21_7 rfl rfl (st5 _ (o_ifN X5 hx hby d21_11 (by decide +kernel) (o_aloadN X5 hx hby d21_14 rfl rfl (st6 _ (o_astoreN X6 hx hby d21_18 rfl (Ls' := #[vR a1, vR a2, vR a2]) rfl (st9 _ (o_ifN X9 hx hby d21_22 ((if0 _ _).trans (feq hk10).1) (o_aloadN X9 hx hby d21_25 rfl rfl (st12 _ (o_aloadN X12 hx hby d21_29 rfl rfl (st14 _ (o_icmpN X14 hx hby d21_33 (by decide +kernel) (o_aloadN X14 hx hby d21_36 rfl rfl (st17 _ (o_aloadN X17 hx hby d21_40 rfl rfl (st20 _ (st34 _ (o_ifN X34 hx hby d21_47 (by decide +kernel) (o_iconst X34 hx hby d21_50 (x := 1) rfl (o_goto X34 hx hby d21_51 (pc := 51) (pc' := 55) (by decide) (by decide) ?_)))))))))))))))))))))))
    exact retN X34 hx (t := .boolean) hret (by simp) (hb hby d21_55) hr
  · exact ⟨rfl, N34, rfl⟩
def Q20_99 (Z : State) (a1 : Addr) (a2 : Addr) (a7 : Addr) (a10 : Addr) (p16 : Int32) (a21 : Addr) (a23 : Addr) (p25 : Int32) (p26 : Int32) (p27 : Int32) (k28 : ClassId) (p30 : Int32) (p31 : Int32) (p32 : Int32) (k33 : ClassId) (h0 : Heap) (n0 : Nat) (v : Option Value) (h : Heap) (L : List Loc) : Prop := (v = some (.int 1) ∧ Fr n0 L ∧ h = h0)
theorem rm20_99 (l : Launch) (Z : State) (a0 : Array Value) (hw : own_HW Z a0) (a1 : Addr) (a2 : Addr) (a7 : Addr) (a10 : Addr) (p16 : Int32) (a21 : Addr) (a23 : Addr) (p25 : Int32) (p26 : Int32) (p27 : Int32) (k28 : ClassId) (p30 : Int32) (p31 : Int32) (p32 : Int32) (k33 : ClassId) (h0 : Heap) (n0 : Nat) (O0 : Old Z n0 h0) (hne3 : a1 ≠ a2) (E_4 : Exa Z h0 a2 C_1) (F8 : Fld Z h0 a1 C_1 "text" C_2 (.ref a7)) (F11 : Fld Z h0 a2 C_1 "text" C_2 (.ref a10)) (E_13 : Exa Z h0 a7 C_0) (hne14 : a7 ≠ a10) (E_15 : Exa Z h0 a10 C_0) (S_17 : Sta Z Z.heap C_0 "COMPACT_STRINGS" "Z" (.int p16)) (hk18 : ¬ (p16 = (0 : Int32))) (F19 : Fld Z h0 a7 C_0 "coder" "B" (.int 0)) (F20 : Fld Z h0 a10 C_0 "coder" "B" (.int 0)) (F22 : Fld Z h0 a7 C_0 "value" "[B" (.ref a21)) (F24 : Fld Z h0 a10 C_0 "value" "[B" (.ref a23)) (V29 : Arv Z h0 a21 k28 .byte (3 : Int32) [(.int p25), (.int p26), (.int p27)] (.int (0 : Int32))) (V34 : Arv Z h0 a23 k33 .byte (3 : Int32) [(.int p30), (.int p31), (.int p32)] (.int (0 : Int32))) (hk35 : p25 = p30) (hk36 : p26 = p31) (hk37 : p27 = p32) : own_Met l Z M_20 bc20 3 (some .boolean) ({ frames := 2, cells := 0, slots := 0, locals := 28 } : Room) #[(.ref a1), (.ref a2)] h0 (Q20_99 Z a1 a2 a7 a10 p16 a21 a23 p25 p26 p27 k28 p30 p31 p32 k33 h0 n0) := by
  refine own_body (L0 := #[vR a1, vR a2, .unset]) (plainFor_of_name pn_7) (fun m => by first | (simp [entryFrame, mkF, argsToLocals, Value.category]; done) | rfl) fun p e s m below meth c s₁ EN hx hby hml hown hnm hret X0 hZ e0 hh pre0 fin => ?_
  have N0 := Fr.nil n0
  obtain ⟨T5, X5, e5, st5⟩ := instY X0 hx hZ hown (ww98 hw) e0 (Ins.self E_4) (g := (mkF m 6 #[vR a1, vR a2, .unset] [(.ref a2)])) rfl rfl (hb hby d20_6)
  obtain ⟨T6, X6, e6, st6⟩ := castY X5 hx hZ hown (ww98 hw) e5 (Ins.self E_4) (g := (mkF m 13 #[vR a1, vR a2, .unset] [(.ref a2)])) rfl rfl (hb hby d20_13)
  obtain ⟨T9, X9, e9, st9⟩ := getF X6 hx hZ hown (host := "") (Or.inl (ww91 hw)) Via.refl e6 F8 (g := (mkF m 18 #[vR a1, vR a2, vR a2] [(.ref a1)])) rfl rfl (hb hby d20_18)
  obtain ⟨T12, X12, e12, st12⟩ := getF X9 hx hZ hown (host := "") (Or.inl (ww91 hw)) Via.refl e9 F11 (g := (mkF m 22 #[vR a1, vR a2, vR a2] [(.ref a2), (.ref a7)])) rfl rfl (hb hby d20_22)
  obtain ⟨_, T38, L38, X38, hQ38, st38⟩ := own_cV X12 hx hZ hown (ww100 hw) (ww101 hw) (notFace_of_selects (args := #[]) (mvT hZ (ww103 hw))) (ww103 hw) (ww102 hw) (ww2 hw) (ww104 hw) E_13 (rm21_100 l Z a0 hw a7 a10 p16 a21 a23 p25 p26 p27 k28 p30 p31 p32 k33 h0 n0 O0 hne14 E_15 S_17 hk18 F19 F20 F22 F24 V29 V34 hk35 hk36 hk37) e12 pd_19 hml (hb hby d20_25) (Ls := #[vR a1, vR a2, vR a2]) (W := 0) (argsL := [(.ref a10)]) (rest := [])
  obtain ⟨rfl, u40, u41⟩ := hQ38
  have N38 := Fr.app N0 u40
  refine fin (some (.int 1)) _ _ _ _ X38 nofun (fun fs hr => pre0 _ ?_) (own_atH u41 ?_) (by decide) (by decide)
  · refine o_aloadN X0 hx hby d20_0 rfl rfl (o_aloadN X0 hx hby d20_1 rfl rfl (Jvm.RoadKit.acmp (g := (mkF m 2 #[vR a1, vR a2, .unset] [(.ref a2), (.ref a1)])) X0 hx rfl rfl rfl (pc0 := 2) (pc' := 5) (same := false) rfl (hb hby d20_2) rfl (decide_eq_false fun q => hne3 (Value.ref.inj q)) (by decide) (by decide) (o_aloadN X0 hx hby d20_5 rfl rfl (st5 _ (o_ifN X5 hx hby d20_9 (by decide +kernel) (o_aloadN X5 hx hby d20_12 rfl rfl (st6 _ (o_astoreN X6 hx hby d20_16 rfl (Ls' := #[vR a1, vR a2, vR a2]) rfl (o_aloadN X6 hx hby d20_17 rfl rfl (st9 _ (o_aloadN X9 hx hby d20_21 rfl rfl (st12 _ (st38 _ (o_ifN X38 hx hby d20_28 (by decide +kernel) (o_iconst X38 hx hby d20_31 (x := 1) rfl (o_goto X38 hx hby d20_32 (pc := 32) (pc' := 36) (by decide) (by decide) ?_))))))))))))))))
    exact retN X38 hx (t := .boolean) hret (by simp) (hb hby d20_36) hr
  · exact ⟨rfl, N38, rfl⟩
def Q22_104 (Z : State) (a1 : Addr) (a2 : Addr) (p3 : Int32) (p4 : Int32) (p5 : Int32) (k6 : ClassId) (p9 : Int32) (p10 : Int32) (p11 : Int32) (k12 : ClassId) (h0 : Heap) (n0 : Nat) (v : Option Value) (h : Heap) (L : List Loc) : Prop := (v = some (.int 0) ∧ Fr n0 L ∧ h = h0)
theorem rm22_104 (l : Launch) (Z : State) (a0 : Array Value) (hw : own_HW Z a0) (a1 : Addr) (a2 : Addr) (p3 : Int32) (p4 : Int32) (p5 : Int32) (k6 : ClassId) (p9 : Int32) (p10 : Int32) (p11 : Int32) (k12 : ClassId) (h0 : Heap) (n0 : Nat) (O0 : Old Z n0 h0) (V7 : Arv Z h0 a1 k6 .byte (3 : Int32) [(.int p3), (.int p4), (.int p5)] (.int (0 : Int32))) (V13 : Arv Z h0 a2 k12 .byte (3 : Int32) [(.int p9), (.int p10), (.int p11)] (.int (0 : Int32))) (hk18 : p3 = p9) (hk22 : p4 = p10) (hk26 : ¬ (p5 = p11)) : own_Met l Z M_18 bc22 3 (some .boolean) ({ frames := 0, cells := 0, slots := 0, locals := 0 } : Room) #[(.ref a1), (.ref a2)] h0 (Q22_104 Z a1 a2 p3 p4 p5 k6 p9 p10 p11 k12 h0 n0) := by
  refine own_body (L0 := #[vR a1, vR a2, .unset]) (plainFor_of_name pn_6) (fun m => by first | (simp [entryFrame, mkF, argsToLocals, Value.category]; done) | rfl) fun p e s m below meth c s₁ EN hx hby hml hown hnm hret X0 hZ e0 hh pre0 fin => ?_
  have N0 := Fr.nil n0
  obtain ⟨cl8, Ar8, -, Sz8, Nn8, -, -⟩ := id V7
  obtain ⟨cl14, Ar14, -, Sz14, Nn14, -, -⟩ := id V13
  obtain ⟨cl15, Ar15, -, Sz15, Nn15, -, -⟩ := id V7
  obtain ⟨cl16, Ar16, -, Sz16, -, Hh16, -⟩ := id V7
  have hin16 : ¬ ((0 : Int32) < 0 ∨ cl16.slots.size ≤ ((0 : Int32)).toNatClampNeg) := inb_of Sz16 ⟨by decide +kernel, by decide +kernel⟩
  have hat16 : cl16.slots[((0 : Int32)).toNatClampNeg]? = some (.int p3) := Has.at Hh16 hin16 rfl
  obtain ⟨cl17, Ar17, -, Sz17, -, Hh17, -⟩ := id V13
  have hin17 : ¬ ((0 : Int32) < 0 ∨ cl17.slots.size ≤ ((0 : Int32)).toNatClampNeg) := inb_of Sz17 ⟨by decide +kernel, by decide +kernel⟩
  have hat17 : cl17.slots[((0 : Int32)).toNatClampNeg]? = some (.int p9) := Has.at Hh17 hin17 rfl
  obtain ⟨cl19, Ar19, -, Sz19, Nn19, -, -⟩ := id V7
  obtain ⟨cl20, Ar20, -, Sz20, -, Hh20, -⟩ := id V7
  have hin20 : ¬ ((1 : Int32) < 0 ∨ cl20.slots.size ≤ ((1 : Int32)).toNatClampNeg) := inb_of Sz20 ⟨by decide +kernel, by decide +kernel⟩
  have hat20 : cl20.slots[((1 : Int32)).toNatClampNeg]? = some (.int p4) := Has.at Hh20 hin20 rfl
  obtain ⟨cl21, Ar21, -, Sz21, -, Hh21, -⟩ := id V13
  have hin21 : ¬ ((1 : Int32) < 0 ∨ cl21.slots.size ≤ ((1 : Int32)).toNatClampNeg) := inb_of Sz21 ⟨by decide +kernel, by decide +kernel⟩
  have hat21 : cl21.slots[((1 : Int32)).toNatClampNeg]? = some (.int p10) := Has.at Hh21 hin21 rfl
  obtain ⟨cl23, Ar23, -, Sz23, Nn23, -, -⟩ := id V7
  obtain ⟨cl24, Ar24, -, Sz24, -, Hh24, -⟩ := id V7
  have hin24 : ¬ ((2 : Int32) < 0 ∨ cl24.slots.size ≤ ((2 : Int32)).toNatClampNeg) := inb_of Sz24 ⟨by decide +kernel, by decide +kernel⟩
  have hat24 : cl24.slots[((2 : Int32)).toNatClampNeg]? = some (.int p5) := Has.at Hh24 hin24 rfl
  obtain ⟨cl25, Ar25, -, Sz25, -, Hh25, -⟩ := id V13
  have hin25 : ¬ ((2 : Int32) < 0 ∨ cl25.slots.size ≤ ((2 : Int32)).toNatClampNeg) := inb_of Sz25 ⟨by decide +kernel, by decide +kernel⟩
  have hat25 : cl25.slots[((2 : Int32)).toNatClampNeg]? = some (.int p11) := Has.at Hh25 hin25 rfl
  refine fin (some (.int 0)) _ _ _ _ X0 nofun (fun fs hr => pre0 _ ?_) (own_atH e0 ?_) (by decide) (by decide)
  · refine o_aloadN X0 hx hby d22_0 rfl rfl (X0.arraylength hx (by rw [e0]; exact Ar8.1) (State.isArrayOf_alike hZ.alike Ar8.2.1) (g := (mkF m 1 #[vR a1, vR a2, .unset] [(.ref a1)])) rfl rfl (hb hby d22_1) _ ?_)
    rw [len_of Sz8 Nn8]
    refine o_aloadN X0 hx hby d22_2 rfl rfl (X0.arraylength hx (by rw [e0]; exact Ar14.1) (State.isArrayOf_alike hZ.alike Ar14.2.1) (g := (mkF m 3 #[vR a1, vR a2, .unset] [(.ref a2), (.int 3)])) rfl rfl (hb hby d22_3) _ ?_)
    rw [len_of Sz14 Nn14]
    refine o_icmpN X0 hx hby d22_4 (by decide +kernel) (o_iconst X0 hx hby d22_7 (x := 0) rfl (o_istoreN X0 hx hby d22_8 (Ls' := #[vR a1, vR a2, vI 0]) rfl (o_iloadN X0 hx hby d22_9 rfl (o_aloadN X0 hx hby d22_10 rfl rfl (X0.arraylength hx (by rw [e0]; exact Ar15.1) (State.isArrayOf_alike hZ.alike Ar15.2.1) (g := (mkF m 11 #[vR a1, vR a2, vI 0] [(.ref a1), (.int 0)])) rfl rfl (hb hby d22_11) _ ?_)))))
    rw [len_of Sz15 Nn15]
    refine o_icmpN X0 hx hby d22_12 (by decide +kernel) (o_aloadN X0 hx hby d22_15 rfl rfl (o_iloadN X0 hx hby d22_16 rfl (X0.baloadBytes hx (j := (0 : Int32)) (v := (.int p3)) (by rw [e0]; exact Ar16.1) (State.isArrayOf_alike hZ.alike Ar16.2.1) Ar16.2.2 hin16 hat16 (g := (mkF m 17 #[vR a1, vR a2, vI 0] [(.int 0), (.ref a1)])) rfl rfl (hb hby d22_17) _ (o_aloadN X0 hx hby d22_18 rfl rfl (o_iloadN X0 hx hby d22_19 rfl (X0.baloadBytes hx (j := (0 : Int32)) (v := (.int p9)) (by rw [e0]; exact Ar17.1) (State.isArrayOf_alike hZ.alike Ar17.2.1) Ar17.2.2 hin17 hat17 (g := (mkF m 20 #[vR a1, vR a2, vI 0] [(.int 0), (.ref a2), (.int p3)])) rfl rfl (hb hby d22_20) _ (o_icmpY X0 hx hby d22_21 (pc := 21) (pc' := 26) (teq hk18).1 (by decide) (by decide) (o_iinc X0 hx hby d22_26 rfl (z := (1 : Int32)) (k' := 1) rfl (by decide +kernel) (Ls' := #[vR a1, vR a2, vI 1]) rfl (o_goto X0 hx hby d22_29 (pc := 29) (pc' := 9) (by decide) (by decide) (o_iloadN X0 hx hby d22_9 rfl (o_aloadN X0 hx hby d22_10 rfl rfl (X0.arraylength hx (by rw [e0]; exact Ar19.1) (State.isArrayOf_alike hZ.alike Ar19.2.1) (g := (mkF m 11 #[vR a1, vR a2, vI 1] [(.ref a1), (.int 1)])) rfl rfl (hb hby d22_11) _ ?_))))))))))))
    rw [len_of Sz19 Nn19]
    refine o_icmpN X0 hx hby d22_12 (by decide +kernel) (o_aloadN X0 hx hby d22_15 rfl rfl (o_iloadN X0 hx hby d22_16 rfl (X0.baloadBytes hx (j := (1 : Int32)) (v := (.int p4)) (by rw [e0]; exact Ar20.1) (State.isArrayOf_alike hZ.alike Ar20.2.1) Ar20.2.2 hin20 hat20 (g := (mkF m 17 #[vR a1, vR a2, vI 1] [(.int 1), (.ref a1)])) rfl rfl (hb hby d22_17) _ (o_aloadN X0 hx hby d22_18 rfl rfl (o_iloadN X0 hx hby d22_19 rfl (X0.baloadBytes hx (j := (1 : Int32)) (v := (.int p10)) (by rw [e0]; exact Ar21.1) (State.isArrayOf_alike hZ.alike Ar21.2.1) Ar21.2.2 hin21 hat21 (g := (mkF m 20 #[vR a1, vR a2, vI 1] [(.int 1), (.ref a2), (.int p4)])) rfl rfl (hb hby d22_20) _ (o_icmpY X0 hx hby d22_21 (pc := 21) (pc' := 26) (teq hk22).1 (by decide) (by decide) (o_iinc X0 hx hby d22_26 rfl (z := (2 : Int32)) (k' := 1) rfl (by decide +kernel) (Ls' := #[vR a1, vR a2, vI 2]) rfl (o_goto X0 hx hby d22_29 (pc := 29) (pc' := 9) (by decide) (by decide) (o_iloadN X0 hx hby d22_9 rfl (o_aloadN X0 hx hby d22_10 rfl rfl (X0.arraylength hx (by rw [e0]; exact Ar23.1) (State.isArrayOf_alike hZ.alike Ar23.2.1) (g := (mkF m 11 #[vR a1, vR a2, vI 2] [(.ref a1), (.int 2)])) rfl rfl (hb hby d22_11) _ ?_))))))))))))
    rw [len_of Sz23 Nn23]
    refine o_icmpN X0 hx hby d22_12 (by decide +kernel) (o_aloadN X0 hx hby d22_15 rfl rfl (o_iloadN X0 hx hby d22_16 rfl (X0.baloadBytes hx (j := (2 : Int32)) (v := (.int p5)) (by rw [e0]; exact Ar24.1) (State.isArrayOf_alike hZ.alike Ar24.2.1) Ar24.2.2 hin24 hat24 (g := (mkF m 17 #[vR a1, vR a2, vI 2] [(.int 2), (.ref a1)])) rfl rfl (hb hby d22_17) _ (o_aloadN X0 hx hby d22_18 rfl rfl (o_iloadN X0 hx hby d22_19 rfl (X0.baloadBytes hx (j := (2 : Int32)) (v := (.int p11)) (by rw [e0]; exact Ar25.1) (State.isArrayOf_alike hZ.alike Ar25.2.1) Ar25.2.2 hin25 hat25 (g := (mkF m 20 #[vR a1, vR a2, vI 2] [(.int 2), (.ref a2), (.int p5)])) rfl rfl (hb hby d22_20) _ (o_icmpN X0 hx hby d22_21 (feq hk26).1 (o_iconst X0 hx hby d22_24 (x := 0) rfl ?_))))))))
    exact retN X0 hx (t := .boolean) hret (by simp) (hb hby d22_25) hr
  · exact ⟨rfl, N0, rfl⟩
def Q21_103 (Z : State) (a1 : Addr) (a2 : Addr) (p7 : Int32) (a15 : Addr) (a18 : Addr) (p21 : Int32) (p22 : Int32) (p23 : Int32) (k24 : ClassId) (p26 : Int32) (p27 : Int32) (p28 : Int32) (k29 : ClassId) (h0 : Heap) (n0 : Nat) (v : Option Value) (h : Heap) (L : List Loc) : Prop := (v = some (.int 0) ∧ Fr n0 L ∧ h = h0)
theorem rm21_103 (l : Launch) (Z : State) (a0 : Array Value) (hw : own_HW Z a0) (a1 : Addr) (a2 : Addr) (p7 : Int32) (a15 : Addr) (a18 : Addr) (p21 : Int32) (p22 : Int32) (p23 : Int32) (k24 : ClassId) (p26 : Int32) (p27 : Int32) (p28 : Int32) (k29 : ClassId) (h0 : Heap) (n0 : Nat) (O0 : Old Z n0 h0) (hne3 : a1 ≠ a2) (E_4 : Exa Z h0 a2 C_0) (S_8 : Sta Z Z.heap C_0 "COMPACT_STRINGS" "Z" (.int p7)) (hk10 : ¬ (p7 = (0 : Int32))) (F11 : Fld Z h0 a1 C_0 "coder" "B" (.int 0)) (F13 : Fld Z h0 a2 C_0 "coder" "B" (.int 0)) (F16 : Fld Z h0 a1 C_0 "value" "[B" (.ref a15)) (F19 : Fld Z h0 a2 C_0 "value" "[B" (.ref a18)) (V25 : Arv Z h0 a15 k24 .byte (3 : Int32) [(.int p21), (.int p22), (.int p23)] (.int (0 : Int32))) (V30 : Arv Z h0 a18 k29 .byte (3 : Int32) [(.int p26), (.int p27), (.int p28)] (.int (0 : Int32))) (hk31 : p21 = p26) (hk32 : p22 = p27) (hk33 : ¬ (p23 = p28)) : own_Met l Z M_19 bc21 3 (some .boolean) ({ frames := 1, cells := 0, slots := 0, locals := 14 } : Room) #[(.ref a1), (.ref a2)] h0 (Q21_103 Z a1 a2 p7 a15 a18 p21 p22 p23 k24 p26 p27 p28 k29 h0 n0) := by
  refine own_body (L0 := #[vR a1, vR a2, .unset]) (plainFor_of_name pn_2) (fun m => by first | (simp [entryFrame, mkF, argsToLocals, Value.category]; done) | rfl) fun p e s m below meth c s₁ EN hx hby hml hown hnm hret X0 hZ e0 hh pre0 fin => ?_
  have N0 := Fr.nil n0
  obtain ⟨T5, X5, e5, st5⟩ := instY X0 hx hZ hown (ww105 hw) e0 (Ins.self E_4) (g := (mkF m 8 #[vR a1, vR a2, .unset] [(.ref a2)])) rfl rfl (hb hby d21_8)
  obtain ⟨T6, X6, e6, st6⟩ := castY X5 hx hZ hown (ww105 hw) e5 (Ins.self E_4) (g := (mkF m 15 #[vR a1, vR a2, .unset] [(.ref a2)])) rfl rfl (hb hby d21_15)
  obtain ⟨T9, X9, e9, st9⟩ := getS2 X6 hx hZ hown (host := "") (Or.inl (ww18 hw)) Via.refl e6 (Sta.ext O0.2 S_8) (g := (mkF m 19 #[vR a1, vR a2, vR a2] [])) rfl (hb hby d21_19)
  obtain ⟨T12, X12, e12, st12⟩ := getF X9 hx hZ hown (host := "") (Or.inl (ww30 hw)) Via.refl e9 F11 (g := (mkF m 26 #[vR a1, vR a2, vR a2] [(.ref a1)])) rfl rfl (hb hby d21_26)
  obtain ⟨T14, X14, e14, st14⟩ := getF X12 hx hZ hown (host := "") (Or.inl (ww30 hw)) Via.refl e12 F13 (g := (mkF m 30 #[vR a1, vR a2, vR a2] [(.ref a2), (.int 0)])) rfl rfl (hb hby d21_30)
  obtain ⟨T17, X17, e17, st17⟩ := getF X14 hx hZ hown (host := "") (Or.inl (ww32 hw)) Via.refl e14 F16 (g := (mkF m 37 #[vR a1, vR a2, vR a2] [(.ref a1)])) rfl rfl (hb hby d21_37)
  obtain ⟨T20, X20, e20, st20⟩ := getF X17 hx hZ hown (host := "") (Or.inl (ww32 hw)) Via.refl e17 F19 (g := (mkF m 41 #[vR a1, vR a2, vR a2] [(.ref a2), (.ref a15)])) rfl rfl (hb hby d21_41)
  obtain ⟨_, T34, L34, X34, hQ34, st34⟩ := own_cS X20 hx hZ hown (ww106 hw) (ww107 hw) (ww78 hw) (ww108 hw) (rm22_104 l Z a0 hw a15 a18 p21 p22 p23 k24 p26 p27 p28 k29 h0 n0 O0 V25 V30 hk31 hk32 hk33) e20 pd_18 hml (hb hby d21_44) (Ls := #[vR a1, vR a2, vR a2]) (W := 0) (argsL := [(.ref a15), (.ref a18)]) (rest := [])
  obtain ⟨rfl, u36, u37⟩ := hQ34
  have N34 := Fr.app N0 u36
  refine fin (some (.int 0)) _ _ _ _ X34 nofun (fun fs hr => pre0 _ ?_) (own_atH u37 ?_) (by decide) (by decide)
  · refine o_aloadN X0 hx hby d21_0 rfl rfl (o_aloadN X0 hx hby d21_1 rfl rfl (Jvm.RoadKit.acmp (g := (mkF m 2 #[vR a1, vR a2, .unset] [(.ref a2), (.ref a1)])) X0 hx rfl rfl rfl (pc0 := 2) (pc' := 7) (same := false) rfl (hb hby d21_2) rfl (decide_eq_false fun q => hne3 (Value.ref.inj q)) (by decide) (by decide) (o_aloadN X0 hx hby d21_7 rfl rfl (st5 _ (o_ifN X5 hx hby d21_11 (by decide +kernel) (o_aloadN X5 hx hby d21_14 rfl rfl (st6 _ (o_astoreN X6 hx hby d21_18 rfl (Ls' := #[vR a1, vR a2, vR a2]) rfl (st9 _ (o_ifN X9 hx hby d21_22 ((if0 _ _).trans (feq hk10).1) (o_aloadN X9 hx hby d21_25 rfl rfl (st12 _ (o_aloadN X12 hx hby d21_29 rfl rfl (st14 _ (o_icmpN X14 hx hby d21_33 (by decide +kernel) (o_aloadN X14 hx hby d21_36 rfl rfl (st17 _ (o_aloadN X17 hx hby d21_40 rfl rfl (st20 _ (st34 _ (o_ifY X34 hx hby d21_47 (pc := 47) (pc' := 54) (by decide +kernel) (by decide) (by decide) (o_iconst X34 hx hby d21_54 (x := 0) rfl ?_))))))))))))))))))))))
    exact retN X34 hx (t := .boolean) hret (by simp) (hb hby d21_55) hr
  · exact ⟨rfl, N34, rfl⟩
def Q20_102 (Z : State) (a1 : Addr) (a2 : Addr) (a7 : Addr) (a10 : Addr) (p16 : Int32) (a21 : Addr) (a23 : Addr) (p25 : Int32) (p26 : Int32) (p27 : Int32) (k28 : ClassId) (p30 : Int32) (p31 : Int32) (p32 : Int32) (k33 : ClassId) (h0 : Heap) (n0 : Nat) (v : Option Value) (h : Heap) (L : List Loc) : Prop := (v = some (.int 0) ∧ Fr n0 L ∧ h = h0)
theorem rm20_102 (l : Launch) (Z : State) (a0 : Array Value) (hw : own_HW Z a0) (a1 : Addr) (a2 : Addr) (a7 : Addr) (a10 : Addr) (p16 : Int32) (a21 : Addr) (a23 : Addr) (p25 : Int32) (p26 : Int32) (p27 : Int32) (k28 : ClassId) (p30 : Int32) (p31 : Int32) (p32 : Int32) (k33 : ClassId) (h0 : Heap) (n0 : Nat) (O0 : Old Z n0 h0) (hne3 : a1 ≠ a2) (E_4 : Exa Z h0 a2 C_1) (F8 : Fld Z h0 a1 C_1 "text" C_2 (.ref a7)) (F11 : Fld Z h0 a2 C_1 "text" C_2 (.ref a10)) (E_13 : Exa Z h0 a7 C_0) (hne14 : a7 ≠ a10) (E_15 : Exa Z h0 a10 C_0) (S_17 : Sta Z Z.heap C_0 "COMPACT_STRINGS" "Z" (.int p16)) (hk18 : ¬ (p16 = (0 : Int32))) (F19 : Fld Z h0 a7 C_0 "coder" "B" (.int 0)) (F20 : Fld Z h0 a10 C_0 "coder" "B" (.int 0)) (F22 : Fld Z h0 a7 C_0 "value" "[B" (.ref a21)) (F24 : Fld Z h0 a10 C_0 "value" "[B" (.ref a23)) (V29 : Arv Z h0 a21 k28 .byte (3 : Int32) [(.int p25), (.int p26), (.int p27)] (.int (0 : Int32))) (V34 : Arv Z h0 a23 k33 .byte (3 : Int32) [(.int p30), (.int p31), (.int p32)] (.int (0 : Int32))) (hk35 : p25 = p30) (hk36 : p26 = p31) (hk37 : ¬ (p27 = p32)) : own_Met l Z M_20 bc20 3 (some .boolean) ({ frames := 2, cells := 0, slots := 0, locals := 28 } : Room) #[(.ref a1), (.ref a2)] h0 (Q20_102 Z a1 a2 a7 a10 p16 a21 a23 p25 p26 p27 k28 p30 p31 p32 k33 h0 n0) := by
  refine own_body (L0 := #[vR a1, vR a2, .unset]) (plainFor_of_name pn_7) (fun m => by first | (simp [entryFrame, mkF, argsToLocals, Value.category]; done) | rfl) fun p e s m below meth c s₁ EN hx hby hml hown hnm hret X0 hZ e0 hh pre0 fin => ?_
  have N0 := Fr.nil n0
  obtain ⟨T5, X5, e5, st5⟩ := instY X0 hx hZ hown (ww98 hw) e0 (Ins.self E_4) (g := (mkF m 6 #[vR a1, vR a2, .unset] [(.ref a2)])) rfl rfl (hb hby d20_6)
  obtain ⟨T6, X6, e6, st6⟩ := castY X5 hx hZ hown (ww98 hw) e5 (Ins.self E_4) (g := (mkF m 13 #[vR a1, vR a2, .unset] [(.ref a2)])) rfl rfl (hb hby d20_13)
  obtain ⟨T9, X9, e9, st9⟩ := getF X6 hx hZ hown (host := "") (Or.inl (ww91 hw)) Via.refl e6 F8 (g := (mkF m 18 #[vR a1, vR a2, vR a2] [(.ref a1)])) rfl rfl (hb hby d20_18)
  obtain ⟨T12, X12, e12, st12⟩ := getF X9 hx hZ hown (host := "") (Or.inl (ww91 hw)) Via.refl e9 F11 (g := (mkF m 22 #[vR a1, vR a2, vR a2] [(.ref a2), (.ref a7)])) rfl rfl (hb hby d20_22)
  obtain ⟨_, T38, L38, X38, hQ38, st38⟩ := own_cV X12 hx hZ hown (ww100 hw) (ww101 hw) (notFace_of_selects (args := #[]) (mvT hZ (ww103 hw))) (ww103 hw) (ww102 hw) (ww2 hw) (ww104 hw) E_13 (rm21_103 l Z a0 hw a7 a10 p16 a21 a23 p25 p26 p27 k28 p30 p31 p32 k33 h0 n0 O0 hne14 E_15 S_17 hk18 F19 F20 F22 F24 V29 V34 hk35 hk36 hk37) e12 pd_19 hml (hb hby d20_25) (Ls := #[vR a1, vR a2, vR a2]) (W := 0) (argsL := [(.ref a10)]) (rest := [])
  obtain ⟨rfl, u40, u41⟩ := hQ38
  have N38 := Fr.app N0 u40
  refine fin (some (.int 0)) _ _ _ _ X38 nofun (fun fs hr => pre0 _ ?_) (own_atH u41 ?_) (by decide) (by decide)
  · refine o_aloadN X0 hx hby d20_0 rfl rfl (o_aloadN X0 hx hby d20_1 rfl rfl (Jvm.RoadKit.acmp (g := (mkF m 2 #[vR a1, vR a2, .unset] [(.ref a2), (.ref a1)])) X0 hx rfl rfl rfl (pc0 := 2) (pc' := 5) (same := false) rfl (hb hby d20_2) rfl (decide_eq_false fun q => hne3 (Value.ref.inj q)) (by decide) (by decide) (o_aloadN X0 hx hby d20_5 rfl rfl (st5 _ (o_ifN X5 hx hby d20_9 (by decide +kernel) (o_aloadN X5 hx hby d20_12 rfl rfl (st6 _ (o_astoreN X6 hx hby d20_16 rfl (Ls' := #[vR a1, vR a2, vR a2]) rfl (o_aloadN X6 hx hby d20_17 rfl rfl (st9 _ (o_aloadN X9 hx hby d20_21 rfl rfl (st12 _ (st38 _ (o_ifY X38 hx hby d20_28 (pc := 28) (pc' := 35) (by decide +kernel) (by decide) (by decide) (o_iconst X38 hx hby d20_35 (x := 0) rfl ?_)))))))))))))))
    exact retN X38 hx (t := .boolean) hret (by simp) (hb hby d20_36) hr
  · exact ⟨rfl, N38, rfl⟩
def Q22_107 (Z : State) (a1 : Addr) (a2 : Addr) (p3 : Int32) (p4 : Int32) (p5 : Int32) (k6 : ClassId) (p9 : Int32) (p10 : Int32) (p11 : Int32) (k12 : ClassId) (h0 : Heap) (n0 : Nat) (v : Option Value) (h : Heap) (L : List Loc) : Prop := (v = some (.int 0) ∧ Fr n0 L ∧ h = h0)
theorem rm22_107 (l : Launch) (Z : State) (a0 : Array Value) (hw : own_HW Z a0) (a1 : Addr) (a2 : Addr) (p3 : Int32) (p4 : Int32) (p5 : Int32) (k6 : ClassId) (p9 : Int32) (p10 : Int32) (p11 : Int32) (k12 : ClassId) (h0 : Heap) (n0 : Nat) (O0 : Old Z n0 h0) (V7 : Arv Z h0 a1 k6 .byte (3 : Int32) [(.int p3), (.int p4), (.int p5)] (.int (0 : Int32))) (V13 : Arv Z h0 a2 k12 .byte (3 : Int32) [(.int p9), (.int p10), (.int p11)] (.int (0 : Int32))) (hk18 : p3 = p9) (hk22 : ¬ (p4 = p10)) : own_Met l Z M_18 bc22 3 (some .boolean) ({ frames := 0, cells := 0, slots := 0, locals := 0 } : Room) #[(.ref a1), (.ref a2)] h0 (Q22_107 Z a1 a2 p3 p4 p5 k6 p9 p10 p11 k12 h0 n0) := by
  refine own_body (L0 := #[vR a1, vR a2, .unset]) (plainFor_of_name pn_6) (fun m => by first | (simp [entryFrame, mkF, argsToLocals, Value.category]; done) | rfl) fun p e s m below meth c s₁ EN hx hby hml hown hnm hret X0 hZ e0 hh pre0 fin => ?_
  have N0 := Fr.nil n0
  obtain ⟨cl8, Ar8, -, Sz8, Nn8, -, -⟩ := id V7
  obtain ⟨cl14, Ar14, -, Sz14, Nn14, -, -⟩ := id V13
  obtain ⟨cl15, Ar15, -, Sz15, Nn15, -, -⟩ := id V7
  obtain ⟨cl16, Ar16, -, Sz16, -, Hh16, -⟩ := id V7
  have hin16 : ¬ ((0 : Int32) < 0 ∨ cl16.slots.size ≤ ((0 : Int32)).toNatClampNeg) := inb_of Sz16 ⟨by decide +kernel, by decide +kernel⟩
  have hat16 : cl16.slots[((0 : Int32)).toNatClampNeg]? = some (.int p3) := Has.at Hh16 hin16 rfl
  obtain ⟨cl17, Ar17, -, Sz17, -, Hh17, -⟩ := id V13
  have hin17 : ¬ ((0 : Int32) < 0 ∨ cl17.slots.size ≤ ((0 : Int32)).toNatClampNeg) := inb_of Sz17 ⟨by decide +kernel, by decide +kernel⟩
  have hat17 : cl17.slots[((0 : Int32)).toNatClampNeg]? = some (.int p9) := Has.at Hh17 hin17 rfl
  obtain ⟨cl19, Ar19, -, Sz19, Nn19, -, -⟩ := id V7
  obtain ⟨cl20, Ar20, -, Sz20, -, Hh20, -⟩ := id V7
  have hin20 : ¬ ((1 : Int32) < 0 ∨ cl20.slots.size ≤ ((1 : Int32)).toNatClampNeg) := inb_of Sz20 ⟨by decide +kernel, by decide +kernel⟩
  have hat20 : cl20.slots[((1 : Int32)).toNatClampNeg]? = some (.int p4) := Has.at Hh20 hin20 rfl
  obtain ⟨cl21, Ar21, -, Sz21, -, Hh21, -⟩ := id V13
  have hin21 : ¬ ((1 : Int32) < 0 ∨ cl21.slots.size ≤ ((1 : Int32)).toNatClampNeg) := inb_of Sz21 ⟨by decide +kernel, by decide +kernel⟩
  have hat21 : cl21.slots[((1 : Int32)).toNatClampNeg]? = some (.int p10) := Has.at Hh21 hin21 rfl
  refine fin (some (.int 0)) _ _ _ _ X0 nofun (fun fs hr => pre0 _ ?_) (own_atH e0 ?_) (by decide) (by decide)
  · refine o_aloadN X0 hx hby d22_0 rfl rfl (X0.arraylength hx (by rw [e0]; exact Ar8.1) (State.isArrayOf_alike hZ.alike Ar8.2.1) (g := (mkF m 1 #[vR a1, vR a2, .unset] [(.ref a1)])) rfl rfl (hb hby d22_1) _ ?_)
    rw [len_of Sz8 Nn8]
    refine o_aloadN X0 hx hby d22_2 rfl rfl (X0.arraylength hx (by rw [e0]; exact Ar14.1) (State.isArrayOf_alike hZ.alike Ar14.2.1) (g := (mkF m 3 #[vR a1, vR a2, .unset] [(.ref a2), (.int 3)])) rfl rfl (hb hby d22_3) _ ?_)
    rw [len_of Sz14 Nn14]
    refine o_icmpN X0 hx hby d22_4 (by decide +kernel) (o_iconst X0 hx hby d22_7 (x := 0) rfl (o_istoreN X0 hx hby d22_8 (Ls' := #[vR a1, vR a2, vI 0]) rfl (o_iloadN X0 hx hby d22_9 rfl (o_aloadN X0 hx hby d22_10 rfl rfl (X0.arraylength hx (by rw [e0]; exact Ar15.1) (State.isArrayOf_alike hZ.alike Ar15.2.1) (g := (mkF m 11 #[vR a1, vR a2, vI 0] [(.ref a1), (.int 0)])) rfl rfl (hb hby d22_11) _ ?_)))))
    rw [len_of Sz15 Nn15]
    refine o_icmpN X0 hx hby d22_12 (by decide +kernel) (o_aloadN X0 hx hby d22_15 rfl rfl (o_iloadN X0 hx hby d22_16 rfl (X0.baloadBytes hx (j := (0 : Int32)) (v := (.int p3)) (by rw [e0]; exact Ar16.1) (State.isArrayOf_alike hZ.alike Ar16.2.1) Ar16.2.2 hin16 hat16 (g := (mkF m 17 #[vR a1, vR a2, vI 0] [(.int 0), (.ref a1)])) rfl rfl (hb hby d22_17) _ (o_aloadN X0 hx hby d22_18 rfl rfl (o_iloadN X0 hx hby d22_19 rfl (X0.baloadBytes hx (j := (0 : Int32)) (v := (.int p9)) (by rw [e0]; exact Ar17.1) (State.isArrayOf_alike hZ.alike Ar17.2.1) Ar17.2.2 hin17 hat17 (g := (mkF m 20 #[vR a1, vR a2, vI 0] [(.int 0), (.ref a2), (.int p3)])) rfl rfl (hb hby d22_20) _ (o_icmpY X0 hx hby d22_21 (pc := 21) (pc' := 26) (teq hk18).1 (by decide) (by decide) (o_iinc X0 hx hby d22_26 rfl (z := (1 : Int32)) (k' := 1) rfl (by decide +kernel) (Ls' := #[vR a1, vR a2, vI 1]) rfl (o_goto X0 hx hby d22_29 (pc := 29) (pc' := 9) (by decide) (by decide) (o_iloadN X0 hx hby d22_9 rfl (o_aloadN X0 hx hby d22_10 rfl rfl (X0.arraylength hx (by rw [e0]; exact Ar19.1) (State.isArrayOf_alike hZ.alike Ar19.2.1) (g := (mkF m 11 #[vR a1, vR a2, vI 1] [(.ref a1), (.int 1)])) rfl rfl (hb hby d22_11) _ ?_))))))))))))
    rw [len_of Sz19 Nn19]
    refine o_icmpN X0 hx hby d22_12 (by decide +kernel) (o_aloadN X0 hx hby d22_15 rfl rfl (o_iloadN X0 hx hby d22_16 rfl (X0.baloadBytes hx (j := (1 : Int32)) (v := (.int p4)) (by rw [e0]; exact Ar20.1) (State.isArrayOf_alike hZ.alike Ar20.2.1) Ar20.2.2 hin20 hat20 (g := (mkF m 17 #[vR a1, vR a2, vI 1] [(.int 1), (.ref a1)])) rfl rfl (hb hby d22_17) _ (o_aloadN X0 hx hby d22_18 rfl rfl (o_iloadN X0 hx hby d22_19 rfl (X0.baloadBytes hx (j := (1 : Int32)) (v := (.int p10)) (by rw [e0]; exact Ar21.1) (State.isArrayOf_alike hZ.alike Ar21.2.1) Ar21.2.2 hin21 hat21 (g := (mkF m 20 #[vR a1, vR a2, vI 1] [(.int 1), (.ref a2), (.int p4)])) rfl rfl (hb hby d22_20) _ (o_icmpN X0 hx hby d22_21 (feq hk22).1 (o_iconst X0 hx hby d22_24 (x := 0) rfl ?_))))))))
    exact retN X0 hx (t := .boolean) hret (by simp) (hb hby d22_25) hr
  · exact ⟨rfl, N0, rfl⟩
def Q21_106 (Z : State) (a1 : Addr) (a2 : Addr) (p7 : Int32) (a15 : Addr) (a18 : Addr) (p21 : Int32) (p22 : Int32) (p23 : Int32) (k24 : ClassId) (p26 : Int32) (p27 : Int32) (p28 : Int32) (k29 : ClassId) (h0 : Heap) (n0 : Nat) (v : Option Value) (h : Heap) (L : List Loc) : Prop := (v = some (.int 0) ∧ Fr n0 L ∧ h = h0)
theorem rm21_106 (l : Launch) (Z : State) (a0 : Array Value) (hw : own_HW Z a0) (a1 : Addr) (a2 : Addr) (p7 : Int32) (a15 : Addr) (a18 : Addr) (p21 : Int32) (p22 : Int32) (p23 : Int32) (k24 : ClassId) (p26 : Int32) (p27 : Int32) (p28 : Int32) (k29 : ClassId) (h0 : Heap) (n0 : Nat) (O0 : Old Z n0 h0) (hne3 : a1 ≠ a2) (E_4 : Exa Z h0 a2 C_0) (S_8 : Sta Z Z.heap C_0 "COMPACT_STRINGS" "Z" (.int p7)) (hk10 : ¬ (p7 = (0 : Int32))) (F11 : Fld Z h0 a1 C_0 "coder" "B" (.int 0)) (F13 : Fld Z h0 a2 C_0 "coder" "B" (.int 0)) (F16 : Fld Z h0 a1 C_0 "value" "[B" (.ref a15)) (F19 : Fld Z h0 a2 C_0 "value" "[B" (.ref a18)) (V25 : Arv Z h0 a15 k24 .byte (3 : Int32) [(.int p21), (.int p22), (.int p23)] (.int (0 : Int32))) (V30 : Arv Z h0 a18 k29 .byte (3 : Int32) [(.int p26), (.int p27), (.int p28)] (.int (0 : Int32))) (hk31 : p21 = p26) (hk32 : ¬ (p22 = p27)) : own_Met l Z M_19 bc21 3 (some .boolean) ({ frames := 1, cells := 0, slots := 0, locals := 14 } : Room) #[(.ref a1), (.ref a2)] h0 (Q21_106 Z a1 a2 p7 a15 a18 p21 p22 p23 k24 p26 p27 p28 k29 h0 n0) := by
  refine own_body (L0 := #[vR a1, vR a2, .unset]) (plainFor_of_name pn_2) (fun m => by first | (simp [entryFrame, mkF, argsToLocals, Value.category]; done) | rfl) fun p e s m below meth c s₁ EN hx hby hml hown hnm hret X0 hZ e0 hh pre0 fin => ?_
  have N0 := Fr.nil n0
  obtain ⟨T5, X5, e5, st5⟩ := instY X0 hx hZ hown (ww105 hw) e0 (Ins.self E_4) (g := (mkF m 8 #[vR a1, vR a2, .unset] [(.ref a2)])) rfl rfl (hb hby d21_8)
  obtain ⟨T6, X6, e6, st6⟩ := castY X5 hx hZ hown (ww105 hw) e5 (Ins.self E_4) (g := (mkF m 15 #[vR a1, vR a2, .unset] [(.ref a2)])) rfl rfl (hb hby d21_15)
  obtain ⟨T9, X9, e9, st9⟩ := getS2 X6 hx hZ hown (host := "") (Or.inl (ww18 hw)) Via.refl e6 (Sta.ext O0.2 S_8) (g := (mkF m 19 #[vR a1, vR a2, vR a2] [])) rfl (hb hby d21_19)
  obtain ⟨T12, X12, e12, st12⟩ := getF X9 hx hZ hown (host := "") (Or.inl (ww30 hw)) Via.refl e9 F11 (g := (mkF m 26 #[vR a1, vR a2, vR a2] [(.ref a1)])) rfl rfl (hb hby d21_26)
  obtain ⟨T14, X14, e14, st14⟩ := getF X12 hx hZ hown (host := "") (Or.inl (ww30 hw)) Via.refl e12 F13 (g := (mkF m 30 #[vR a1, vR a2, vR a2] [(.ref a2), (.int 0)])) rfl rfl (hb hby d21_30)
  obtain ⟨T17, X17, e17, st17⟩ := getF X14 hx hZ hown (host := "") (Or.inl (ww32 hw)) Via.refl e14 F16 (g := (mkF m 37 #[vR a1, vR a2, vR a2] [(.ref a1)])) rfl rfl (hb hby d21_37)
  obtain ⟨T20, X20, e20, st20⟩ := getF X17 hx hZ hown (host := "") (Or.inl (ww32 hw)) Via.refl e17 F19 (g := (mkF m 41 #[vR a1, vR a2, vR a2] [(.ref a2), (.ref a15)])) rfl rfl (hb hby d21_41)
  obtain ⟨_, T33, L33, X33, hQ33, st33⟩ := own_cS X20 hx hZ hown (ww106 hw) (ww107 hw) (ww78 hw) (ww108 hw) (rm22_107 l Z a0 hw a15 a18 p21 p22 p23 k24 p26 p27 p28 k29 h0 n0 O0 V25 V30 hk31 hk32) e20 pd_18 hml (hb hby d21_44) (Ls := #[vR a1, vR a2, vR a2]) (W := 0) (argsL := [(.ref a15), (.ref a18)]) (rest := [])
  obtain ⟨rfl, u35, u36⟩ := hQ33
  have N33 := Fr.app N0 u35
  refine fin (some (.int 0)) _ _ _ _ X33 nofun (fun fs hr => pre0 _ ?_) (own_atH u36 ?_) (by decide) (by decide)
  · refine o_aloadN X0 hx hby d21_0 rfl rfl (o_aloadN X0 hx hby d21_1 rfl rfl (Jvm.RoadKit.acmp (g := (mkF m 2 #[vR a1, vR a2, .unset] [(.ref a2), (.ref a1)])) X0 hx rfl rfl rfl (pc0 := 2) (pc' := 7) (same := false) rfl (hb hby d21_2) rfl (decide_eq_false fun q => hne3 (Value.ref.inj q)) (by decide) (by decide) (o_aloadN X0 hx hby d21_7 rfl rfl (st5 _ (o_ifN X5 hx hby d21_11 (by decide +kernel) (o_aloadN X5 hx hby d21_14 rfl rfl (st6 _ (o_astoreN X6 hx hby d21_18 rfl (Ls' := #[vR a1, vR a2, vR a2]) rfl (st9 _ (o_ifN X9 hx hby d21_22 ((if0 _ _).trans (feq hk10).1) (o_aloadN X9 hx hby d21_25 rfl rfl (st12 _ (o_aloadN X12 hx hby d21_29 rfl rfl (st14 _ (o_icmpN X14 hx hby d21_33 (by decide +kernel) (o_aloadN X14 hx hby d21_36 rfl rfl (st17 _ (o_aloadN X17 hx hby d21_40 rfl rfl (st20 _ (st33 _ (o_ifY X33 hx hby d21_47 (pc := 47) (pc' := 54) (by decide +kernel) (by decide) (by decide) (o_iconst X33 hx hby d21_54 (x := 0) rfl ?_))))))))))))))))))))))
    exact retN X33 hx (t := .boolean) hret (by simp) (hb hby d21_55) hr
  · exact ⟨rfl, N33, rfl⟩
def Q20_105 (Z : State) (a1 : Addr) (a2 : Addr) (a7 : Addr) (a10 : Addr) (p16 : Int32) (a21 : Addr) (a23 : Addr) (p25 : Int32) (p26 : Int32) (p27 : Int32) (k28 : ClassId) (p30 : Int32) (p31 : Int32) (p32 : Int32) (k33 : ClassId) (h0 : Heap) (n0 : Nat) (v : Option Value) (h : Heap) (L : List Loc) : Prop := (v = some (.int 0) ∧ Fr n0 L ∧ h = h0)
theorem rm20_105 (l : Launch) (Z : State) (a0 : Array Value) (hw : own_HW Z a0) (a1 : Addr) (a2 : Addr) (a7 : Addr) (a10 : Addr) (p16 : Int32) (a21 : Addr) (a23 : Addr) (p25 : Int32) (p26 : Int32) (p27 : Int32) (k28 : ClassId) (p30 : Int32) (p31 : Int32) (p32 : Int32) (k33 : ClassId) (h0 : Heap) (n0 : Nat) (O0 : Old Z n0 h0) (hne3 : a1 ≠ a2) (E_4 : Exa Z h0 a2 C_1) (F8 : Fld Z h0 a1 C_1 "text" C_2 (.ref a7)) (F11 : Fld Z h0 a2 C_1 "text" C_2 (.ref a10)) (E_13 : Exa Z h0 a7 C_0) (hne14 : a7 ≠ a10) (E_15 : Exa Z h0 a10 C_0) (S_17 : Sta Z Z.heap C_0 "COMPACT_STRINGS" "Z" (.int p16)) (hk18 : ¬ (p16 = (0 : Int32))) (F19 : Fld Z h0 a7 C_0 "coder" "B" (.int 0)) (F20 : Fld Z h0 a10 C_0 "coder" "B" (.int 0)) (F22 : Fld Z h0 a7 C_0 "value" "[B" (.ref a21)) (F24 : Fld Z h0 a10 C_0 "value" "[B" (.ref a23)) (V29 : Arv Z h0 a21 k28 .byte (3 : Int32) [(.int p25), (.int p26), (.int p27)] (.int (0 : Int32))) (V34 : Arv Z h0 a23 k33 .byte (3 : Int32) [(.int p30), (.int p31), (.int p32)] (.int (0 : Int32))) (hk35 : p25 = p30) (hk36 : ¬ (p26 = p31)) : own_Met l Z M_20 bc20 3 (some .boolean) ({ frames := 2, cells := 0, slots := 0, locals := 28 } : Room) #[(.ref a1), (.ref a2)] h0 (Q20_105 Z a1 a2 a7 a10 p16 a21 a23 p25 p26 p27 k28 p30 p31 p32 k33 h0 n0) := by
  refine own_body (L0 := #[vR a1, vR a2, .unset]) (plainFor_of_name pn_7) (fun m => by first | (simp [entryFrame, mkF, argsToLocals, Value.category]; done) | rfl) fun p e s m below meth c s₁ EN hx hby hml hown hnm hret X0 hZ e0 hh pre0 fin => ?_
  have N0 := Fr.nil n0
  obtain ⟨T5, X5, e5, st5⟩ := instY X0 hx hZ hown (ww98 hw) e0 (Ins.self E_4) (g := (mkF m 6 #[vR a1, vR a2, .unset] [(.ref a2)])) rfl rfl (hb hby d20_6)
  obtain ⟨T6, X6, e6, st6⟩ := castY X5 hx hZ hown (ww98 hw) e5 (Ins.self E_4) (g := (mkF m 13 #[vR a1, vR a2, .unset] [(.ref a2)])) rfl rfl (hb hby d20_13)
  obtain ⟨T9, X9, e9, st9⟩ := getF X6 hx hZ hown (host := "") (Or.inl (ww91 hw)) Via.refl e6 F8 (g := (mkF m 18 #[vR a1, vR a2, vR a2] [(.ref a1)])) rfl rfl (hb hby d20_18)
  obtain ⟨T12, X12, e12, st12⟩ := getF X9 hx hZ hown (host := "") (Or.inl (ww91 hw)) Via.refl e9 F11 (g := (mkF m 22 #[vR a1, vR a2, vR a2] [(.ref a2), (.ref a7)])) rfl rfl (hb hby d20_22)
  obtain ⟨_, T37, L37, X37, hQ37, st37⟩ := own_cV X12 hx hZ hown (ww100 hw) (ww101 hw) (notFace_of_selects (args := #[]) (mvT hZ (ww103 hw))) (ww103 hw) (ww102 hw) (ww2 hw) (ww104 hw) E_13 (rm21_106 l Z a0 hw a7 a10 p16 a21 a23 p25 p26 p27 k28 p30 p31 p32 k33 h0 n0 O0 hne14 E_15 S_17 hk18 F19 F20 F22 F24 V29 V34 hk35 hk36) e12 pd_19 hml (hb hby d20_25) (Ls := #[vR a1, vR a2, vR a2]) (W := 0) (argsL := [(.ref a10)]) (rest := [])
  obtain ⟨rfl, u39, u40⟩ := hQ37
  have N37 := Fr.app N0 u39
  refine fin (some (.int 0)) _ _ _ _ X37 nofun (fun fs hr => pre0 _ ?_) (own_atH u40 ?_) (by decide) (by decide)
  · refine o_aloadN X0 hx hby d20_0 rfl rfl (o_aloadN X0 hx hby d20_1 rfl rfl (Jvm.RoadKit.acmp (g := (mkF m 2 #[vR a1, vR a2, .unset] [(.ref a2), (.ref a1)])) X0 hx rfl rfl rfl (pc0 := 2) (pc' := 5) (same := false) rfl (hb hby d20_2) rfl (decide_eq_false fun q => hne3 (Value.ref.inj q)) (by decide) (by decide) (o_aloadN X0 hx hby d20_5 rfl rfl (st5 _ (o_ifN X5 hx hby d20_9 (by decide +kernel) (o_aloadN X5 hx hby d20_12 rfl rfl (st6 _ (o_astoreN X6 hx hby d20_16 rfl (Ls' := #[vR a1, vR a2, vR a2]) rfl (o_aloadN X6 hx hby d20_17 rfl rfl (st9 _ (o_aloadN X9 hx hby d20_21 rfl rfl (st12 _ (st37 _ (o_ifY X37 hx hby d20_28 (pc := 28) (pc' := 35) (by decide +kernel) (by decide) (by decide) (o_iconst X37 hx hby d20_35 (x := 0) rfl ?_)))))))))))))))
    exact retN X37 hx (t := .boolean) hret (by simp) (hb hby d20_36) hr
  · exact ⟨rfl, N37, rfl⟩
def Q22_110 (Z : State) (a1 : Addr) (a2 : Addr) (p3 : Int32) (p4 : Int32) (p5 : Int32) (k6 : ClassId) (p9 : Int32) (p10 : Int32) (p11 : Int32) (k12 : ClassId) (h0 : Heap) (n0 : Nat) (v : Option Value) (h : Heap) (L : List Loc) : Prop := (v = some (.int 0) ∧ Fr n0 L ∧ h = h0)
theorem rm22_110 (l : Launch) (Z : State) (a0 : Array Value) (hw : own_HW Z a0) (a1 : Addr) (a2 : Addr) (p3 : Int32) (p4 : Int32) (p5 : Int32) (k6 : ClassId) (p9 : Int32) (p10 : Int32) (p11 : Int32) (k12 : ClassId) (h0 : Heap) (n0 : Nat) (O0 : Old Z n0 h0) (V7 : Arv Z h0 a1 k6 .byte (3 : Int32) [(.int p3), (.int p4), (.int p5)] (.int (0 : Int32))) (V13 : Arv Z h0 a2 k12 .byte (3 : Int32) [(.int p9), (.int p10), (.int p11)] (.int (0 : Int32))) (hk18 : ¬ (p3 = p9)) : own_Met l Z M_18 bc22 3 (some .boolean) ({ frames := 0, cells := 0, slots := 0, locals := 0 } : Room) #[(.ref a1), (.ref a2)] h0 (Q22_110 Z a1 a2 p3 p4 p5 k6 p9 p10 p11 k12 h0 n0) := by
  refine own_body (L0 := #[vR a1, vR a2, .unset]) (plainFor_of_name pn_6) (fun m => by first | (simp [entryFrame, mkF, argsToLocals, Value.category]; done) | rfl) fun p e s m below meth c s₁ EN hx hby hml hown hnm hret X0 hZ e0 hh pre0 fin => ?_
  have N0 := Fr.nil n0
  obtain ⟨cl8, Ar8, -, Sz8, Nn8, -, -⟩ := id V7
  obtain ⟨cl14, Ar14, -, Sz14, Nn14, -, -⟩ := id V13
  obtain ⟨cl15, Ar15, -, Sz15, Nn15, -, -⟩ := id V7
  obtain ⟨cl16, Ar16, -, Sz16, -, Hh16, -⟩ := id V7
  have hin16 : ¬ ((0 : Int32) < 0 ∨ cl16.slots.size ≤ ((0 : Int32)).toNatClampNeg) := inb_of Sz16 ⟨by decide +kernel, by decide +kernel⟩
  have hat16 : cl16.slots[((0 : Int32)).toNatClampNeg]? = some (.int p3) := Has.at Hh16 hin16 rfl
  obtain ⟨cl17, Ar17, -, Sz17, -, Hh17, -⟩ := id V13
  have hin17 : ¬ ((0 : Int32) < 0 ∨ cl17.slots.size ≤ ((0 : Int32)).toNatClampNeg) := inb_of Sz17 ⟨by decide +kernel, by decide +kernel⟩
  have hat17 : cl17.slots[((0 : Int32)).toNatClampNeg]? = some (.int p9) := Has.at Hh17 hin17 rfl
  refine fin (some (.int 0)) _ _ _ _ X0 nofun (fun fs hr => pre0 _ ?_) (own_atH e0 ?_) (by decide) (by decide)
  · refine o_aloadN X0 hx hby d22_0 rfl rfl (X0.arraylength hx (by rw [e0]; exact Ar8.1) (State.isArrayOf_alike hZ.alike Ar8.2.1) (g := (mkF m 1 #[vR a1, vR a2, .unset] [(.ref a1)])) rfl rfl (hb hby d22_1) _ ?_)
    rw [len_of Sz8 Nn8]
    refine o_aloadN X0 hx hby d22_2 rfl rfl (X0.arraylength hx (by rw [e0]; exact Ar14.1) (State.isArrayOf_alike hZ.alike Ar14.2.1) (g := (mkF m 3 #[vR a1, vR a2, .unset] [(.ref a2), (.int 3)])) rfl rfl (hb hby d22_3) _ ?_)
    rw [len_of Sz14 Nn14]
    refine o_icmpN X0 hx hby d22_4 (by decide +kernel) (o_iconst X0 hx hby d22_7 (x := 0) rfl (o_istoreN X0 hx hby d22_8 (Ls' := #[vR a1, vR a2, vI 0]) rfl (o_iloadN X0 hx hby d22_9 rfl (o_aloadN X0 hx hby d22_10 rfl rfl (X0.arraylength hx (by rw [e0]; exact Ar15.1) (State.isArrayOf_alike hZ.alike Ar15.2.1) (g := (mkF m 11 #[vR a1, vR a2, vI 0] [(.ref a1), (.int 0)])) rfl rfl (hb hby d22_11) _ ?_)))))
    rw [len_of Sz15 Nn15]
    refine o_icmpN X0 hx hby d22_12 (by decide +kernel) (o_aloadN X0 hx hby d22_15 rfl rfl (o_iloadN X0 hx hby d22_16 rfl (X0.baloadBytes hx (j := (0 : Int32)) (v := (.int p3)) (by rw [e0]; exact Ar16.1) (State.isArrayOf_alike hZ.alike Ar16.2.1) Ar16.2.2 hin16 hat16 (g := (mkF m 17 #[vR a1, vR a2, vI 0] [(.int 0), (.ref a1)])) rfl rfl (hb hby d22_17) _ (o_aloadN X0 hx hby d22_18 rfl rfl (o_iloadN X0 hx hby d22_19 rfl (X0.baloadBytes hx (j := (0 : Int32)) (v := (.int p9)) (by rw [e0]; exact Ar17.1) (State.isArrayOf_alike hZ.alike Ar17.2.1) Ar17.2.2 hin17 hat17 (g := (mkF m 20 #[vR a1, vR a2, vI 0] [(.int 0), (.ref a2), (.int p3)])) rfl rfl (hb hby d22_20) _ (o_icmpN X0 hx hby d22_21 (feq hk18).1 (o_iconst X0 hx hby d22_24 (x := 0) rfl ?_))))))))
    exact retN X0 hx (t := .boolean) hret (by simp) (hb hby d22_25) hr
  · exact ⟨rfl, N0, rfl⟩
def Q21_109 (Z : State) (a1 : Addr) (a2 : Addr) (p7 : Int32) (a15 : Addr) (a18 : Addr) (p21 : Int32) (p22 : Int32) (p23 : Int32) (k24 : ClassId) (p26 : Int32) (p27 : Int32) (p28 : Int32) (k29 : ClassId) (h0 : Heap) (n0 : Nat) (v : Option Value) (h : Heap) (L : List Loc) : Prop := (v = some (.int 0) ∧ Fr n0 L ∧ h = h0)
theorem rm21_109 (l : Launch) (Z : State) (a0 : Array Value) (hw : own_HW Z a0) (a1 : Addr) (a2 : Addr) (p7 : Int32) (a15 : Addr) (a18 : Addr) (p21 : Int32) (p22 : Int32) (p23 : Int32) (k24 : ClassId) (p26 : Int32) (p27 : Int32) (p28 : Int32) (k29 : ClassId) (h0 : Heap) (n0 : Nat) (O0 : Old Z n0 h0) (hne3 : a1 ≠ a2) (E_4 : Exa Z h0 a2 C_0) (S_8 : Sta Z Z.heap C_0 "COMPACT_STRINGS" "Z" (.int p7)) (hk10 : ¬ (p7 = (0 : Int32))) (F11 : Fld Z h0 a1 C_0 "coder" "B" (.int 0)) (F13 : Fld Z h0 a2 C_0 "coder" "B" (.int 0)) (F16 : Fld Z h0 a1 C_0 "value" "[B" (.ref a15)) (F19 : Fld Z h0 a2 C_0 "value" "[B" (.ref a18)) (V25 : Arv Z h0 a15 k24 .byte (3 : Int32) [(.int p21), (.int p22), (.int p23)] (.int (0 : Int32))) (V30 : Arv Z h0 a18 k29 .byte (3 : Int32) [(.int p26), (.int p27), (.int p28)] (.int (0 : Int32))) (hk31 : ¬ (p21 = p26)) : own_Met l Z M_19 bc21 3 (some .boolean) ({ frames := 1, cells := 0, slots := 0, locals := 14 } : Room) #[(.ref a1), (.ref a2)] h0 (Q21_109 Z a1 a2 p7 a15 a18 p21 p22 p23 k24 p26 p27 p28 k29 h0 n0) := by
  refine own_body (L0 := #[vR a1, vR a2, .unset]) (plainFor_of_name pn_2) (fun m => by first | (simp [entryFrame, mkF, argsToLocals, Value.category]; done) | rfl) fun p e s m below meth c s₁ EN hx hby hml hown hnm hret X0 hZ e0 hh pre0 fin => ?_
  have N0 := Fr.nil n0
  obtain ⟨T5, X5, e5, st5⟩ := instY X0 hx hZ hown (ww105 hw) e0 (Ins.self E_4) (g := (mkF m 8 #[vR a1, vR a2, .unset] [(.ref a2)])) rfl rfl (hb hby d21_8)
  obtain ⟨T6, X6, e6, st6⟩ := castY X5 hx hZ hown (ww105 hw) e5 (Ins.self E_4) (g := (mkF m 15 #[vR a1, vR a2, .unset] [(.ref a2)])) rfl rfl (hb hby d21_15)
  obtain ⟨T9, X9, e9, st9⟩ := getS2 X6 hx hZ hown (host := "") (Or.inl (ww18 hw)) Via.refl e6 (Sta.ext O0.2 S_8) (g := (mkF m 19 #[vR a1, vR a2, vR a2] [])) rfl (hb hby d21_19)
  obtain ⟨T12, X12, e12, st12⟩ := getF X9 hx hZ hown (host := "") (Or.inl (ww30 hw)) Via.refl e9 F11 (g := (mkF m 26 #[vR a1, vR a2, vR a2] [(.ref a1)])) rfl rfl (hb hby d21_26)
  obtain ⟨T14, X14, e14, st14⟩ := getF X12 hx hZ hown (host := "") (Or.inl (ww30 hw)) Via.refl e12 F13 (g := (mkF m 30 #[vR a1, vR a2, vR a2] [(.ref a2), (.int 0)])) rfl rfl (hb hby d21_30)
  obtain ⟨T17, X17, e17, st17⟩ := getF X14 hx hZ hown (host := "") (Or.inl (ww32 hw)) Via.refl e14 F16 (g := (mkF m 37 #[vR a1, vR a2, vR a2] [(.ref a1)])) rfl rfl (hb hby d21_37)
  obtain ⟨T20, X20, e20, st20⟩ := getF X17 hx hZ hown (host := "") (Or.inl (ww32 hw)) Via.refl e17 F19 (g := (mkF m 41 #[vR a1, vR a2, vR a2] [(.ref a2), (.ref a15)])) rfl rfl (hb hby d21_41)
  obtain ⟨_, T32, L32, X32, hQ32, st32⟩ := own_cS X20 hx hZ hown (ww106 hw) (ww107 hw) (ww78 hw) (ww108 hw) (rm22_110 l Z a0 hw a15 a18 p21 p22 p23 k24 p26 p27 p28 k29 h0 n0 O0 V25 V30 hk31) e20 pd_18 hml (hb hby d21_44) (Ls := #[vR a1, vR a2, vR a2]) (W := 0) (argsL := [(.ref a15), (.ref a18)]) (rest := [])
  obtain ⟨rfl, u34, u35⟩ := hQ32
  have N32 := Fr.app N0 u34
  refine fin (some (.int 0)) _ _ _ _ X32 nofun (fun fs hr => pre0 _ ?_) (own_atH u35 ?_) (by decide) (by decide)
  · refine o_aloadN X0 hx hby d21_0 rfl rfl (o_aloadN X0 hx hby d21_1 rfl rfl (Jvm.RoadKit.acmp (g := (mkF m 2 #[vR a1, vR a2, .unset] [(.ref a2), (.ref a1)])) X0 hx rfl rfl rfl (pc0 := 2) (pc' := 7) (same := false) rfl (hb hby d21_2) rfl (decide_eq_false fun q => hne3 (Value.ref.inj q)) (by decide) (by decide) (o_aloadN X0 hx hby d21_7 rfl rfl (st5 _ (o_ifN X5 hx hby d21_11 (by decide +kernel) (o_aloadN X5 hx hby d21_14 rfl rfl (st6 _ (o_astoreN X6 hx hby d21_18 rfl (Ls' := #[vR a1, vR a2, vR a2]) rfl (st9 _ (o_ifN X9 hx hby d21_22 ((if0 _ _).trans (feq hk10).1) (o_aloadN X9 hx hby d21_25 rfl rfl (st12 _ (o_aloadN X12 hx hby d21_29 rfl rfl (st14 _ (o_icmpN X14 hx hby d21_33 (by decide +kernel) (o_aloadN X14 hx hby d21_36 rfl rfl (st17 _ (o_aloadN X17 hx hby d21_40 rfl rfl (st20 _ (st32 _ (o_ifY X32 hx hby d21_47 (pc := 47) (pc' := 54) (by decide +kernel) (by decide) (by decide) (o_iconst X32 hx hby d21_54 (x := 0) rfl ?_))))))))))))))))))))))
    exact retN X32 hx (t := .boolean) hret (by simp) (hb hby d21_55) hr
  · exact ⟨rfl, N32, rfl⟩
def Q20_108 (Z : State) (a1 : Addr) (a2 : Addr) (a7 : Addr) (a10 : Addr) (p16 : Int32) (a21 : Addr) (a23 : Addr) (p25 : Int32) (p26 : Int32) (p27 : Int32) (k28 : ClassId) (p30 : Int32) (p31 : Int32) (p32 : Int32) (k33 : ClassId) (h0 : Heap) (n0 : Nat) (v : Option Value) (h : Heap) (L : List Loc) : Prop := (v = some (.int 0) ∧ Fr n0 L ∧ h = h0)
theorem rm20_108 (l : Launch) (Z : State) (a0 : Array Value) (hw : own_HW Z a0) (a1 : Addr) (a2 : Addr) (a7 : Addr) (a10 : Addr) (p16 : Int32) (a21 : Addr) (a23 : Addr) (p25 : Int32) (p26 : Int32) (p27 : Int32) (k28 : ClassId) (p30 : Int32) (p31 : Int32) (p32 : Int32) (k33 : ClassId) (h0 : Heap) (n0 : Nat) (O0 : Old Z n0 h0) (hne3 : a1 ≠ a2) (E_4 : Exa Z h0 a2 C_1) (F8 : Fld Z h0 a1 C_1 "text" C_2 (.ref a7)) (F11 : Fld Z h0 a2 C_1 "text" C_2 (.ref a10)) (E_13 : Exa Z h0 a7 C_0) (hne14 : a7 ≠ a10) (E_15 : Exa Z h0 a10 C_0) (S_17 : Sta Z Z.heap C_0 "COMPACT_STRINGS" "Z" (.int p16)) (hk18 : ¬ (p16 = (0 : Int32))) (F19 : Fld Z h0 a7 C_0 "coder" "B" (.int 0)) (F20 : Fld Z h0 a10 C_0 "coder" "B" (.int 0)) (F22 : Fld Z h0 a7 C_0 "value" "[B" (.ref a21)) (F24 : Fld Z h0 a10 C_0 "value" "[B" (.ref a23)) (V29 : Arv Z h0 a21 k28 .byte (3 : Int32) [(.int p25), (.int p26), (.int p27)] (.int (0 : Int32))) (V34 : Arv Z h0 a23 k33 .byte (3 : Int32) [(.int p30), (.int p31), (.int p32)] (.int (0 : Int32))) (hk35 : ¬ (p25 = p30)) : own_Met l Z M_20 bc20 3 (some .boolean) ({ frames := 2, cells := 0, slots := 0, locals := 28 } : Room) #[(.ref a1), (.ref a2)] h0 (Q20_108 Z a1 a2 a7 a10 p16 a21 a23 p25 p26 p27 k28 p30 p31 p32 k33 h0 n0) := by
  refine own_body (L0 := #[vR a1, vR a2, .unset]) (plainFor_of_name pn_7) (fun m => by first | (simp [entryFrame, mkF, argsToLocals, Value.category]; done) | rfl) fun p e s m below meth c s₁ EN hx hby hml hown hnm hret X0 hZ e0 hh pre0 fin => ?_
  have N0 := Fr.nil n0
  obtain ⟨T5, X5, e5, st5⟩ := instY X0 hx hZ hown (ww98 hw) e0 (Ins.self E_4) (g := (mkF m 6 #[vR a1, vR a2, .unset] [(.ref a2)])) rfl rfl (hb hby d20_6)
  obtain ⟨T6, X6, e6, st6⟩ := castY X5 hx hZ hown (ww98 hw) e5 (Ins.self E_4) (g := (mkF m 13 #[vR a1, vR a2, .unset] [(.ref a2)])) rfl rfl (hb hby d20_13)
  obtain ⟨T9, X9, e9, st9⟩ := getF X6 hx hZ hown (host := "") (Or.inl (ww91 hw)) Via.refl e6 F8 (g := (mkF m 18 #[vR a1, vR a2, vR a2] [(.ref a1)])) rfl rfl (hb hby d20_18)
  obtain ⟨T12, X12, e12, st12⟩ := getF X9 hx hZ hown (host := "") (Or.inl (ww91 hw)) Via.refl e9 F11 (g := (mkF m 22 #[vR a1, vR a2, vR a2] [(.ref a2), (.ref a7)])) rfl rfl (hb hby d20_22)
  obtain ⟨_, T36, L36, X36, hQ36, st36⟩ := own_cV X12 hx hZ hown (ww100 hw) (ww101 hw) (notFace_of_selects (args := #[]) (mvT hZ (ww103 hw))) (ww103 hw) (ww102 hw) (ww2 hw) (ww104 hw) E_13 (rm21_109 l Z a0 hw a7 a10 p16 a21 a23 p25 p26 p27 k28 p30 p31 p32 k33 h0 n0 O0 hne14 E_15 S_17 hk18 F19 F20 F22 F24 V29 V34 hk35) e12 pd_19 hml (hb hby d20_25) (Ls := #[vR a1, vR a2, vR a2]) (W := 0) (argsL := [(.ref a10)]) (rest := [])
  obtain ⟨rfl, u38, u39⟩ := hQ36
  have N36 := Fr.app N0 u38
  refine fin (some (.int 0)) _ _ _ _ X36 nofun (fun fs hr => pre0 _ ?_) (own_atH u39 ?_) (by decide) (by decide)
  · refine o_aloadN X0 hx hby d20_0 rfl rfl (o_aloadN X0 hx hby d20_1 rfl rfl (Jvm.RoadKit.acmp (g := (mkF m 2 #[vR a1, vR a2, .unset] [(.ref a2), (.ref a1)])) X0 hx rfl rfl rfl (pc0 := 2) (pc' := 5) (same := false) rfl (hb hby d20_2) rfl (decide_eq_false fun q => hne3 (Value.ref.inj q)) (by decide) (by decide) (o_aloadN X0 hx hby d20_5 rfl rfl (st5 _ (o_ifN X5 hx hby d20_9 (by decide +kernel) (o_aloadN X5 hx hby d20_12 rfl rfl (st6 _ (o_astoreN X6 hx hby d20_16 rfl (Ls' := #[vR a1, vR a2, vR a2]) rfl (o_aloadN X6 hx hby d20_17 rfl rfl (st9 _ (o_aloadN X9 hx hby d20_21 rfl rfl (st12 _ (st36 _ (o_ifY X36 hx hby d20_28 (pc := 28) (pc' := 35) (by decide +kernel) (by decide) (by decide) (o_iconst X36 hx hby d20_35 (x := 0) rfl ?_)))))))))))))))
    exact retN X36 hx (t := .boolean) hret (by simp) (hb hby d20_36) hr
  · exact ⟨rfl, N36, rfl⟩
def Q0 (Z : State) (p1 : Int32) (p2 : Int32) (p3 : Int32) (p62 : Int32) (va116 : Value) (h0 : Heap) (n0 : Nat) (v : Option Value) (h : Heap) (L : List Loc) : Prop := v = some (.int 1) ∧ Fr n0 L
theorem rm0 (l : Launch) (Z : State) (a0 : Array Value) (hw : own_HW Z a0) (ws : List Jvm.Cond) (p1 : Int32) (p2 : Int32) (p3 : Int32) (p62 : Int32) (va116 : Value) (h0 : Heap) (n0 : Nat) (O0 : Old Z n0 h0) (S_63 : Sta Z Z.heap C_0 "COMPACT_STRINGS" "Z" (.int p62)) (hk64 : ¬ (p62 = (0 : Int32))) (S_117 : Sta Z Z.heap C_3 "SIOOBE_FORMATTER" C_4 va116) (ir_va116 : va116.isRef = true) : MetFree l x (head1 (Jvm.Cond.code x code maxLocals ret :: ws) room_1) (fun a U => a = #[(.int p1), (.int p2), (.int p3)] ∧ Z.Warmed39 U.vm ∧ U.heap = h0) (fun _ _ _ _ _ => True) (fun _ U o U' => ∃ v L, o = .returned v ∧ Q0 Z p1 p2 p3 p62 va116 h0 n0 v U'.heap L ∧ ReturnedEndW U o U' L room_1.cells room_1.slots) := by
  refine own_bodyW (L0 := #[vI p1, vI p2, vI p3, .unset, .unset, .unset, .unset, .unset, .unset, .unset, .unset, .unset, .unset, .unset, .unset, .unset]) (plainFor_of_name pn_0) (fun m => by first | (simp [entryFrame, mkF, argsToLocals, Value.category, maxLocals]; done) | rfl) fun p e s m below meth c s₁ EN hx hby hml hown hnm hret X0 hZ e0 hh pre0 fin => ?_
  have N0 := Fr.nil n0
  have hml : c.maxLocals = 16 := hml
  have Y0 : h0.size ≤ h0.size := Nat.le_refl _
  have hS0 : s.Since s.vm h0.size := (State.WarmedH.refl s).since _
  obtain ⟨i4, hi4⟩ : ∃ z, z = (p3 &&& (3 : Int32)) := ⟨_, rfl⟩
  have pre6 : ∀ t, Steps p.tables e below (s₁.setTop (mkF m 5 #[vI p1, vI p2, vI p3, .unset, .unset, .unset, .unset, .unset, .unset, .unset, .unset, .unset, .unset, .unset, .unset, .unset] [(.int 3), (.int i4), (.int 1)])) t → Steps p.tables e below EN t := by
    intro t kt
    refine pre0 t ?_
    refine o_iconst X0 hx hby at_0 (x := 1) rfl (o_iloadN X0 hx hby at_1 rfl (o_iconst X0 hx hby at_2 (x := 3) rfl (o_iand X0 hx hby at_3 (z := i4) hi4.symm (o_iconst X0 hx hby at_4 (x := 3) rfl ?_))))
    exact kt
  rcases (own_m3 hi4) with hq5 | hq5 | hq5
  · skip
    obtain ⟨i7, hi7⟩ : ∃ z, z = ((p3.toUInt32 >>> ((2 : Int32) &&& 31).toUInt32).toInt32) := ⟨_, rfl⟩
    obtain ⟨i8, hi8⟩ : ∃ z, z = (i7 &&& (3 : Int32)) := ⟨_, rfl⟩
    have pre10 : ∀ t, Steps p.tables e below (s₁.setTop (mkF m 15 #[vI p1, vI p2, vI p3, vI 1, .unset, .unset, .unset, .unset, .unset, .unset, .unset, .unset, .unset, .unset, .unset, .unset] [(.int 3), (.int i8), (.int 1)])) t → Steps p.tables e below EN t := by
      intro t kt
      refine pre6 t ?_
      refine o_irem X0 hx hby at_5 (by decide +kernel : ¬ ((3 : Int32) = (0 : Int32))) (z := (0 : Int32)) hq5 (o_iadd X0 hx hby at_6 (z := (1 : Int32)) (by decide +kernel) (o_istoreN X0 hx hby at_7 (Ls' := #[vI p1, vI p2, vI p3, vI 1, .unset, .unset, .unset, .unset, .unset, .unset, .unset, .unset, .unset, .unset, .unset, .unset]) rfl (o_iconst X0 hx hby at_8 (x := 1) rfl (o_iloadN X0 hx hby at_9 rfl (o_iconst X0 hx hby at_10 (x := 2) rfl (o_iushr X0 hx hby at_11 (z := i7) hi7.symm (o_iconst X0 hx hby at_12 (x := 3) rfl (o_iand X0 hx hby at_13 (z := i8) hi8.symm (o_iconst X0 hx hby at_14 (x := 3) rfl ?_)))))))))
      exact kt
    rcases (own_m3 hi8) with hq9 | hq9 | hq9
    · skip
      obtain ⟨i11, hi11⟩ : ∃ z, z = (p1 &&& (255 : Int32)) := ⟨_, rfl⟩
      obtain ⟨i12, hi12⟩ : ∃ z, z = ((p1.toUInt32 >>> ((8 : Int32) &&& 31).toUInt32).toInt32) := ⟨_, rfl⟩
      obtain ⟨i13, hi13⟩ : ∃ z, z = (i12 &&& (255 : Int32)) := ⟨_, rfl⟩
      obtain ⟨i14, hi14⟩ : ∃ z, z = ((p1.toUInt32 >>> ((16 : Int32) &&& 31).toUInt32).toInt32) := ⟨_, rfl⟩
      obtain ⟨i15, hi15⟩ : ∃ z, z = (i14 &&& (255 : Int32)) := ⟨_, rfl⟩
      obtain ⟨i16, hi16⟩ : ∃ z, z = ((p3.toUInt32 >>> ((4 : Int32) &&& 31).toUInt32).toInt32) := ⟨_, rfl⟩
      obtain ⟨i17, hi17⟩ : ∃ z, z = (i16 &&& (1 : Int32)) := ⟨_, rfl⟩
      have pre18 : ∀ t, Steps p.tables e below (s₁.setTop (mkF m 54 #[vI p1, vI p2, vI p3, vI 1, vI 1, vI i11, vI i13, vI i15, .unset, .unset, .unset, .unset, .unset, .unset, .unset, .unset] [(.int i17)])) t → Steps p.tables e below EN t := by
        intro t kt
        refine pre10 t ?_
        refine o_irem X0 hx hby at_15 (by decide +kernel : ¬ ((3 : Int32) = (0 : Int32))) (z := (0 : Int32)) hq9 (o_iadd X0 hx hby at_16 (z := (1 : Int32)) (by decide +kernel) (o_istore X0 hx hby at_17 (Ls' := #[vI p1, vI p2, vI p3, vI 1, vI 1, .unset, .unset, .unset, .unset, .unset, .unset, .unset, .unset, .unset, .unset, .unset]) rfl (o_iloadN X0 hx hby at_19 rfl (o_sipush X0 hx hby at_20 (x := 255) rfl (o_iand X0 hx hby at_23 (z := i11) hi11.symm (o_i2c X0 hx hby at_24 (z := i11) (own_i2c255 hi11) (o_istore X0 hx hby at_25 (Ls' := #[vI p1, vI p2, vI p3, vI 1, vI 1, vI i11, .unset, .unset, .unset, .unset, .unset, .unset, .unset, .unset, .unset, .unset]) rfl (o_iloadN X0 hx hby at_27 rfl (o_bipush X0 hx hby at_28 (x := 8) rfl (o_iushr X0 hx hby at_30 (z := i12) hi12.symm (o_sipush X0 hx hby at_31 (x := 255) rfl (o_iand X0 hx hby at_34 (z := i13) hi13.symm (o_i2c X0 hx hby at_35 (z := i13) (own_i2c255 hi13) (o_istore X0 hx hby at_36 (Ls' := #[vI p1, vI p2, vI p3, vI 1, vI 1, vI i11, vI i13, .unset, .unset, .unset, .unset, .unset, .unset, .unset, .unset, .unset]) rfl (o_iloadN X0 hx hby at_38 rfl (o_bipush X0 hx hby at_39 (x := 16) rfl (o_iushr X0 hx hby at_41 (z := i14) hi14.symm (o_sipush X0 hx hby at_42 (x := 255) rfl (o_iand X0 hx hby at_45 (z := i15) hi15.symm (o_i2c X0 hx hby at_46 (z := i15) (own_i2c255 hi15) (o_istore X0 hx hby at_47 (Ls' := #[vI p1, vI p2, vI p3, vI 1, vI 1, vI i11, vI i13, vI i15, .unset, .unset, .unset, .unset, .unset, .unset, .unset, .unset]) rfl (o_iloadN X0 hx hby at_49 rfl (o_iconst X0 hx hby at_50 (x := 4) rfl (o_iushr X0 hx hby at_51 (z := i16) hi16.symm (o_iconst X0 hx hby at_52 (x := 1) rfl (o_iand X0 hx hby at_53 (z := i17) hi17.symm ?_))))))))))))))))))))))))))
        exact kt
      have join21 : ∀ (i22 : Int32), (∃ y : Int32, i22 = (y &&& (255 : Int32))) → (∀ t, Steps p.tables e below (s₁.setTop (mkF m 68 #[vI p1, vI p2, vI p3, vI 1, vI 1, vI i11, vI i13, vI i15, .unset, .unset, .unset, .unset, .unset, .unset, .unset, .unset] [(.int i22)])) t → Steps p.tables e below EN t) → False := by
        rintro i22 ⟨x24, hp23⟩ pre25
        obtain ⟨i26, hi26⟩ : ∃ z, z = ((p3.toUInt32 >>> ((5 : Int32) &&& 31).toUInt32).toInt32) := ⟨_, rfl⟩
        obtain ⟨i27, hi27⟩ : ∃ z, z = (i26 &&& (1 : Int32)) := ⟨_, rfl⟩
        have pre28 : ∀ t, Steps p.tables e below (s₁.setTop (mkF m 75 #[vI p1, vI p2, vI p3, vI 1, vI 1, vI i11, vI i13, vI i15, vI i22, .unset, .unset, .unset, .unset, .unset, .unset, .unset] [(.int i27)])) t → Steps p.tables e below EN t := by
          intro t kt
          refine pre25 t ?_
          refine o_istore X0 hx hby at_68 (Ls' := #[vI p1, vI p2, vI p3, vI 1, vI 1, vI i11, vI i13, vI i15, vI i22, .unset, .unset, .unset, .unset, .unset, .unset, .unset]) rfl (o_iloadN X0 hx hby at_70 rfl (o_iconst X0 hx hby at_71 (x := 5) rfl (o_iushr X0 hx hby at_72 (z := i26) hi26.symm (o_iconst X0 hx hby at_73 (x := 1) rfl (o_iand X0 hx hby at_74 (z := i27) hi27.symm ?_)))))
          exact kt
        have join32 : ∀ (i33 : Int32), (∃ y : Int32, i33 = (y &&& (255 : Int32))) → (∀ t, Steps p.tables e below (s₁.setTop (mkF m 92 #[vI p1, vI p2, vI p3, vI 1, vI 1, vI i11, vI i13, vI i15, vI i22, .unset, .unset, .unset, .unset, .unset, .unset, .unset] [(.int i33)])) t → Steps p.tables e below EN t) → False := by
          rintro i33 ⟨x35, hp34⟩ pre36
          obtain ⟨i37, hi37⟩ : ∃ z, z = ((p3.toUInt32 >>> ((6 : Int32) &&& 31).toUInt32).toInt32) := ⟨_, rfl⟩
          obtain ⟨i38, hi38⟩ : ∃ z, z = (i37 &&& (1 : Int32)) := ⟨_, rfl⟩
          have pre39 : ∀ t, Steps p.tables e below (s₁.setTop (mkF m 100 #[vI p1, vI p2, vI p3, vI 1, vI 1, vI i11, vI i13, vI i15, vI i22, vI i33, .unset, .unset, .unset, .unset, .unset, .unset] [(.int i38)])) t → Steps p.tables e below EN t := by
            intro t kt
            refine pre36 t ?_
            refine o_istore X0 hx hby at_92 (Ls' := #[vI p1, vI p2, vI p3, vI 1, vI 1, vI i11, vI i13, vI i15, vI i22, vI i33, .unset, .unset, .unset, .unset, .unset, .unset]) rfl (o_iloadN X0 hx hby at_94 rfl (o_bipush X0 hx hby at_95 (x := 6) rfl (o_iushr X0 hx hby at_97 (z := i37) hi37.symm (o_iconst X0 hx hby at_98 (x := 1) rfl (o_iand X0 hx hby at_99 (z := i38) hi38.symm ?_)))))
            exact kt
          have join43 : ∀ (i44 : Int32), (∃ y : Int32, i44 = (y &&& (255 : Int32))) → (∀ t, Steps p.tables e below (s₁.setTop (mkF m 117 #[vI p1, vI p2, vI p3, vI 1, vI 1, vI i11, vI i13, vI i15, vI i22, vI i33, .unset, .unset, .unset, .unset, .unset, .unset] [(.int i44)])) t → Steps p.tables e below EN t) → False := by
            rintro i44 ⟨x46, hp45⟩ pre47
            obtain ⟨T48, h48, X48, e48, E48, A48, D48, -, st48⟩ := newO X0 hx hZ hown (ww0 hw) (ww1 hw) (ww2 hw) e0 (g := (mkF m 119 #[vI p1, vI p2, vI p3, vI 1, vI 1, vI i11, vI i13, vI i15, vI i22, vI i33, vI i44, .unset, .unset, .unset, .unset, .unset] [])) rfl (hb hby at_119) (by decide) (by decide)
            obtain ⟨b48, g48⟩ : ∃ z, z = h0.size := ⟨_, rfl⟩
            rw [← g48] at A48 D48 st48
            have O48 : Old Z n0 h48 := O0.ext E48
            have bd_b48 : h0.size ≤ b48 := Nat.le_of_eq g48.symm
            have g_b48 : n0 ≤ b48 := Nat.le_trans (own_z O0) bd_b48
            have sz_b48 : h0.size ≤ b48 := Nat.le_trans (Nat.le_refl _) bd_b48
            have lt_b48 : b48 < h48.size := A48.lt
            have D48_31 : Fld Z h48 b48 C_0 "coder" "B" (.int 0) := D48 (Or.inr (ww31 hw)) (ty := .byte) (by decide)
            have D48_33 : Fld Z h48 b48 C_0 "value" "[B" .null := D48 (Or.inr (ww33 hw)) (ty := (.array .byte)) (by decide)
            obtain ⟨_, T49, L49, X49, hQ49, st49⟩ := own_cS X48 hx hZ hown (ww3 hw) (ww4 hw) (ww5 hw) (ww6 hw) (rm1_2 l Z a0 hw i11 i13 i15 h48 n0 O48) e48 pd_0 hml (hb hby at_130) (Ls := #[vI p1, vI p2, vI p3, vI 1, vI 1, vI i11, vI i13, vI i15, vI i22, vI i33, vI i44, .unset, .unset, .unset, .unset, .unset]) (W := 2) (argsL := [(.int 1), (.int i11), (.int i13), (.int i15)]) (rest := [(.ref b48), (.ref b48)])
            obtain ⟨i50, b51, k52, u53, rfl, u55, u56, u57, Ku58, u59, u60⟩ := hQ49
            have Ou58 : Old Z n0 T49.heap := O48.keep Ku58 all0
            have g_b51 : n0 ≤ b51 := Nat.le_trans (own_z O48) u56
            have sz_b51 : h0.size ≤ b51 := Nat.le_trans E48.1 u56
            have N49 := Fr.app N0 u55
            have pre61 : ∀ t, Steps p.tables e below (T49.setTop (mkF m 133 #[vI p1, vI p2, vI p3, vI 1, vI 1, vI i11, vI i13, vI i15, vI i22, vI i33, vI i44, .unset, .unset, .unset, .unset, .unset] [(.ref b51), (.ref b48), (.ref b48)])) t → Steps p.tables e below EN t := by
              intro t kt
              refine pre47 t ?_
              refine o_istore X0 hx hby at_117 (Ls' := #[vI p1, vI p2, vI p3, vI 1, vI 1, vI i11, vI i13, vI i15, vI i22, vI i33, vI i44, .unset, .unset, .unset, .unset, .unset]) rfl (st48 _ (o_dup X48 hx hby at_122 rfl (o_iloadN X48 hx hby at_123 rfl (o_iload X48 hx hby at_124 rfl (o_iload X48 hx hby at_126 rfl (o_iload X48 hx hby at_128 rfl (st49 _ ?_)))))))
              exact kt
            obtain rfl : i11 = i50 := (u53.trans (own_nar255 hi11)).symm
            have f65 : Exa Z T49.heap b48 C_0 := (A48.keep Ku58)
            have f66 : Fld Z T49.heap b48 C_0 "coder" "B" (.int 0) := (D48_31.keep Ku58 nin0)
            have f67 : Fld Z T49.heap b48 C_0 "value" "[B" .null := (D48_33.keep Ku58 nin0)
            obtain ⟨_, T68, L68, X68, hQ68, st68⟩ := own_cI X49 hx hZ hown (ww8 hw) (ww9 hw) (ww2 hw) (ww10 hw) (rm2_3 l Z a0 hw b48 b51 i11 k52 p62 T49.heap n0 Ou58 u60 S_63 hk64 (own_lt255 hi11) f65 f66 f67 g_b48 (own_t lt_b48 Ku58.1)) rfl pd_5 hml (hb hby at_133) (Ls := #[vI p1, vI p2, vI p3, vI 1, vI 1, vI i11, vI i13, vI i15, vI i22, vI i33, vI i44, .unset, .unset, .unset, .unset, .unset]) (W := 1) (argsL := [(.ref b51)]) (rest := [(.ref b48)]) (b := b48)
            obtain ⟨i69, b70, k71, u72, rfl, u74, u75, u76, Ku77, u78, u79, u80, u81, u82⟩ := hQ68
            have Ou77 : Old Z n0 T68.heap := Ou58.keep Ku77 (allS g_b48 all0)
            have g_b70 : n0 ≤ b70 := Nat.le_trans (own_z Ou58) u75
            have sz_b70 : h0.size ≤ b70 := Nat.le_trans (Nat.le_trans E48.1 Ku58.1) u75
            have N68 := Fr.app N49 u74
            obtain ⟨T83, h83, X83, e83, E83, A83, D83, -, st83⟩ := newO X68 hx hZ hown (ww0 hw) (ww1 hw) (ww2 hw) rfl (g := (mkF m 138 #[vI p1, vI p2, vI p3, vI 1, vI 1, vI i11, vI i13, vI i15, vI i22, vI i33, vI i44, vR b48, .unset, .unset, .unset, .unset] [])) rfl (hb hby at_138) (by decide) (by decide)
            obtain ⟨b83, g83⟩ : ∃ z, z = T68.heap.size := ⟨_, rfl⟩
            rw [← g83] at A83 D83 st83
            have O83 : Old Z n0 h83 := Ou77.ext E83
            have bd_b83 : T68.heap.size ≤ b83 := Nat.le_of_eq g83.symm
            have g_b83 : n0 ≤ b83 := Nat.le_trans (own_z Ou77) bd_b83
            have sz_b83 : h0.size ≤ b83 := Nat.le_trans (Nat.le_trans (Nat.le_trans E48.1 Ku58.1) Ku77.1) bd_b83
            have lt_b83 : b83 < h83.size := A83.lt
            have D83_31 : Fld Z h83 b83 C_0 "coder" "B" (.int 0) := D83 (Or.inr (ww31 hw)) (ty := .byte) (by decide)
            have D83_33 : Fld Z h83 b83 C_0 "value" "[B" .null := D83 (Or.inr (ww33 hw)) (ty := (.array .byte)) (by decide)
            obtain ⟨_, T84, L84, X84, hQ84, st84⟩ := own_cS X83 hx hZ hown (ww3 hw) (ww4 hw) (ww5 hw) (ww6 hw) (rm1_2 l Z a0 hw i22 i33 i44 h83 n0 O83) e83 pd_0 hml (hb hby at_150) (Ls := #[vI p1, vI p2, vI p3, vI 1, vI 1, vI i11, vI i13, vI i15, vI i22, vI i33, vI i44, vR b48, .unset, .unset, .unset, .unset]) (W := 2) (argsL := [(.int 1), (.int i22), (.int i33), (.int i44)]) (rest := [(.ref b83), (.ref b83)])
            obtain ⟨i85, b86, k87, u88, rfl, u90, u91, u92, Ku93, u94, u95⟩ := hQ84
            have Ou93 : Old Z n0 T84.heap := O83.keep Ku93 all0
            have g_b86 : n0 ≤ b86 := Nat.le_trans (own_z O83) u91
            have sz_b86 : h0.size ≤ b86 := Nat.le_trans (Nat.le_trans (Nat.le_trans (Nat.le_trans E48.1 Ku58.1) Ku77.1) E83.1) u91
            have N84 := Fr.app N68 u90
            have pre96 : ∀ t, Steps p.tables e below (T84.setTop (mkF m 153 #[vI p1, vI p2, vI p3, vI 1, vI 1, vI i11, vI i13, vI i15, vI i22, vI i33, vI i44, vR b48, .unset, .unset, .unset, .unset] [(.ref b86), (.ref b83), (.ref b83)])) t → Steps p.tables e below EN t := by
              intro t kt
              refine pre61 t ?_
              refine st68 _ (o_astore X68 hx hby at_136 rfl (Ls' := #[vI p1, vI p2, vI p3, vI 1, vI 1, vI i11, vI i13, vI i15, vI i22, vI i33, vI i44, vR b48, .unset, .unset, .unset, .unset]) rfl (st83 _ (o_dup X83 hx hby at_141 rfl (o_iload X83 hx hby at_142 rfl (o_iload X83 hx hby at_144 rfl (o_iload X83 hx hby at_146 rfl (o_iload X83 hx hby at_148 rfl (st84 _ ?_))))))))
              exact kt
            obtain rfl : i22 = i85 := (u88.trans (own_nar255 hp23)).symm
            have f97 : Exa Z T84.heap b83 C_0 := (A83.keep Ku93)
            have f98 : Fld Z T84.heap b83 C_0 "coder" "B" (.int 0) := (D83_31.keep Ku93 nin0)
            have f99 : Fld Z T84.heap b83 C_0 "value" "[B" .null := (D83_33.keep Ku93 nin0)
            obtain ⟨_, T100, L100, X100, hQ100, st100⟩ := own_cI X84 hx hZ hown (ww8 hw) (ww9 hw) (ww2 hw) (ww10 hw) (rm2_3 l Z a0 hw b83 b86 i22 k87 p62 T84.heap n0 Ou93 u95 S_63 hk64 (own_lt255 hp23) f97 f98 f99 g_b83 (own_t lt_b83 Ku93.1)) rfl pd_5 hml (hb hby at_153) (Ls := #[vI p1, vI p2, vI p3, vI 1, vI 1, vI i11, vI i13, vI i15, vI i22, vI i33, vI i44, vR b48, .unset, .unset, .unset, .unset]) (W := 1) (argsL := [(.ref b86)]) (rest := [(.ref b83)]) (b := b83)
            obtain ⟨i101, b102, k103, u104, rfl, u106, u107, u108, Ku109, u110, u111, u112, u113, u114⟩ := hQ100
            have Ou109 : Old Z n0 T100.heap := Ou93.keep Ku109 (allS g_b83 all0)
            have g_b102 : n0 ≤ b102 := Nat.le_trans (own_z Ou93) u107
            have sz_b102 : h0.size ≤ b102 := Nat.le_trans (Nat.le_trans (Nat.le_trans (Nat.le_trans (Nat.le_trans E48.1 Ku58.1) Ku77.1) E83.1) Ku93.1) u107
            have N100 := Fr.app N84 u106
            obtain ⟨T115, h115, X115, e115, E115, A115, D115, -, st115⟩ := newO X100 hx hZ hown (ww34 hw) (ww35 hw) (ww36 hw) rfl (g := (mkF m 158 #[vI p1, vI p2, vI p3, vI 1, vI 1, vI i11, vI i13, vI i15, vI i22, vI i33, vI i44, vR b48, vR b83, .unset, .unset, .unset] [])) rfl (hb hby at_158) (by decide) (by decide)
            obtain ⟨b115, g115⟩ : ∃ z, z = T100.heap.size := ⟨_, rfl⟩
            rw [← g115] at A115 D115 st115
            have O115 : Old Z n0 h115 := Ou109.ext E115
            have bd_b115 : T100.heap.size ≤ b115 := Nat.le_of_eq g115.symm
            have g_b115 : n0 ≤ b115 := Nat.le_trans (own_z Ou109) bd_b115
            have sz_b115 : h0.size ≤ b115 := Nat.le_trans (Nat.le_trans (Nat.le_trans (Nat.le_trans (Nat.le_trans (Nat.le_trans E48.1 Ku58.1) Ku77.1) E83.1) Ku93.1) Ku109.1) bd_b115
            have lt_b115 : b115 < h115.size := A115.lt
            have D115_92 : Fld Z h115 b115 C_1 "text" C_2 .null := D115 (Or.inr (ww92 hw)) (ty := (.object "java/lang/String")) (by decide)
            have f118 : Exa Z h115 b48 C_0 := (Exa.ext E115 (((Exa.ext E83 u78).keep Ku93).keep Ku109))
            have f119 : Fld Z h115 b48 C_0 "value" "[B" (.ref b70) := (Fld.ext E115 (((Fld.ext E83 u80).keep Ku93 nin0).keep Ku109 (ninS (own_n (own_t (own_t lt_b48 Ku58.1) Ku77.1) bd_b83) nin0)))
            have f120 : Arv Z h115 b70 k71 .byte (1 : Int32) [(.int i69)] (.int (0 : Int32)) := ((((u82.ext E83).keep Ku93 nin0).keep Ku109 (ninS (own_n u76 bd_b83) nin0)).ext E115)
            have f121 : Fld Z h115 b48 C_0 "coder" "B" (.int 0) := (Fld.ext E115 (((Fld.ext E83 u79).keep Ku93 nin0).keep Ku109 (ninS (own_n (own_t (own_t lt_b48 Ku58.1) Ku77.1) bd_b83) nin0)))
            obtain ⟨_, T122, L122, X122, hS122, hZ122, hown122, hQ122, st122⟩ := own_cIW (s := s) (vm0 := s.vm) X115 hx hZ hown hS0 (Nat.le_trans (Nat.le_trans (Nat.le_trans (Nat.le_trans (Nat.le_trans (Nat.le_trans (Nat.le_trans Y0 E48.1) Ku58.1) Ku77.1) E83.1) Ku93.1) Ku109.1) E115.1) (ww37 hw) (ww38 hw) (ww36 hw) (ww39 hw) (rm8_8 l Z a0 hw b115 b48 b70 i69 k71 p62 va116 h115 n0 O115 f118 f119 f120 S_63 hk64 f121 S_117 ir_va116 A115 D115_92 g_b115) e115 pd_17 hml (hb hby at_164) (Ls := #[vI p1, vI p2, vI p3, vI 1, vI 1, vI i11, vI i13, vI i15, vI i22, vI i33, vI i44, vR b48, vR b83, .unset, .unset, .unset]) (W := 1) (argsL := [(.ref b48)]) (rest := [(.ref b115)]) (b := b115)
            obtain ⟨rfl, u124, Ku125, u126, u127⟩ := hQ122
            have Ou125 : Old Z n0 T122.heap := O115.keep Ku125 (allS g_b115 all0)
            have N122 := Fr.app N100 u124
            obtain ⟨T128, h128, X128, e128, E128, A128, D128, -, st128⟩ := newO X122 hx hZ122 hown122 (ww34 hw) (ww35 hw) (ww36 hw) rfl (g := (mkF m 169 #[vI p1, vI p2, vI p3, vI 1, vI 1, vI i11, vI i13, vI i15, vI i22, vI i33, vI i44, vR b48, vR b83, vR b115, .unset, .unset] [])) rfl (hb hby at_169) (by decide) (by decide)
            obtain ⟨b128, g128⟩ : ∃ z, z = T122.heap.size := ⟨_, rfl⟩
            rw [← g128] at A128 D128 st128
            have O128 : Old Z n0 h128 := Ou125.ext E128
            have bd_b128 : T122.heap.size ≤ b128 := Nat.le_of_eq g128.symm
            have g_b128 : n0 ≤ b128 := Nat.le_trans (own_z Ou125) bd_b128
            have sz_b128 : h0.size ≤ b128 := Nat.le_trans (Nat.le_trans (Nat.le_trans (Nat.le_trans (Nat.le_trans (Nat.le_trans (Nat.le_trans (Nat.le_trans E48.1 Ku58.1) Ku77.1) E83.1) Ku93.1) Ku109.1) E115.1) Ku125.1) bd_b128
            have lt_b128 : b128 < h128.size := A128.lt
            have D128_92 : Fld Z h128 b128 C_1 "text" C_2 .null := D128 (Or.inr (ww92 hw)) (ty := (.object "java/lang/String")) (by decide)
            have f129 : Exa Z h128 b83 C_0 := (Exa.ext E128 ((Exa.ext E115 u110).keep Ku125))
            have f130 : Fld Z h128 b83 C_0 "value" "[B" (.ref b102) := (Fld.ext E128 ((Fld.ext E115 u112).keep Ku125 (ninS (own_n (own_t (own_t lt_b83 Ku93.1) Ku109.1) bd_b115) nin0)))
            have f131 : Arv Z h128 b102 k103 .byte (1 : Int32) [(.int i101)] (.int (0 : Int32)) := (((u114.ext E115).keep Ku125 (ninS (own_n u108 bd_b115) nin0)).ext E128)
            have f132 : Fld Z h128 b83 C_0 "coder" "B" (.int 0) := (Fld.ext E128 ((Fld.ext E115 u111).keep Ku125 (ninS (own_n (own_t (own_t lt_b83 Ku93.1) Ku109.1) bd_b115) nin0)))
            obtain ⟨_, T133, L133, X133, hS133, hZ133, hown133, hQ133, st133⟩ := own_cIW (s := s) (vm0 := T122.vm) X128 hx hZ122 hown122 hS122 (Nat.le_trans (Nat.le_refl _) E128.1) (ww37 hw) (ww38 hw) (ww36 hw) (ww39 hw) (rm8_8 l Z a0 hw b128 b83 b102 i101 k103 p62 va116 h128 n0 O128 f129 f130 f131 S_63 hk64 f132 S_117 ir_va116 A128 D128_92 g_b128) e128 pd_17 hml (hb hby at_175) (Ls := #[vI p1, vI p2, vI p3, vI 1, vI 1, vI i11, vI i13, vI i15, vI i22, vI i33, vI i44, vR b48, vR b83, vR b115, .unset, .unset]) (W := 1) (argsL := [(.ref b83)]) (rest := [(.ref b128)]) (b := b128)
            obtain ⟨rfl, u135, Ku136, u137, u138⟩ := hQ133
            have Ou136 : Old Z n0 T133.heap := O128.keep Ku136 (allS g_b128 all0)
            have N133 := Fr.app N122 u135
            have pre139 : ∀ t, Steps p.tables e below (T133.setTop (mkF m 190 #[vI p1, vI p2, vI p3, vI 1, vI 1, vI i11, vI i13, vI i15, vI i22, vI i33, vI i44, vR b48, vR b83, vR b115, vR b128, .unset] [(.int i22), (.int i11)])) t → Steps p.tables e below EN t := by
              intro t kt
              refine pre96 t ?_
              refine st100 _ (o_astore X100 hx hby at_156 rfl (Ls' := #[vI p1, vI p2, vI p3, vI 1, vI 1, vI i11, vI i13, vI i15, vI i22, vI i33, vI i44, vR b48, vR b83, .unset, .unset, .unset]) rfl (st115 _ (o_dup X115 hx hby at_161 rfl (o_aload X115 hx hby at_162 rfl rfl (st122 _ (o_astore X122 hx hby at_167 rfl (Ls' := #[vI p1, vI p2, vI p3, vI 1, vI 1, vI i11, vI i13, vI i15, vI i22, vI i33, vI i44, vR b48, vR b83, vR b115, .unset, .unset]) rfl (st128 _ (o_dup X128 hx hby at_172 rfl (o_aload X128 hx hby at_173 rfl rfl (st133 _ (o_astore X133 hx hby at_178 rfl (Ls' := #[vI p1, vI p2, vI p3, vI 1, vI 1, vI i11, vI i13, vI i15, vI i22, vI i33, vI i44, vR b48, vR b83, vR b115, vR b128, .unset]) rfl (o_iloadN X133 hx hby at_180 rfl (o_iload X133 hx hby at_181 rfl (o_icmpN X133 hx hby at_183 (by decide +kernel) (o_iload X133 hx hby at_186 rfl (o_iload X133 hx hby at_188 rfl ?_))))))))))))))))
              exact kt
            by_cases hc140 : i11 = i22
            · skip
              have f141 : Fld Z T133.heap b115 C_1 "text" C_2 (.ref b48) := ((Fld.ext E128 u127).keep Ku136 (ninS (own_n (own_t lt_b115 Ku125.1) bd_b128) nin0))
              have f142 : Exa Z T133.heap b48 C_0 := ((Exa.ext E128 (f118.keep Ku125)).keep Ku136)
              have f143 : Exa Z T133.heap b83 C_0 := (f129.keep Ku136)
              have ne144 : b48 ≠ b115 := (own_n (own_t (own_t (own_t (own_t (own_t lt_b48 Ku58.1) Ku77.1) E83.1) Ku93.1) Ku109.1) bd_b115)
              have ne145 : b48 ≠ b128 := (own_n (own_t (own_t (own_t (own_t (own_t (own_t (own_t lt_b48 Ku58.1) Ku77.1) E83.1) Ku93.1) Ku109.1) E115.1) Ku125.1) bd_b128)
              have f146 : Fld Z T133.heap b48 C_0 "coder" "B" (.int 0) := ((Fld.ext E128 (f121.keep Ku125 (ninS ne144 nin0))).keep Ku136 (ninS ne145 nin0))
              have ne147 : b83 ≠ b128 := (own_n (own_t (own_t (own_t (own_t lt_b83 Ku93.1) Ku109.1) E115.1) Ku125.1) bd_b128)
              have f148 : Fld Z T133.heap b83 C_0 "coder" "B" (.int 0) := (f132.keep Ku136 (ninS ne147 nin0))
              have f149 : Fld Z T133.heap b48 C_0 "value" "[B" (.ref b70) := ((Fld.ext E128 (f119.keep Ku125 (ninS ne144 nin0))).keep Ku136 (ninS ne145 nin0))
              have f150 : Fld Z T133.heap b83 C_0 "value" "[B" (.ref b102) := (f130.keep Ku136 (ninS ne147 nin0))
              have ne151 : b70 ≠ b115 := (own_n (own_t (own_t (own_t u76 E83.1) Ku93.1) Ku109.1) bd_b115)
              have ne152 : b70 ≠ b128 := (own_n (own_t (own_t (own_t (own_t (own_t u76 E83.1) Ku93.1) Ku109.1) E115.1) Ku125.1) bd_b128)
              have f153 : Arv Z T133.heap b70 k71 .byte (1 : Int32) [(.int i69)] (.int (0 : Int32)) := (((f120.keep Ku125 (ninS ne151 nin0)).ext E128).keep Ku136 (ninS ne152 nin0))
              have f154 : Arv Z T133.heap b102 k103 .byte (1 : Int32) [(.int i101)] (.int (0 : Int32)) := (f131.keep Ku136 (ninS (own_n (own_t (own_t u108 E115.1) Ku125.1) bd_b128) nin0))
              have f156 : Exa Z T133.heap b115 C_1 := ((Exa.ext E128 u126).keep Ku136)
              obtain ⟨_, T155, L155, X155, hQ155, st155⟩ := own_cV X133 hx hZ133 hown133 (ww93 hw) (ww94 hw) (notFace_of_selects (args := #[]) (mvT hZ133 (ww96 hw))) (ww96 hw) (ww95 hw) (ww36 hw) (ww97 hw) f156 (rm20_21 l Z a0 hw b115 b128 b48 b83 p62 b70 b102 i69 k71 i101 k103 T133.heap n0 Ou136 (own_n (own_t lt_b115 Ku125.1) bd_b128) u137 f141 u138 f142 (own_n (own_t (own_t lt_b48 Ku58.1) Ku77.1) bd_b83) f143 S_63 hk64 f146 f148 f149 f150 f153 f154 (own_beq (u := 0) (v := 0) u72 u104 hc140)) rfl pd_19 hml (hb hby at_228) (Ls := #[vI p1, vI p2, vI p3, vI 1, vI 1, vI i11, vI i13, vI i15, vI i22, vI i33, vI i44, vR b48, vR b83, vR b115, vR b128, vI 1]) (W := 0) (argsL := [(.ref b128)]) (rest := [])
              obtain ⟨rfl, u158, u159⟩ := hQ155
              have N155 := Fr.app N133 u158
              obtain ⟨_, T160, L160, X160, hQ160, st160⟩ := own_cV X155 hx hZ133 hown133 (ww93 hw) (ww94 hw) (notFace_of_selects (args := #[]) (mvT hZ133 (ww96 hw))) (ww96 hw) (ww95 hw) (ww36 hw) (ww97 hw) u137 (rm20_21 l Z a0 hw b128 b115 b83 b48 p62 b102 b70 i101 k103 i69 k71 T133.heap n0 Ou136 (Ne.symm (own_n (own_t lt_b115 Ku125.1) bd_b128)) f156 u138 f141 f143 (Ne.symm (own_n (own_t (own_t lt_b48 Ku58.1) Ku77.1) bd_b83)) f142 S_63 hk64 f148 f146 f150 f149 f154 f153 (own_beq (u := 0) (v := 0) u104 u72 hc140.symm)) u159 pd_19 hml (hb hby at_240) (Ls := #[vI p1, vI p2, vI p3, vI 1, vI 1, vI i11, vI i13, vI i15, vI i22, vI i33, vI i44, vR b48, vR b83, vR b115, vR b128, vI 1]) (W := 0) (argsL := [(.ref b115)]) (rest := [])
              obtain ⟨rfl, u162, u163⟩ := hQ160
              have N160 := Fr.app N155 u162
              obtain ⟨_, T164, L164, X164, hQ164, st164⟩ := own_cV X160 hx hZ133 hown133 (ww93 hw) (ww94 hw) (notFace_of_selects (args := #[]) (mvT hZ133 (ww96 hw))) (ww96 hw) (ww95 hw) (ww36 hw) (ww97 hw) f156 (rm20_24 l Z a0 hw b115 T133.heap n0 Ou136) u163 pd_19 hml (hb hby at_252) (Ls := #[vI p1, vI p2, vI p3, vI 1, vI 1, vI i11, vI i13, vI i15, vI i22, vI i33, vI i44, vR b48, vR b83, vR b115, vR b128, vI 1]) (W := 0) (argsL := [(.ref b115)]) (rest := [])
              obtain ⟨rfl, u166, u167⟩ := hQ164
              have N164 := Fr.app N160 u166
              obtain ⟨_, T168, L168, X168, hQ168, st168⟩ := own_cV X164 hx hZ133 hown133 (ww93 hw) (ww94 hw) (notFace_of_selects (args := #[]) (mvT hZ133 (ww96 hw))) (ww96 hw) (ww95 hw) (ww36 hw) (ww97 hw) f156 (rm20_25 l Z a0 hw b115 T133.heap n0 Ou136) u167 pd_19 hml (hb hby at_261) (Ls := #[vI p1, vI p2, vI p3, vI 1, vI 1, vI i11, vI i13, vI i15, vI i22, vI i33, vI i44, vR b48, vR b83, vR b115, vR b128, vI 1]) (W := 0) (argsL := [.null]) (rest := [])
              obtain ⟨rfl, u170, u171⟩ := hQ168
              have N168 := Fr.app N164 u170
              obtain ⟨_, T172, L172, X172, hQ172, st172⟩ := own_cV X168 hx hZ133 hown133 (ww93 hw) (ww94 hw) (notFace_of_selects (args := #[]) (mvT hZ133 (ww96 hw))) (ww96 hw) (ww95 hw) (ww36 hw) (ww97 hw) f156 (rm20_26 l Z a0 hw b115 b48 T133.heap n0 Ou136 (Ne.symm ne144) f142) u171 pd_19 hml (hb hby at_271) (Ls := #[vI p1, vI p2, vI p3, vI 1, vI 1, vI i11, vI i13, vI i15, vI i22, vI i33, vI i44, vR b48, vR b83, vR b115, vR b128, vI 1]) (W := 0) (argsL := [(.ref b48)]) (rest := [])
              obtain ⟨rfl, u174, u175⟩ := hQ172
              have N172 := Fr.app N168 u174
              refine fin (some (.int 1)) _ _ _ _ T133.vm _ X172 hS133 (by rw [u175]; exact (Nat.le_refl _)) nofun (fun fs hr => pre139 _ ?_) (own_atH u175 ?_) (by decide) (by decide)
              · refine o_icmpN X133 hx hby at_190 (teq hc140).2 (o_iloadN X133 hx hby at_193 rfl (o_iconst X133 hx hby at_194 (x := 2) rfl (o_icmpY X133 hx hby at_195 (pc := 195) (pc' := 205) (by decide +kernel) (by decide) (by decide) (o_iloadN X133 hx hby at_205 rfl (o_iconst X133 hx hby at_206 (x := 3) rfl (o_icmpY X133 hx hby at_207 (pc := 207) (pc' := 217) (by decide +kernel) (by decide) (by decide) (o_iconst X133 hx hby at_217 (x := 1) rfl (o_goto X133 hx hby at_218 (pc := 218) (pc' := 222) (by decide) (by decide) (o_istore X133 hx hby at_222 (Ls' := #[vI p1, vI p2, vI p3, vI 1, vI 1, vI i11, vI i13, vI i15, vI i22, vI i33, vI i44, vR b48, vR b83, vR b115, vR b128, vI 1]) rfl (o_aload X133 hx hby at_224 rfl rfl (o_aload X133 hx hby at_226 rfl rfl (st155 _ (o_iload X155 hx hby at_231 rfl (o_icmpN X155 hx hby at_233 (by decide +kernel) (o_aload X155 hx hby at_236 rfl rfl (o_aload X155 hx hby at_238 rfl rfl (st160 _ (o_iload X160 hx hby at_243 rfl (o_icmpN X160 hx hby at_245 (by decide +kernel) (o_aload X160 hx hby at_248 rfl rfl (o_aload X160 hx hby at_250 rfl rfl (st164 _ (o_ifN X164 hx hby at_255 (by decide +kernel) (o_aload X164 hx hby at_258 rfl rfl (o_null X164 hx hby at_260 (st168 _ (o_ifN X168 hx hby at_264 (by decide +kernel) (o_aload X168 hx hby at_267 rfl rfl (o_aload X168 hx hby at_269 rfl rfl (st172 _ (o_ifN X172 hx hby at_274 (by decide +kernel) (o_iconst X172 hx hby at_277 (x := 1) rfl (o_goto X172 hx hby at_278 (pc := 278) (pc' := 282) (by decide) (by decide) ?_)))))))))))))))))))))))))))))))))
                exact retN X172 hx (t := .boolean) hret (by simp) (hb hby at_282) hr
              · exact ⟨rfl, N172⟩
            · skip
              have f176 : Fld Z T133.heap b115 C_1 "text" C_2 (.ref b48) := ((Fld.ext E128 u127).keep Ku136 (ninS (own_n (own_t lt_b115 Ku125.1) bd_b128) nin0))
              have f177 : Exa Z T133.heap b48 C_0 := ((Exa.ext E128 (f118.keep Ku125)).keep Ku136)
              have f178 : Exa Z T133.heap b83 C_0 := (f129.keep Ku136)
              have ne179 : b48 ≠ b115 := (own_n (own_t (own_t (own_t (own_t (own_t lt_b48 Ku58.1) Ku77.1) E83.1) Ku93.1) Ku109.1) bd_b115)
              have ne180 : b48 ≠ b128 := (own_n (own_t (own_t (own_t (own_t (own_t (own_t (own_t lt_b48 Ku58.1) Ku77.1) E83.1) Ku93.1) Ku109.1) E115.1) Ku125.1) bd_b128)
              have f181 : Fld Z T133.heap b48 C_0 "coder" "B" (.int 0) := ((Fld.ext E128 (f121.keep Ku125 (ninS ne179 nin0))).keep Ku136 (ninS ne180 nin0))
              have ne182 : b83 ≠ b128 := (own_n (own_t (own_t (own_t (own_t lt_b83 Ku93.1) Ku109.1) E115.1) Ku125.1) bd_b128)
              have f183 : Fld Z T133.heap b83 C_0 "coder" "B" (.int 0) := (f132.keep Ku136 (ninS ne182 nin0))
              have f184 : Fld Z T133.heap b48 C_0 "value" "[B" (.ref b70) := ((Fld.ext E128 (f119.keep Ku125 (ninS ne179 nin0))).keep Ku136 (ninS ne180 nin0))
              have f185 : Fld Z T133.heap b83 C_0 "value" "[B" (.ref b102) := (f130.keep Ku136 (ninS ne182 nin0))
              have ne186 : b70 ≠ b115 := (own_n (own_t (own_t (own_t u76 E83.1) Ku93.1) Ku109.1) bd_b115)
              have ne187 : b70 ≠ b128 := (own_n (own_t (own_t (own_t (own_t (own_t u76 E83.1) Ku93.1) Ku109.1) E115.1) Ku125.1) bd_b128)
              have f188 : Arv Z T133.heap b70 k71 .byte (1 : Int32) [(.int i69)] (.int (0 : Int32)) := (((f120.keep Ku125 (ninS ne186 nin0)).ext E128).keep Ku136 (ninS ne187 nin0))
              have f189 : Arv Z T133.heap b102 k103 .byte (1 : Int32) [(.int i101)] (.int (0 : Int32)) := (f131.keep Ku136 (ninS (own_n (own_t (own_t u108 E115.1) Ku125.1) bd_b128) nin0))
              have f191 : Exa Z T133.heap b115 C_1 := ((Exa.ext E128 u126).keep Ku136)
              obtain ⟨_, T190, L190, X190, hQ190, st190⟩ := own_cV X133 hx hZ133 hown133 (ww93 hw) (ww94 hw) (notFace_of_selects (args := #[]) (mvT hZ133 (ww96 hw))) (ww96 hw) (ww95 hw) (ww36 hw) (ww97 hw) f191 (rm20_27 l Z a0 hw b115 b128 b48 b83 p62 b70 b102 i69 k71 i101 k103 T133.heap n0 Ou136 (own_n (own_t lt_b115 Ku125.1) bd_b128) u137 f176 u138 f177 (own_n (own_t (own_t lt_b48 Ku58.1) Ku77.1) bd_b83) f178 S_63 hk64 f181 f183 f184 f185 f188 f189 (own_bne u72 u104 hi11 hp23 hc140)) rfl pd_19 hml (hb hby at_228) (Ls := #[vI p1, vI p2, vI p3, vI 1, vI 1, vI i11, vI i13, vI i15, vI i22, vI i33, vI i44, vR b48, vR b83, vR b115, vR b128, vI 0]) (W := 0) (argsL := [(.ref b128)]) (rest := [])
              obtain ⟨rfl, u193, u194⟩ := hQ190
              have N190 := Fr.app N133 u193
              obtain ⟨_, T195, L195, X195, hQ195, st195⟩ := own_cV X190 hx hZ133 hown133 (ww93 hw) (ww94 hw) (notFace_of_selects (args := #[]) (mvT hZ133 (ww96 hw))) (ww96 hw) (ww95 hw) (ww36 hw) (ww97 hw) u137 (rm20_27 l Z a0 hw b128 b115 b83 b48 p62 b102 b70 i101 k103 i69 k71 T133.heap n0 Ou136 (Ne.symm (own_n (own_t lt_b115 Ku125.1) bd_b128)) f191 u138 f176 f178 (Ne.symm (own_n (own_t (own_t lt_b48 Ku58.1) Ku77.1) bd_b83)) f177 S_63 hk64 f183 f181 f185 f184 f189 f188 (own_bne u104 u72 hp23 hi11 (fun q => hc140 q.symm))) u194 pd_19 hml (hb hby at_240) (Ls := #[vI p1, vI p2, vI p3, vI 1, vI 1, vI i11, vI i13, vI i15, vI i22, vI i33, vI i44, vR b48, vR b83, vR b115, vR b128, vI 0]) (W := 0) (argsL := [(.ref b115)]) (rest := [])
              obtain ⟨rfl, u197, u198⟩ := hQ195
              have N195 := Fr.app N190 u197
              obtain ⟨_, T199, L199, X199, hQ199, st199⟩ := own_cV X195 hx hZ133 hown133 (ww93 hw) (ww94 hw) (notFace_of_selects (args := #[]) (mvT hZ133 (ww96 hw))) (ww96 hw) (ww95 hw) (ww36 hw) (ww97 hw) f191 (rm20_24 l Z a0 hw b115 T133.heap n0 Ou136) u198 pd_19 hml (hb hby at_252) (Ls := #[vI p1, vI p2, vI p3, vI 1, vI 1, vI i11, vI i13, vI i15, vI i22, vI i33, vI i44, vR b48, vR b83, vR b115, vR b128, vI 0]) (W := 0) (argsL := [(.ref b115)]) (rest := [])
              obtain ⟨rfl, u201, u202⟩ := hQ199
              have N199 := Fr.app N195 u201
              obtain ⟨_, T203, L203, X203, hQ203, st203⟩ := own_cV X199 hx hZ133 hown133 (ww93 hw) (ww94 hw) (notFace_of_selects (args := #[]) (mvT hZ133 (ww96 hw))) (ww96 hw) (ww95 hw) (ww36 hw) (ww97 hw) f191 (rm20_25 l Z a0 hw b115 T133.heap n0 Ou136) u202 pd_19 hml (hb hby at_261) (Ls := #[vI p1, vI p2, vI p3, vI 1, vI 1, vI i11, vI i13, vI i15, vI i22, vI i33, vI i44, vR b48, vR b83, vR b115, vR b128, vI 0]) (W := 0) (argsL := [.null]) (rest := [])
              obtain ⟨rfl, u205, u206⟩ := hQ203
              have N203 := Fr.app N199 u205
              obtain ⟨_, T207, L207, X207, hQ207, st207⟩ := own_cV X203 hx hZ133 hown133 (ww93 hw) (ww94 hw) (notFace_of_selects (args := #[]) (mvT hZ133 (ww96 hw))) (ww96 hw) (ww95 hw) (ww36 hw) (ww97 hw) f191 (rm20_26 l Z a0 hw b115 b48 T133.heap n0 Ou136 (Ne.symm ne179) f177) u206 pd_19 hml (hb hby at_271) (Ls := #[vI p1, vI p2, vI p3, vI 1, vI 1, vI i11, vI i13, vI i15, vI i22, vI i33, vI i44, vR b48, vR b83, vR b115, vR b128, vI 0]) (W := 0) (argsL := [(.ref b48)]) (rest := [])
              obtain ⟨rfl, u209, u210⟩ := hQ207
              have N207 := Fr.app N203 u209
              refine fin (some (.int 1)) _ _ _ _ T133.vm _ X207 hS133 (by rw [u210]; exact (Nat.le_refl _)) nofun (fun fs hr => pre139 _ ?_) (own_atH u210 ?_) (by decide) (by decide)
              · refine o_icmpY X133 hx hby at_190 (pc := 190) (pc' := 221) (feq hc140).2 (by decide) (by decide) (o_iconst X133 hx hby at_221 (x := 0) rfl (o_istore X133 hx hby at_222 (Ls' := #[vI p1, vI p2, vI p3, vI 1, vI 1, vI i11, vI i13, vI i15, vI i22, vI i33, vI i44, vR b48, vR b83, vR b115, vR b128, vI 0]) rfl (o_aload X133 hx hby at_224 rfl rfl (o_aload X133 hx hby at_226 rfl rfl (st190 _ (o_iload X190 hx hby at_231 rfl (o_icmpN X190 hx hby at_233 (by decide +kernel) (o_aload X190 hx hby at_236 rfl rfl (o_aload X190 hx hby at_238 rfl rfl (st195 _ (o_iload X195 hx hby at_243 rfl (o_icmpN X195 hx hby at_245 (by decide +kernel) (o_aload X195 hx hby at_248 rfl rfl (o_aload X195 hx hby at_250 rfl rfl (st199 _ (o_ifN X199 hx hby at_255 (by decide +kernel) (o_aload X199 hx hby at_258 rfl rfl (o_null X199 hx hby at_260 (st203 _ (o_ifN X203 hx hby at_264 (by decide +kernel) (o_aload X203 hx hby at_267 rfl rfl (o_aload X203 hx hby at_269 rfl rfl (st207 _ (o_ifN X207 hx hby at_274 (by decide +kernel) (o_iconst X207 hx hby at_277 (x := 1) rfl (o_goto X207 hx hby at_278 (pc := 278) (pc' := 282) (by decide) (by decide) ?_))))))))))))))))))))))))))
                exact retN X207 hx (t := .boolean) hret (by simp) (hb hby at_282) hr
              · exact ⟨rfl, N207⟩
          by_cases hc211 : i38 = (0 : Int32)
          · skip
            subst hc211
            obtain ⟨i212, hi212⟩ : ∃ z, z = ((p2.toUInt32 >>> ((16 : Int32) &&& 31).toUInt32).toInt32) := ⟨_, rfl⟩
            obtain ⟨i213, hi213⟩ : ∃ z, z = (i212 &&& (255 : Int32)) := ⟨_, rfl⟩
            have pre214 : ∀ t, Steps p.tables e below (s₁.setTop (mkF m 117 #[vI p1, vI p2, vI p3, vI 1, vI 1, vI i11, vI i13, vI i15, vI i22, vI i33, .unset, .unset, .unset, .unset, .unset, .unset] [(.int i213)])) t → Steps p.tables e below EN t := by
              intro t kt
              refine pre39 t ?_
              refine o_ifY X0 hx hby at_100 (pc := 100) (pc' := 108) (by decide +kernel) (by decide) (by decide) (o_iloadN X0 hx hby at_108 rfl (o_bipush X0 hx hby at_109 (x := 16) rfl (o_iushr X0 hx hby at_111 (z := i212) hi212.symm (o_sipush X0 hx hby at_112 (x := 255) rfl (o_iand X0 hx hby at_115 (z := i213) hi213.symm (o_i2c X0 hx hby at_116 (z := i213) (own_i2c255 hi213) ?_))))))
              exact kt
            exact join43 i213 ⟨_, hi213⟩ pre214
          · skip
            have pre215 : ∀ t, Steps p.tables e below (s₁.setTop (mkF m 117 #[vI p1, vI p2, vI p3, vI 1, vI 1, vI i11, vI i13, vI i15, vI i22, vI i33, .unset, .unset, .unset, .unset, .unset, .unset] [(.int i15)])) t → Steps p.tables e below EN t := by
              intro t kt
              refine pre39 t ?_
              refine o_ifN X0 hx hby at_100 ((if0 _ _).trans (feq hc211).1) (o_iload X0 hx hby at_103 rfl (o_goto X0 hx hby at_105 (pc := 105) (pc' := 117) (by decide) (by decide) ?_))
              exact kt
            exact join43 i15 ⟨_, hi15⟩ pre215
        by_cases hc216 : i27 = (0 : Int32)
        · skip
          subst hc216
          obtain ⟨i217, hi217⟩ : ∃ z, z = ((p2.toUInt32 >>> ((8 : Int32) &&& 31).toUInt32).toInt32) := ⟨_, rfl⟩
          obtain ⟨i218, hi218⟩ : ∃ z, z = (i217 &&& (255 : Int32)) := ⟨_, rfl⟩
          have pre219 : ∀ t, Steps p.tables e below (s₁.setTop (mkF m 92 #[vI p1, vI p2, vI p3, vI 1, vI 1, vI i11, vI i13, vI i15, vI i22, .unset, .unset, .unset, .unset, .unset, .unset, .unset] [(.int i218)])) t → Steps p.tables e below EN t := by
            intro t kt
            refine pre28 t ?_
            refine o_ifY X0 hx hby at_75 (pc := 75) (pc' := 83) (by decide +kernel) (by decide) (by decide) (o_iloadN X0 hx hby at_83 rfl (o_bipush X0 hx hby at_84 (x := 8) rfl (o_iushr X0 hx hby at_86 (z := i217) hi217.symm (o_sipush X0 hx hby at_87 (x := 255) rfl (o_iand X0 hx hby at_90 (z := i218) hi218.symm (o_i2c X0 hx hby at_91 (z := i218) (own_i2c255 hi218) ?_))))))
            exact kt
          exact join32 i218 ⟨_, hi218⟩ pre219
        · skip
          have pre220 : ∀ t, Steps p.tables e below (s₁.setTop (mkF m 92 #[vI p1, vI p2, vI p3, vI 1, vI 1, vI i11, vI i13, vI i15, vI i22, .unset, .unset, .unset, .unset, .unset, .unset, .unset] [(.int i13)])) t → Steps p.tables e below EN t := by
            intro t kt
            refine pre28 t ?_
            refine o_ifN X0 hx hby at_75 ((if0 _ _).trans (feq hc216).1) (o_iload X0 hx hby at_78 rfl (o_goto X0 hx hby at_80 (pc := 80) (pc' := 92) (by decide) (by decide) ?_))
            exact kt
          exact join32 i13 ⟨_, hi13⟩ pre220
      by_cases hc221 : i17 = (0 : Int32)
      · skip
        subst hc221
        obtain ⟨i222, hi222⟩ : ∃ z, z = (p2 &&& (255 : Int32)) := ⟨_, rfl⟩
        have pre223 : ∀ t, Steps p.tables e below (s₁.setTop (mkF m 68 #[vI p1, vI p2, vI p3, vI 1, vI 1, vI i11, vI i13, vI i15, .unset, .unset, .unset, .unset, .unset, .unset, .unset, .unset] [(.int i222)])) t → Steps p.tables e below EN t := by
          intro t kt
          refine pre18 t ?_
          refine o_ifY X0 hx hby at_54 (pc := 54) (pc' := 62) (by decide +kernel) (by decide) (by decide) (o_iloadN X0 hx hby at_62 rfl (o_sipush X0 hx hby at_63 (x := 255) rfl (o_iand X0 hx hby at_66 (z := i222) hi222.symm (o_i2c X0 hx hby at_67 (z := i222) (own_i2c255 hi222) ?_))))
          exact kt
        exact join21 i222 ⟨_, hi222⟩ pre223
      · skip
        have pre224 : ∀ t, Steps p.tables e below (s₁.setTop (mkF m 68 #[vI p1, vI p2, vI p3, vI 1, vI 1, vI i11, vI i13, vI i15, .unset, .unset, .unset, .unset, .unset, .unset, .unset, .unset] [(.int i11)])) t → Steps p.tables e below EN t := by
          intro t kt
          refine pre18 t ?_
          refine o_ifN X0 hx hby at_54 ((if0 _ _).trans (feq hc221).1) (o_iload X0 hx hby at_57 rfl (o_goto X0 hx hby at_59 (pc := 59) (pc' := 68) (by decide) (by decide) ?_))
          exact kt
        exact join21 i11 ⟨_, hi11⟩ pre224
    · skip
      obtain ⟨i225, hi225⟩ : ∃ z, z = (p1 &&& (255 : Int32)) := ⟨_, rfl⟩
      obtain ⟨i226, hi226⟩ : ∃ z, z = ((p1.toUInt32 >>> ((8 : Int32) &&& 31).toUInt32).toInt32) := ⟨_, rfl⟩
      obtain ⟨i227, hi227⟩ : ∃ z, z = (i226 &&& (255 : Int32)) := ⟨_, rfl⟩
      obtain ⟨i228, hi228⟩ : ∃ z, z = ((p1.toUInt32 >>> ((16 : Int32) &&& 31).toUInt32).toInt32) := ⟨_, rfl⟩
      obtain ⟨i229, hi229⟩ : ∃ z, z = (i228 &&& (255 : Int32)) := ⟨_, rfl⟩
      obtain ⟨i230, hi230⟩ : ∃ z, z = ((p3.toUInt32 >>> ((4 : Int32) &&& 31).toUInt32).toInt32) := ⟨_, rfl⟩
      obtain ⟨i231, hi231⟩ : ∃ z, z = (i230 &&& (1 : Int32)) := ⟨_, rfl⟩
      have pre232 : ∀ t, Steps p.tables e below (s₁.setTop (mkF m 54 #[vI p1, vI p2, vI p3, vI 1, vI 2, vI i225, vI i227, vI i229, .unset, .unset, .unset, .unset, .unset, .unset, .unset, .unset] [(.int i231)])) t → Steps p.tables e below EN t := by
        intro t kt
        refine pre10 t ?_
        refine o_irem X0 hx hby at_15 (by decide +kernel : ¬ ((3 : Int32) = (0 : Int32))) (z := (1 : Int32)) hq9 (o_iadd X0 hx hby at_16 (z := (2 : Int32)) (by decide +kernel) (o_istore X0 hx hby at_17 (Ls' := #[vI p1, vI p2, vI p3, vI 1, vI 2, .unset, .unset, .unset, .unset, .unset, .unset, .unset, .unset, .unset, .unset, .unset]) rfl (o_iloadN X0 hx hby at_19 rfl (o_sipush X0 hx hby at_20 (x := 255) rfl (o_iand X0 hx hby at_23 (z := i225) hi225.symm (o_i2c X0 hx hby at_24 (z := i225) (own_i2c255 hi225) (o_istore X0 hx hby at_25 (Ls' := #[vI p1, vI p2, vI p3, vI 1, vI 2, vI i225, .unset, .unset, .unset, .unset, .unset, .unset, .unset, .unset, .unset, .unset]) rfl (o_iloadN X0 hx hby at_27 rfl (o_bipush X0 hx hby at_28 (x := 8) rfl (o_iushr X0 hx hby at_30 (z := i226) hi226.symm (o_sipush X0 hx hby at_31 (x := 255) rfl (o_iand X0 hx hby at_34 (z := i227) hi227.symm (o_i2c X0 hx hby at_35 (z := i227) (own_i2c255 hi227) (o_istore X0 hx hby at_36 (Ls' := #[vI p1, vI p2, vI p3, vI 1, vI 2, vI i225, vI i227, .unset, .unset, .unset, .unset, .unset, .unset, .unset, .unset, .unset]) rfl (o_iloadN X0 hx hby at_38 rfl (o_bipush X0 hx hby at_39 (x := 16) rfl (o_iushr X0 hx hby at_41 (z := i228) hi228.symm (o_sipush X0 hx hby at_42 (x := 255) rfl (o_iand X0 hx hby at_45 (z := i229) hi229.symm (o_i2c X0 hx hby at_46 (z := i229) (own_i2c255 hi229) (o_istore X0 hx hby at_47 (Ls' := #[vI p1, vI p2, vI p3, vI 1, vI 2, vI i225, vI i227, vI i229, .unset, .unset, .unset, .unset, .unset, .unset, .unset, .unset]) rfl (o_iloadN X0 hx hby at_49 rfl (o_iconst X0 hx hby at_50 (x := 4) rfl (o_iushr X0 hx hby at_51 (z := i230) hi230.symm (o_iconst X0 hx hby at_52 (x := 1) rfl (o_iand X0 hx hby at_53 (z := i231) hi231.symm ?_))))))))))))))))))))))))))
        exact kt
      have join235 : ∀ (i236 : Int32), (∃ y : Int32, i236 = (y &&& (255 : Int32))) → (∀ t, Steps p.tables e below (s₁.setTop (mkF m 68 #[vI p1, vI p2, vI p3, vI 1, vI 2, vI i225, vI i227, vI i229, .unset, .unset, .unset, .unset, .unset, .unset, .unset, .unset] [(.int i236)])) t → Steps p.tables e below EN t) → False := by
        rintro i236 ⟨x238, hp237⟩ pre239
        obtain ⟨i240, hi240⟩ : ∃ z, z = ((p3.toUInt32 >>> ((5 : Int32) &&& 31).toUInt32).toInt32) := ⟨_, rfl⟩
        obtain ⟨i241, hi241⟩ : ∃ z, z = (i240 &&& (1 : Int32)) := ⟨_, rfl⟩
        have pre242 : ∀ t, Steps p.tables e below (s₁.setTop (mkF m 75 #[vI p1, vI p2, vI p3, vI 1, vI 2, vI i225, vI i227, vI i229, vI i236, .unset, .unset, .unset, .unset, .unset, .unset, .unset] [(.int i241)])) t → Steps p.tables e below EN t := by
          intro t kt
          refine pre239 t ?_
          refine o_istore X0 hx hby at_68 (Ls' := #[vI p1, vI p2, vI p3, vI 1, vI 2, vI i225, vI i227, vI i229, vI i236, .unset, .unset, .unset, .unset, .unset, .unset, .unset]) rfl (o_iloadN X0 hx hby at_70 rfl (o_iconst X0 hx hby at_71 (x := 5) rfl (o_iushr X0 hx hby at_72 (z := i240) hi240.symm (o_iconst X0 hx hby at_73 (x := 1) rfl (o_iand X0 hx hby at_74 (z := i241) hi241.symm ?_)))))
          exact kt
        have join246 : ∀ (i247 : Int32), (∃ y : Int32, i247 = (y &&& (255 : Int32))) → (∀ t, Steps p.tables e below (s₁.setTop (mkF m 92 #[vI p1, vI p2, vI p3, vI 1, vI 2, vI i225, vI i227, vI i229, vI i236, .unset, .unset, .unset, .unset, .unset, .unset, .unset] [(.int i247)])) t → Steps p.tables e below EN t) → False := by
          rintro i247 ⟨x249, hp248⟩ pre250
          obtain ⟨i251, hi251⟩ : ∃ z, z = ((p3.toUInt32 >>> ((6 : Int32) &&& 31).toUInt32).toInt32) := ⟨_, rfl⟩
          obtain ⟨i252, hi252⟩ : ∃ z, z = (i251 &&& (1 : Int32)) := ⟨_, rfl⟩
          have pre253 : ∀ t, Steps p.tables e below (s₁.setTop (mkF m 100 #[vI p1, vI p2, vI p3, vI 1, vI 2, vI i225, vI i227, vI i229, vI i236, vI i247, .unset, .unset, .unset, .unset, .unset, .unset] [(.int i252)])) t → Steps p.tables e below EN t := by
            intro t kt
            refine pre250 t ?_
            refine o_istore X0 hx hby at_92 (Ls' := #[vI p1, vI p2, vI p3, vI 1, vI 2, vI i225, vI i227, vI i229, vI i236, vI i247, .unset, .unset, .unset, .unset, .unset, .unset]) rfl (o_iloadN X0 hx hby at_94 rfl (o_bipush X0 hx hby at_95 (x := 6) rfl (o_iushr X0 hx hby at_97 (z := i251) hi251.symm (o_iconst X0 hx hby at_98 (x := 1) rfl (o_iand X0 hx hby at_99 (z := i252) hi252.symm ?_)))))
            exact kt
          have join257 : ∀ (i258 : Int32), (∃ y : Int32, i258 = (y &&& (255 : Int32))) → (∀ t, Steps p.tables e below (s₁.setTop (mkF m 117 #[vI p1, vI p2, vI p3, vI 1, vI 2, vI i225, vI i227, vI i229, vI i236, vI i247, .unset, .unset, .unset, .unset, .unset, .unset] [(.int i258)])) t → Steps p.tables e below EN t) → False := by
            rintro i258 ⟨x260, hp259⟩ pre261
            obtain ⟨T262, h262, X262, e262, E262, A262, D262, -, st262⟩ := newO X0 hx hZ hown (ww0 hw) (ww1 hw) (ww2 hw) e0 (g := (mkF m 119 #[vI p1, vI p2, vI p3, vI 1, vI 2, vI i225, vI i227, vI i229, vI i236, vI i247, vI i258, .unset, .unset, .unset, .unset, .unset] [])) rfl (hb hby at_119) (by decide) (by decide)
            obtain ⟨b262, g262⟩ : ∃ z, z = h0.size := ⟨_, rfl⟩
            rw [← g262] at A262 D262 st262
            have O262 : Old Z n0 h262 := O0.ext E262
            have bd_b262 : h0.size ≤ b262 := Nat.le_of_eq g262.symm
            have g_b262 : n0 ≤ b262 := Nat.le_trans (own_z O0) bd_b262
            have sz_b262 : h0.size ≤ b262 := Nat.le_trans (Nat.le_refl _) bd_b262
            have lt_b262 : b262 < h262.size := A262.lt
            have D262_31 : Fld Z h262 b262 C_0 "coder" "B" (.int 0) := D262 (Or.inr (ww31 hw)) (ty := .byte) (by decide)
            have D262_33 : Fld Z h262 b262 C_0 "value" "[B" .null := D262 (Or.inr (ww33 hw)) (ty := (.array .byte)) (by decide)
            obtain ⟨_, T263, L263, X263, hQ263, st263⟩ := own_cS X262 hx hZ hown (ww3 hw) (ww4 hw) (ww5 hw) (ww6 hw) (rm1_2 l Z a0 hw i225 i227 i229 h262 n0 O262) e262 pd_0 hml (hb hby at_130) (Ls := #[vI p1, vI p2, vI p3, vI 1, vI 2, vI i225, vI i227, vI i229, vI i236, vI i247, vI i258, .unset, .unset, .unset, .unset, .unset]) (W := 2) (argsL := [(.int 1), (.int i225), (.int i227), (.int i229)]) (rest := [(.ref b262), (.ref b262)])
            obtain ⟨i264, b265, k266, u267, rfl, u269, u270, u271, Ku272, u273, u274⟩ := hQ263
            have Ou272 : Old Z n0 T263.heap := O262.keep Ku272 all0
            have g_b265 : n0 ≤ b265 := Nat.le_trans (own_z O262) u270
            have sz_b265 : h0.size ≤ b265 := Nat.le_trans E262.1 u270
            have N263 := Fr.app N0 u269
            have pre275 : ∀ t, Steps p.tables e below (T263.setTop (mkF m 133 #[vI p1, vI p2, vI p3, vI 1, vI 2, vI i225, vI i227, vI i229, vI i236, vI i247, vI i258, .unset, .unset, .unset, .unset, .unset] [(.ref b265), (.ref b262), (.ref b262)])) t → Steps p.tables e below EN t := by
              intro t kt
              refine pre261 t ?_
              refine o_istore X0 hx hby at_117 (Ls' := #[vI p1, vI p2, vI p3, vI 1, vI 2, vI i225, vI i227, vI i229, vI i236, vI i247, vI i258, .unset, .unset, .unset, .unset, .unset]) rfl (st262 _ (o_dup X262 hx hby at_122 rfl (o_iloadN X262 hx hby at_123 rfl (o_iload X262 hx hby at_124 rfl (o_iload X262 hx hby at_126 rfl (o_iload X262 hx hby at_128 rfl (st263 _ ?_)))))))
              exact kt
            obtain rfl : i225 = i264 := (u267.trans (own_nar255 hi225)).symm
            have f276 : Exa Z T263.heap b262 C_0 := (A262.keep Ku272)
            have f277 : Fld Z T263.heap b262 C_0 "coder" "B" (.int 0) := (D262_31.keep Ku272 nin0)
            have f278 : Fld Z T263.heap b262 C_0 "value" "[B" .null := (D262_33.keep Ku272 nin0)
            obtain ⟨_, T279, L279, X279, hQ279, st279⟩ := own_cI X263 hx hZ hown (ww8 hw) (ww9 hw) (ww2 hw) (ww10 hw) (rm2_3 l Z a0 hw b262 b265 i225 k266 p62 T263.heap n0 Ou272 u274 S_63 hk64 (own_lt255 hi225) f276 f277 f278 g_b262 (own_t lt_b262 Ku272.1)) rfl pd_5 hml (hb hby at_133) (Ls := #[vI p1, vI p2, vI p3, vI 1, vI 2, vI i225, vI i227, vI i229, vI i236, vI i247, vI i258, .unset, .unset, .unset, .unset, .unset]) (W := 1) (argsL := [(.ref b265)]) (rest := [(.ref b262)]) (b := b262)
            obtain ⟨i280, b281, k282, u283, rfl, u285, u286, u287, Ku288, u289, u290, u291, u292, u293⟩ := hQ279
            have Ou288 : Old Z n0 T279.heap := Ou272.keep Ku288 (allS g_b262 all0)
            have g_b281 : n0 ≤ b281 := Nat.le_trans (own_z Ou272) u286
            have sz_b281 : h0.size ≤ b281 := Nat.le_trans (Nat.le_trans E262.1 Ku272.1) u286
            have N279 := Fr.app N263 u285
            obtain ⟨T294, h294, X294, e294, E294, A294, D294, -, st294⟩ := newO X279 hx hZ hown (ww0 hw) (ww1 hw) (ww2 hw) rfl (g := (mkF m 138 #[vI p1, vI p2, vI p3, vI 1, vI 2, vI i225, vI i227, vI i229, vI i236, vI i247, vI i258, vR b262, .unset, .unset, .unset, .unset] [])) rfl (hb hby at_138) (by decide) (by decide)
            obtain ⟨b294, g294⟩ : ∃ z, z = T279.heap.size := ⟨_, rfl⟩
            rw [← g294] at A294 D294 st294
            have O294 : Old Z n0 h294 := Ou288.ext E294
            have bd_b294 : T279.heap.size ≤ b294 := Nat.le_of_eq g294.symm
            have g_b294 : n0 ≤ b294 := Nat.le_trans (own_z Ou288) bd_b294
            have sz_b294 : h0.size ≤ b294 := Nat.le_trans (Nat.le_trans (Nat.le_trans E262.1 Ku272.1) Ku288.1) bd_b294
            have lt_b294 : b294 < h294.size := A294.lt
            have D294_31 : Fld Z h294 b294 C_0 "coder" "B" (.int 0) := D294 (Or.inr (ww31 hw)) (ty := .byte) (by decide)
            have D294_33 : Fld Z h294 b294 C_0 "value" "[B" .null := D294 (Or.inr (ww33 hw)) (ty := (.array .byte)) (by decide)
            obtain ⟨_, T295, L295, X295, hQ295, st295⟩ := own_cS X294 hx hZ hown (ww3 hw) (ww4 hw) (ww5 hw) (ww6 hw) (rm1_30 l Z a0 hw i236 i247 i258 h294 n0 O294) e294 pd_0 hml (hb hby at_150) (Ls := #[vI p1, vI p2, vI p3, vI 1, vI 2, vI i225, vI i227, vI i229, vI i236, vI i247, vI i258, vR b262, .unset, .unset, .unset, .unset]) (W := 2) (argsL := [(.int 2), (.int i236), (.int i247), (.int i258)]) (rest := [(.ref b294), (.ref b294)])
            obtain ⟨i296, i297, b298, k299, u300, u301, rfl, u303, u304, u305, Ku306, u307, u308⟩ := hQ295
            have Ou306 : Old Z n0 T295.heap := O294.keep Ku306 all0
            have g_b298 : n0 ≤ b298 := Nat.le_trans (own_z O294) u304
            have sz_b298 : h0.size ≤ b298 := Nat.le_trans (Nat.le_trans (Nat.le_trans (Nat.le_trans E262.1 Ku272.1) Ku288.1) E294.1) u304
            have N295 := Fr.app N279 u303
            have pre309 : ∀ t, Steps p.tables e below (T295.setTop (mkF m 153 #[vI p1, vI p2, vI p3, vI 1, vI 2, vI i225, vI i227, vI i229, vI i236, vI i247, vI i258, vR b262, .unset, .unset, .unset, .unset] [(.ref b298), (.ref b294), (.ref b294)])) t → Steps p.tables e below EN t := by
              intro t kt
              refine pre275 t ?_
              refine st279 _ (o_astore X279 hx hby at_136 rfl (Ls' := #[vI p1, vI p2, vI p3, vI 1, vI 2, vI i225, vI i227, vI i229, vI i236, vI i247, vI i258, vR b262, .unset, .unset, .unset, .unset]) rfl (st294 _ (o_dup X294 hx hby at_141 rfl (o_iload X294 hx hby at_142 rfl (o_iload X294 hx hby at_144 rfl (o_iload X294 hx hby at_146 rfl (o_iload X294 hx hby at_148 rfl (st295 _ ?_))))))))
              exact kt
            obtain rfl : i236 = i297 := (u300.trans (own_nar255 hp237)).symm
            obtain rfl : i247 = i296 := (u301.trans (own_nar255 hp248)).symm
            have f310 : Exa Z T295.heap b294 C_0 := (A294.keep Ku306)
            have f311 : Fld Z T295.heap b294 C_0 "coder" "B" (.int 0) := (D294_31.keep Ku306 nin0)
            have f312 : Fld Z T295.heap b294 C_0 "value" "[B" .null := (D294_33.keep Ku306 nin0)
            obtain ⟨_, T313, L313, X313, hQ313, st313⟩ := own_cI X295 hx hZ hown (ww8 hw) (ww9 hw) (ww2 hw) (ww10 hw) (rm2_31 l Z a0 hw b294 b298 i236 i247 k299 p62 T295.heap n0 Ou306 u308 S_63 hk64 (own_lt255 hp237) (own_lt255 hp248) f310 f311 f312 u305 g_b294 (own_t lt_b294 Ku306.1)) rfl pd_5 hml (hb hby at_153) (Ls := #[vI p1, vI p2, vI p3, vI 1, vI 2, vI i225, vI i227, vI i229, vI i236, vI i247, vI i258, vR b262, .unset, .unset, .unset, .unset]) (W := 1) (argsL := [(.ref b298)]) (rest := [(.ref b294)]) (b := b294)
            obtain ⟨i314, i315, b316, k317, u318, u319, rfl, u321, u322, u323, Ku324, u325, u326, u327, u328, u329⟩ := hQ313
            have Ou324 : Old Z n0 T313.heap := Ou306.keep Ku324 (allS g_b294 all0)
            have g_b316 : n0 ≤ b316 := Nat.le_trans (own_z Ou306) u322
            have sz_b316 : h0.size ≤ b316 := Nat.le_trans (Nat.le_trans (Nat.le_trans (Nat.le_trans (Nat.le_trans E262.1 Ku272.1) Ku288.1) E294.1) Ku306.1) u322
            have N313 := Fr.app N295 u321
            obtain ⟨T330, h330, X330, e330, E330, A330, D330, -, st330⟩ := newO X313 hx hZ hown (ww34 hw) (ww35 hw) (ww36 hw) rfl (g := (mkF m 158 #[vI p1, vI p2, vI p3, vI 1, vI 2, vI i225, vI i227, vI i229, vI i236, vI i247, vI i258, vR b262, vR b294, .unset, .unset, .unset] [])) rfl (hb hby at_158) (by decide) (by decide)
            obtain ⟨b330, g330⟩ : ∃ z, z = T313.heap.size := ⟨_, rfl⟩
            rw [← g330] at A330 D330 st330
            have O330 : Old Z n0 h330 := Ou324.ext E330
            have bd_b330 : T313.heap.size ≤ b330 := Nat.le_of_eq g330.symm
            have g_b330 : n0 ≤ b330 := Nat.le_trans (own_z Ou324) bd_b330
            have sz_b330 : h0.size ≤ b330 := Nat.le_trans (Nat.le_trans (Nat.le_trans (Nat.le_trans (Nat.le_trans (Nat.le_trans E262.1 Ku272.1) Ku288.1) E294.1) Ku306.1) Ku324.1) bd_b330
            have lt_b330 : b330 < h330.size := A330.lt
            have D330_92 : Fld Z h330 b330 C_1 "text" C_2 .null := D330 (Or.inr (ww92 hw)) (ty := (.object "java/lang/String")) (by decide)
            have f331 : Exa Z h330 b262 C_0 := (Exa.ext E330 (((Exa.ext E294 u289).keep Ku306).keep Ku324))
            have f332 : Fld Z h330 b262 C_0 "value" "[B" (.ref b281) := (Fld.ext E330 (((Fld.ext E294 u291).keep Ku306 nin0).keep Ku324 (ninS (own_n (own_t (own_t lt_b262 Ku272.1) Ku288.1) bd_b294) nin0)))
            have f333 : Arv Z h330 b281 k282 .byte (1 : Int32) [(.int i280)] (.int (0 : Int32)) := ((((u293.ext E294).keep Ku306 nin0).keep Ku324 (ninS (own_n u287 bd_b294) nin0)).ext E330)
            have f334 : Fld Z h330 b262 C_0 "coder" "B" (.int 0) := (Fld.ext E330 (((Fld.ext E294 u290).keep Ku306 nin0).keep Ku324 (ninS (own_n (own_t (own_t lt_b262 Ku272.1) Ku288.1) bd_b294) nin0)))
            obtain ⟨_, T335, L335, X335, hS335, hZ335, hown335, hQ335, st335⟩ := own_cIW (s := s) (vm0 := s.vm) X330 hx hZ hown hS0 (Nat.le_trans (Nat.le_trans (Nat.le_trans (Nat.le_trans (Nat.le_trans (Nat.le_trans (Nat.le_trans Y0 E262.1) Ku272.1) Ku288.1) E294.1) Ku306.1) Ku324.1) E330.1) (ww37 hw) (ww38 hw) (ww36 hw) (ww39 hw) (rm8_8 l Z a0 hw b330 b262 b281 i280 k282 p62 va116 h330 n0 O330 f331 f332 f333 S_63 hk64 f334 S_117 ir_va116 A330 D330_92 g_b330) e330 pd_17 hml (hb hby at_164) (Ls := #[vI p1, vI p2, vI p3, vI 1, vI 2, vI i225, vI i227, vI i229, vI i236, vI i247, vI i258, vR b262, vR b294, .unset, .unset, .unset]) (W := 1) (argsL := [(.ref b262)]) (rest := [(.ref b330)]) (b := b330)
            obtain ⟨rfl, u337, Ku338, u339, u340⟩ := hQ335
            have Ou338 : Old Z n0 T335.heap := O330.keep Ku338 (allS g_b330 all0)
            have N335 := Fr.app N313 u337
            obtain ⟨T341, h341, X341, e341, E341, A341, D341, -, st341⟩ := newO X335 hx hZ335 hown335 (ww34 hw) (ww35 hw) (ww36 hw) rfl (g := (mkF m 169 #[vI p1, vI p2, vI p3, vI 1, vI 2, vI i225, vI i227, vI i229, vI i236, vI i247, vI i258, vR b262, vR b294, vR b330, .unset, .unset] [])) rfl (hb hby at_169) (by decide) (by decide)
            obtain ⟨b341, g341⟩ : ∃ z, z = T335.heap.size := ⟨_, rfl⟩
            rw [← g341] at A341 D341 st341
            have O341 : Old Z n0 h341 := Ou338.ext E341
            have bd_b341 : T335.heap.size ≤ b341 := Nat.le_of_eq g341.symm
            have g_b341 : n0 ≤ b341 := Nat.le_trans (own_z Ou338) bd_b341
            have sz_b341 : h0.size ≤ b341 := Nat.le_trans (Nat.le_trans (Nat.le_trans (Nat.le_trans (Nat.le_trans (Nat.le_trans (Nat.le_trans (Nat.le_trans E262.1 Ku272.1) Ku288.1) E294.1) Ku306.1) Ku324.1) E330.1) Ku338.1) bd_b341
            have lt_b341 : b341 < h341.size := A341.lt
            have D341_92 : Fld Z h341 b341 C_1 "text" C_2 .null := D341 (Or.inr (ww92 hw)) (ty := (.object "java/lang/String")) (by decide)
            have f342 : Exa Z h341 b294 C_0 := (Exa.ext E341 ((Exa.ext E330 u325).keep Ku338))
            have f343 : Fld Z h341 b294 C_0 "value" "[B" (.ref b316) := (Fld.ext E341 ((Fld.ext E330 u327).keep Ku338 (ninS (own_n (own_t (own_t lt_b294 Ku306.1) Ku324.1) bd_b330) nin0)))
            have f344 : Arv Z h341 b316 k317 .byte (2 : Int32) [(.int i315), (.int i314)] (.int (0 : Int32)) := (((u329.ext E330).keep Ku338 (ninS (own_n u323 bd_b330) nin0)).ext E341)
            have f345 : Fld Z h341 b294 C_0 "coder" "B" (.int 0) := (Fld.ext E341 ((Fld.ext E330 u326).keep Ku338 (ninS (own_n (own_t (own_t lt_b294 Ku306.1) Ku324.1) bd_b330) nin0)))
            obtain ⟨_, T346, L346, X346, hS346, hZ346, hown346, hQ346, st346⟩ := own_cIW (s := s) (vm0 := T335.vm) X341 hx hZ335 hown335 hS335 (Nat.le_trans (Nat.le_refl _) E341.1) (ww37 hw) (ww38 hw) (ww36 hw) (ww39 hw) (rm8_36 l Z a0 hw b341 b294 b316 i315 i314 k317 p62 va116 h341 n0 O341 f342 f343 f344 S_63 hk64 f345 S_117 ir_va116 A341 D341_92 g_b341) e341 pd_17 hml (hb hby at_175) (Ls := #[vI p1, vI p2, vI p3, vI 1, vI 2, vI i225, vI i227, vI i229, vI i236, vI i247, vI i258, vR b262, vR b294, vR b330, .unset, .unset]) (W := 1) (argsL := [(.ref b294)]) (rest := [(.ref b341)]) (b := b341)
            obtain ⟨rfl, u348, Ku349, u350, u351⟩ := hQ346
            have Ou349 : Old Z n0 T346.heap := O341.keep Ku349 (allS g_b341 all0)
            have N346 := Fr.app N335 u348
            have f352 : Fld Z T346.heap b330 C_1 "text" C_2 (.ref b262) := ((Fld.ext E341 u340).keep Ku349 (ninS (own_n (own_t lt_b330 Ku338.1) bd_b341) nin0))
            have f353 : Exa Z T346.heap b262 C_0 := ((Exa.ext E341 (f331.keep Ku338)).keep Ku349)
            have f354 : Exa Z T346.heap b294 C_0 := (f342.keep Ku349)
            have ne355 : b262 ≠ b330 := (own_n (own_t (own_t (own_t (own_t (own_t lt_b262 Ku272.1) Ku288.1) E294.1) Ku306.1) Ku324.1) bd_b330)
            have ne356 : b262 ≠ b341 := (own_n (own_t (own_t (own_t (own_t (own_t (own_t (own_t lt_b262 Ku272.1) Ku288.1) E294.1) Ku306.1) Ku324.1) E330.1) Ku338.1) bd_b341)
            have f357 : Fld Z T346.heap b262 C_0 "coder" "B" (.int 0) := ((Fld.ext E341 (f334.keep Ku338 (ninS ne355 nin0))).keep Ku349 (ninS ne356 nin0))
            have ne358 : b294 ≠ b341 := (own_n (own_t (own_t (own_t (own_t lt_b294 Ku306.1) Ku324.1) E330.1) Ku338.1) bd_b341)
            have f359 : Fld Z T346.heap b294 C_0 "coder" "B" (.int 0) := (f345.keep Ku349 (ninS ne358 nin0))
            have f360 : Fld Z T346.heap b262 C_0 "value" "[B" (.ref b281) := ((Fld.ext E341 (f332.keep Ku338 (ninS ne355 nin0))).keep Ku349 (ninS ne356 nin0))
            have f361 : Fld Z T346.heap b294 C_0 "value" "[B" (.ref b316) := (f343.keep Ku349 (ninS ne358 nin0))
            have ne362 : b281 ≠ b330 := (own_n (own_t (own_t (own_t u287 E294.1) Ku306.1) Ku324.1) bd_b330)
            have ne363 : b281 ≠ b341 := (own_n (own_t (own_t (own_t (own_t (own_t u287 E294.1) Ku306.1) Ku324.1) E330.1) Ku338.1) bd_b341)
            have f364 : Arv Z T346.heap b281 k282 .byte (1 : Int32) [(.int i280)] (.int (0 : Int32)) := (((f333.keep Ku338 (ninS ne362 nin0)).ext E341).keep Ku349 (ninS ne363 nin0))
            have f365 : Arv Z T346.heap b316 k317 .byte (2 : Int32) [(.int i315), (.int i314)] (.int (0 : Int32)) := (f344.keep Ku349 (ninS (own_n (own_t (own_t u323 E330.1) Ku338.1) bd_b341) nin0))
            have f367 : Exa Z T346.heap b330 C_1 := ((Exa.ext E341 u339).keep Ku349)
            obtain ⟨_, T366, L366, X366, hQ366, st366⟩ := own_cV X346 hx hZ346 hown346 (ww93 hw) (ww94 hw) (notFace_of_selects (args := #[]) (mvT hZ346 (ww96 hw))) (ww96 hw) (ww95 hw) (ww36 hw) (ww97 hw) f367 (rm20_49 l Z a0 hw b330 b341 b262 b294 p62 b281 b316 i280 k282 i315 i314 k317 T346.heap n0 Ou349 (own_n (own_t lt_b330 Ku338.1) bd_b341) u350 f352 u351 f353 (own_n (own_t (own_t lt_b262 Ku272.1) Ku288.1) bd_b294) f354 S_63 hk64 f357 f359 f360 f361 f364 f365) rfl pd_19 hml (hb hby at_228) (Ls := #[vI p1, vI p2, vI p3, vI 1, vI 2, vI i225, vI i227, vI i229, vI i236, vI i247, vI i258, vR b262, vR b294, vR b330, vR b341, vI 0]) (W := 0) (argsL := [(.ref b341)]) (rest := [])
            obtain ⟨rfl, u369, u370⟩ := hQ366
            have N366 := Fr.app N346 u369
            obtain ⟨_, T371, L371, X371, hQ371, st371⟩ := own_cV X366 hx hZ346 hown346 (ww93 hw) (ww94 hw) (notFace_of_selects (args := #[]) (mvT hZ346 (ww96 hw))) (ww96 hw) (ww95 hw) (ww36 hw) (ww97 hw) u350 (rm20_52 l Z a0 hw b341 b330 b294 b262 p62 b316 b281 i315 i314 k317 i280 k282 T346.heap n0 Ou349 (Ne.symm (own_n (own_t lt_b330 Ku338.1) bd_b341)) f367 u351 f352 f354 (Ne.symm (own_n (own_t (own_t lt_b262 Ku272.1) Ku288.1) bd_b294)) f353 S_63 hk64 f359 f357 f361 f360 f365 f364) u370 pd_19 hml (hb hby at_240) (Ls := #[vI p1, vI p2, vI p3, vI 1, vI 2, vI i225, vI i227, vI i229, vI i236, vI i247, vI i258, vR b262, vR b294, vR b330, vR b341, vI 0]) (W := 0) (argsL := [(.ref b330)]) (rest := [])
            obtain ⟨rfl, u373, u374⟩ := hQ371
            have N371 := Fr.app N366 u373
            obtain ⟨_, T375, L375, X375, hQ375, st375⟩ := own_cV X371 hx hZ346 hown346 (ww93 hw) (ww94 hw) (notFace_of_selects (args := #[]) (mvT hZ346 (ww96 hw))) (ww96 hw) (ww95 hw) (ww36 hw) (ww97 hw) f367 (rm20_24 l Z a0 hw b330 T346.heap n0 Ou349) u374 pd_19 hml (hb hby at_252) (Ls := #[vI p1, vI p2, vI p3, vI 1, vI 2, vI i225, vI i227, vI i229, vI i236, vI i247, vI i258, vR b262, vR b294, vR b330, vR b341, vI 0]) (W := 0) (argsL := [(.ref b330)]) (rest := [])
            obtain ⟨rfl, u377, u378⟩ := hQ375
            have N375 := Fr.app N371 u377
            obtain ⟨_, T379, L379, X379, hQ379, st379⟩ := own_cV X375 hx hZ346 hown346 (ww93 hw) (ww94 hw) (notFace_of_selects (args := #[]) (mvT hZ346 (ww96 hw))) (ww96 hw) (ww95 hw) (ww36 hw) (ww97 hw) f367 (rm20_25 l Z a0 hw b330 T346.heap n0 Ou349) u378 pd_19 hml (hb hby at_261) (Ls := #[vI p1, vI p2, vI p3, vI 1, vI 2, vI i225, vI i227, vI i229, vI i236, vI i247, vI i258, vR b262, vR b294, vR b330, vR b341, vI 0]) (W := 0) (argsL := [.null]) (rest := [])
            obtain ⟨rfl, u381, u382⟩ := hQ379
            have N379 := Fr.app N375 u381
            obtain ⟨_, T383, L383, X383, hQ383, st383⟩ := own_cV X379 hx hZ346 hown346 (ww93 hw) (ww94 hw) (notFace_of_selects (args := #[]) (mvT hZ346 (ww96 hw))) (ww96 hw) (ww95 hw) (ww36 hw) (ww97 hw) f367 (rm20_26 l Z a0 hw b330 b262 T346.heap n0 Ou349 (Ne.symm ne355) f353) u382 pd_19 hml (hb hby at_271) (Ls := #[vI p1, vI p2, vI p3, vI 1, vI 2, vI i225, vI i227, vI i229, vI i236, vI i247, vI i258, vR b262, vR b294, vR b330, vR b341, vI 0]) (W := 0) (argsL := [(.ref b262)]) (rest := [])
            obtain ⟨rfl, u385, u386⟩ := hQ383
            have N383 := Fr.app N379 u385
            refine fin (some (.int 1)) _ _ _ _ T346.vm _ X383 hS346 (by rw [u386]; exact (Nat.le_refl _)) nofun (fun fs hr => pre309 _ ?_) (own_atH u386 ?_) (by decide) (by decide)
            · refine st313 _ (o_astore X313 hx hby at_156 rfl (Ls' := #[vI p1, vI p2, vI p3, vI 1, vI 2, vI i225, vI i227, vI i229, vI i236, vI i247, vI i258, vR b262, vR b294, .unset, .unset, .unset]) rfl (st330 _ (o_dup X330 hx hby at_161 rfl (o_aload X330 hx hby at_162 rfl rfl (st335 _ (o_astore X335 hx hby at_167 rfl (Ls' := #[vI p1, vI p2, vI p3, vI 1, vI 2, vI i225, vI i227, vI i229, vI i236, vI i247, vI i258, vR b262, vR b294, vR b330, .unset, .unset]) rfl (st341 _ (o_dup X341 hx hby at_172 rfl (o_aload X341 hx hby at_173 rfl rfl (st346 _ (o_astore X346 hx hby at_178 rfl (Ls' := #[vI p1, vI p2, vI p3, vI 1, vI 2, vI i225, vI i227, vI i229, vI i236, vI i247, vI i258, vR b262, vR b294, vR b330, vR b341, .unset]) rfl (o_iloadN X346 hx hby at_180 rfl (o_iload X346 hx hby at_181 rfl (o_icmpY X346 hx hby at_183 (pc := 183) (pc' := 221) (by decide +kernel) (by decide) (by decide) (o_iconst X346 hx hby at_221 (x := 0) rfl (o_istore X346 hx hby at_222 (Ls' := #[vI p1, vI p2, vI p3, vI 1, vI 2, vI i225, vI i227, vI i229, vI i236, vI i247, vI i258, vR b262, vR b294, vR b330, vR b341, vI 0]) rfl (o_aload X346 hx hby at_224 rfl rfl (o_aload X346 hx hby at_226 rfl rfl (st366 _ (o_iload X366 hx hby at_231 rfl (o_icmpN X366 hx hby at_233 (by decide +kernel) (o_aload X366 hx hby at_236 rfl rfl (o_aload X366 hx hby at_238 rfl rfl (st371 _ (o_iload X371 hx hby at_243 rfl (o_icmpN X371 hx hby at_245 (by decide +kernel) (o_aload X371 hx hby at_248 rfl rfl (o_aload X371 hx hby at_250 rfl rfl (st375 _ (o_ifN X375 hx hby at_255 (by decide +kernel) (o_aload X375 hx hby at_258 rfl rfl (o_null X375 hx hby at_260 (st379 _ (o_ifN X379 hx hby at_264 (by decide +kernel) (o_aload X379 hx hby at_267 rfl rfl (o_aload X379 hx hby at_269 rfl rfl (st383 _ (o_ifN X383 hx hby at_274 (by decide +kernel) (o_iconst X383 hx hby at_277 (x := 1) rfl ?_)))))))))))))))))))))))))))))))))))))))
              refine o_goto X383 hx hby at_278 (pc := 278) (pc' := 282) (by decide) (by decide) ?_
              exact retN X383 hx (t := .boolean) hret (by simp) (hb hby at_282) hr
            · exact ⟨rfl, N383⟩
          by_cases hc387 : i252 = (0 : Int32)
          · skip
            subst hc387
            obtain ⟨i388, hi388⟩ : ∃ z, z = ((p2.toUInt32 >>> ((16 : Int32) &&& 31).toUInt32).toInt32) := ⟨_, rfl⟩
            obtain ⟨i389, hi389⟩ : ∃ z, z = (i388 &&& (255 : Int32)) := ⟨_, rfl⟩
            have pre390 : ∀ t, Steps p.tables e below (s₁.setTop (mkF m 117 #[vI p1, vI p2, vI p3, vI 1, vI 2, vI i225, vI i227, vI i229, vI i236, vI i247, .unset, .unset, .unset, .unset, .unset, .unset] [(.int i389)])) t → Steps p.tables e below EN t := by
              intro t kt
              refine pre253 t ?_
              refine o_ifY X0 hx hby at_100 (pc := 100) (pc' := 108) (by decide +kernel) (by decide) (by decide) (o_iloadN X0 hx hby at_108 rfl (o_bipush X0 hx hby at_109 (x := 16) rfl (o_iushr X0 hx hby at_111 (z := i388) hi388.symm (o_sipush X0 hx hby at_112 (x := 255) rfl (o_iand X0 hx hby at_115 (z := i389) hi389.symm (o_i2c X0 hx hby at_116 (z := i389) (own_i2c255 hi389) ?_))))))
              exact kt
            exact join257 i389 ⟨_, hi389⟩ pre390
          · skip
            have pre391 : ∀ t, Steps p.tables e below (s₁.setTop (mkF m 117 #[vI p1, vI p2, vI p3, vI 1, vI 2, vI i225, vI i227, vI i229, vI i236, vI i247, .unset, .unset, .unset, .unset, .unset, .unset] [(.int i229)])) t → Steps p.tables e below EN t := by
              intro t kt
              refine pre253 t ?_
              refine o_ifN X0 hx hby at_100 ((if0 _ _).trans (feq hc387).1) (o_iload X0 hx hby at_103 rfl (o_goto X0 hx hby at_105 (pc := 105) (pc' := 117) (by decide) (by decide) ?_))
              exact kt
            exact join257 i229 ⟨_, hi229⟩ pre391
        by_cases hc392 : i241 = (0 : Int32)
        · skip
          subst hc392
          obtain ⟨i393, hi393⟩ : ∃ z, z = ((p2.toUInt32 >>> ((8 : Int32) &&& 31).toUInt32).toInt32) := ⟨_, rfl⟩
          obtain ⟨i394, hi394⟩ : ∃ z, z = (i393 &&& (255 : Int32)) := ⟨_, rfl⟩
          have pre395 : ∀ t, Steps p.tables e below (s₁.setTop (mkF m 92 #[vI p1, vI p2, vI p3, vI 1, vI 2, vI i225, vI i227, vI i229, vI i236, .unset, .unset, .unset, .unset, .unset, .unset, .unset] [(.int i394)])) t → Steps p.tables e below EN t := by
            intro t kt
            refine pre242 t ?_
            refine o_ifY X0 hx hby at_75 (pc := 75) (pc' := 83) (by decide +kernel) (by decide) (by decide) (o_iloadN X0 hx hby at_83 rfl (o_bipush X0 hx hby at_84 (x := 8) rfl (o_iushr X0 hx hby at_86 (z := i393) hi393.symm (o_sipush X0 hx hby at_87 (x := 255) rfl (o_iand X0 hx hby at_90 (z := i394) hi394.symm (o_i2c X0 hx hby at_91 (z := i394) (own_i2c255 hi394) ?_))))))
            exact kt
          exact join246 i394 ⟨_, hi394⟩ pre395
        · skip
          have pre396 : ∀ t, Steps p.tables e below (s₁.setTop (mkF m 92 #[vI p1, vI p2, vI p3, vI 1, vI 2, vI i225, vI i227, vI i229, vI i236, .unset, .unset, .unset, .unset, .unset, .unset, .unset] [(.int i227)])) t → Steps p.tables e below EN t := by
            intro t kt
            refine pre242 t ?_
            refine o_ifN X0 hx hby at_75 ((if0 _ _).trans (feq hc392).1) (o_iload X0 hx hby at_78 rfl (o_goto X0 hx hby at_80 (pc := 80) (pc' := 92) (by decide) (by decide) ?_))
            exact kt
          exact join246 i227 ⟨_, hi227⟩ pre396
      by_cases hc397 : i231 = (0 : Int32)
      · skip
        subst hc397
        obtain ⟨i398, hi398⟩ : ∃ z, z = (p2 &&& (255 : Int32)) := ⟨_, rfl⟩
        have pre399 : ∀ t, Steps p.tables e below (s₁.setTop (mkF m 68 #[vI p1, vI p2, vI p3, vI 1, vI 2, vI i225, vI i227, vI i229, .unset, .unset, .unset, .unset, .unset, .unset, .unset, .unset] [(.int i398)])) t → Steps p.tables e below EN t := by
          intro t kt
          refine pre232 t ?_
          refine o_ifY X0 hx hby at_54 (pc := 54) (pc' := 62) (by decide +kernel) (by decide) (by decide) (o_iloadN X0 hx hby at_62 rfl (o_sipush X0 hx hby at_63 (x := 255) rfl (o_iand X0 hx hby at_66 (z := i398) hi398.symm (o_i2c X0 hx hby at_67 (z := i398) (own_i2c255 hi398) ?_))))
          exact kt
        exact join235 i398 ⟨_, hi398⟩ pre399
      · skip
        have pre400 : ∀ t, Steps p.tables e below (s₁.setTop (mkF m 68 #[vI p1, vI p2, vI p3, vI 1, vI 2, vI i225, vI i227, vI i229, .unset, .unset, .unset, .unset, .unset, .unset, .unset, .unset] [(.int i225)])) t → Steps p.tables e below EN t := by
          intro t kt
          refine pre232 t ?_
          refine o_ifN X0 hx hby at_54 ((if0 _ _).trans (feq hc397).1) (o_iload X0 hx hby at_57 rfl (o_goto X0 hx hby at_59 (pc := 59) (pc' := 68) (by decide) (by decide) ?_))
          exact kt
        exact join235 i225 ⟨_, hi225⟩ pre400
    · skip
      obtain ⟨i401, hi401⟩ : ∃ z, z = (p1 &&& (255 : Int32)) := ⟨_, rfl⟩
      obtain ⟨i402, hi402⟩ : ∃ z, z = ((p1.toUInt32 >>> ((8 : Int32) &&& 31).toUInt32).toInt32) := ⟨_, rfl⟩
      obtain ⟨i403, hi403⟩ : ∃ z, z = (i402 &&& (255 : Int32)) := ⟨_, rfl⟩
      obtain ⟨i404, hi404⟩ : ∃ z, z = ((p1.toUInt32 >>> ((16 : Int32) &&& 31).toUInt32).toInt32) := ⟨_, rfl⟩
      obtain ⟨i405, hi405⟩ : ∃ z, z = (i404 &&& (255 : Int32)) := ⟨_, rfl⟩
      obtain ⟨i406, hi406⟩ : ∃ z, z = ((p3.toUInt32 >>> ((4 : Int32) &&& 31).toUInt32).toInt32) := ⟨_, rfl⟩
      obtain ⟨i407, hi407⟩ : ∃ z, z = (i406 &&& (1 : Int32)) := ⟨_, rfl⟩
      have pre408 : ∀ t, Steps p.tables e below (s₁.setTop (mkF m 54 #[vI p1, vI p2, vI p3, vI 1, vI 3, vI i401, vI i403, vI i405, .unset, .unset, .unset, .unset, .unset, .unset, .unset, .unset] [(.int i407)])) t → Steps p.tables e below EN t := by
        intro t kt
        refine pre10 t ?_
        refine o_irem X0 hx hby at_15 (by decide +kernel : ¬ ((3 : Int32) = (0 : Int32))) (z := (2 : Int32)) hq9 (o_iadd X0 hx hby at_16 (z := (3 : Int32)) (by decide +kernel) (o_istore X0 hx hby at_17 (Ls' := #[vI p1, vI p2, vI p3, vI 1, vI 3, .unset, .unset, .unset, .unset, .unset, .unset, .unset, .unset, .unset, .unset, .unset]) rfl (o_iloadN X0 hx hby at_19 rfl (o_sipush X0 hx hby at_20 (x := 255) rfl (o_iand X0 hx hby at_23 (z := i401) hi401.symm (o_i2c X0 hx hby at_24 (z := i401) (own_i2c255 hi401) (o_istore X0 hx hby at_25 (Ls' := #[vI p1, vI p2, vI p3, vI 1, vI 3, vI i401, .unset, .unset, .unset, .unset, .unset, .unset, .unset, .unset, .unset, .unset]) rfl (o_iloadN X0 hx hby at_27 rfl (o_bipush X0 hx hby at_28 (x := 8) rfl (o_iushr X0 hx hby at_30 (z := i402) hi402.symm (o_sipush X0 hx hby at_31 (x := 255) rfl (o_iand X0 hx hby at_34 (z := i403) hi403.symm (o_i2c X0 hx hby at_35 (z := i403) (own_i2c255 hi403) (o_istore X0 hx hby at_36 (Ls' := #[vI p1, vI p2, vI p3, vI 1, vI 3, vI i401, vI i403, .unset, .unset, .unset, .unset, .unset, .unset, .unset, .unset, .unset]) rfl (o_iloadN X0 hx hby at_38 rfl (o_bipush X0 hx hby at_39 (x := 16) rfl (o_iushr X0 hx hby at_41 (z := i404) hi404.symm (o_sipush X0 hx hby at_42 (x := 255) rfl (o_iand X0 hx hby at_45 (z := i405) hi405.symm (o_i2c X0 hx hby at_46 (z := i405) (own_i2c255 hi405) (o_istore X0 hx hby at_47 (Ls' := #[vI p1, vI p2, vI p3, vI 1, vI 3, vI i401, vI i403, vI i405, .unset, .unset, .unset, .unset, .unset, .unset, .unset, .unset]) rfl (o_iloadN X0 hx hby at_49 rfl (o_iconst X0 hx hby at_50 (x := 4) rfl (o_iushr X0 hx hby at_51 (z := i406) hi406.symm (o_iconst X0 hx hby at_52 (x := 1) rfl (o_iand X0 hx hby at_53 (z := i407) hi407.symm ?_))))))))))))))))))))))))))
        exact kt
      have join411 : ∀ (i412 : Int32), (∃ y : Int32, i412 = (y &&& (255 : Int32))) → (∀ t, Steps p.tables e below (s₁.setTop (mkF m 68 #[vI p1, vI p2, vI p3, vI 1, vI 3, vI i401, vI i403, vI i405, .unset, .unset, .unset, .unset, .unset, .unset, .unset, .unset] [(.int i412)])) t → Steps p.tables e below EN t) → False := by
        rintro i412 ⟨x414, hp413⟩ pre415
        obtain ⟨i416, hi416⟩ : ∃ z, z = ((p3.toUInt32 >>> ((5 : Int32) &&& 31).toUInt32).toInt32) := ⟨_, rfl⟩
        obtain ⟨i417, hi417⟩ : ∃ z, z = (i416 &&& (1 : Int32)) := ⟨_, rfl⟩
        have pre418 : ∀ t, Steps p.tables e below (s₁.setTop (mkF m 75 #[vI p1, vI p2, vI p3, vI 1, vI 3, vI i401, vI i403, vI i405, vI i412, .unset, .unset, .unset, .unset, .unset, .unset, .unset] [(.int i417)])) t → Steps p.tables e below EN t := by
          intro t kt
          refine pre415 t ?_
          refine o_istore X0 hx hby at_68 (Ls' := #[vI p1, vI p2, vI p3, vI 1, vI 3, vI i401, vI i403, vI i405, vI i412, .unset, .unset, .unset, .unset, .unset, .unset, .unset]) rfl (o_iloadN X0 hx hby at_70 rfl (o_iconst X0 hx hby at_71 (x := 5) rfl (o_iushr X0 hx hby at_72 (z := i416) hi416.symm (o_iconst X0 hx hby at_73 (x := 1) rfl (o_iand X0 hx hby at_74 (z := i417) hi417.symm ?_)))))
          exact kt
        have join422 : ∀ (i423 : Int32), (∃ y : Int32, i423 = (y &&& (255 : Int32))) → (∀ t, Steps p.tables e below (s₁.setTop (mkF m 92 #[vI p1, vI p2, vI p3, vI 1, vI 3, vI i401, vI i403, vI i405, vI i412, .unset, .unset, .unset, .unset, .unset, .unset, .unset] [(.int i423)])) t → Steps p.tables e below EN t) → False := by
          rintro i423 ⟨x425, hp424⟩ pre426
          obtain ⟨i427, hi427⟩ : ∃ z, z = ((p3.toUInt32 >>> ((6 : Int32) &&& 31).toUInt32).toInt32) := ⟨_, rfl⟩
          obtain ⟨i428, hi428⟩ : ∃ z, z = (i427 &&& (1 : Int32)) := ⟨_, rfl⟩
          have pre429 : ∀ t, Steps p.tables e below (s₁.setTop (mkF m 100 #[vI p1, vI p2, vI p3, vI 1, vI 3, vI i401, vI i403, vI i405, vI i412, vI i423, .unset, .unset, .unset, .unset, .unset, .unset] [(.int i428)])) t → Steps p.tables e below EN t := by
            intro t kt
            refine pre426 t ?_
            refine o_istore X0 hx hby at_92 (Ls' := #[vI p1, vI p2, vI p3, vI 1, vI 3, vI i401, vI i403, vI i405, vI i412, vI i423, .unset, .unset, .unset, .unset, .unset, .unset]) rfl (o_iloadN X0 hx hby at_94 rfl (o_bipush X0 hx hby at_95 (x := 6) rfl (o_iushr X0 hx hby at_97 (z := i427) hi427.symm (o_iconst X0 hx hby at_98 (x := 1) rfl (o_iand X0 hx hby at_99 (z := i428) hi428.symm ?_)))))
            exact kt
          have join433 : ∀ (i434 : Int32), (∃ y : Int32, i434 = (y &&& (255 : Int32))) → (∀ t, Steps p.tables e below (s₁.setTop (mkF m 117 #[vI p1, vI p2, vI p3, vI 1, vI 3, vI i401, vI i403, vI i405, vI i412, vI i423, .unset, .unset, .unset, .unset, .unset, .unset] [(.int i434)])) t → Steps p.tables e below EN t) → False := by
            rintro i434 ⟨x436, hp435⟩ pre437
            obtain ⟨T438, h438, X438, e438, E438, A438, D438, -, st438⟩ := newO X0 hx hZ hown (ww0 hw) (ww1 hw) (ww2 hw) e0 (g := (mkF m 119 #[vI p1, vI p2, vI p3, vI 1, vI 3, vI i401, vI i403, vI i405, vI i412, vI i423, vI i434, .unset, .unset, .unset, .unset, .unset] [])) rfl (hb hby at_119) (by decide) (by decide)
            obtain ⟨b438, g438⟩ : ∃ z, z = h0.size := ⟨_, rfl⟩
            rw [← g438] at A438 D438 st438
            have O438 : Old Z n0 h438 := O0.ext E438
            have bd_b438 : h0.size ≤ b438 := Nat.le_of_eq g438.symm
            have g_b438 : n0 ≤ b438 := Nat.le_trans (own_z O0) bd_b438
            have sz_b438 : h0.size ≤ b438 := Nat.le_trans (Nat.le_refl _) bd_b438
            have lt_b438 : b438 < h438.size := A438.lt
            have D438_31 : Fld Z h438 b438 C_0 "coder" "B" (.int 0) := D438 (Or.inr (ww31 hw)) (ty := .byte) (by decide)
            have D438_33 : Fld Z h438 b438 C_0 "value" "[B" .null := D438 (Or.inr (ww33 hw)) (ty := (.array .byte)) (by decide)
            obtain ⟨_, T439, L439, X439, hQ439, st439⟩ := own_cS X438 hx hZ hown (ww3 hw) (ww4 hw) (ww5 hw) (ww6 hw) (rm1_2 l Z a0 hw i401 i403 i405 h438 n0 O438) e438 pd_0 hml (hb hby at_130) (Ls := #[vI p1, vI p2, vI p3, vI 1, vI 3, vI i401, vI i403, vI i405, vI i412, vI i423, vI i434, .unset, .unset, .unset, .unset, .unset]) (W := 2) (argsL := [(.int 1), (.int i401), (.int i403), (.int i405)]) (rest := [(.ref b438), (.ref b438)])
            obtain ⟨i440, b441, k442, u443, rfl, u445, u446, u447, Ku448, u449, u450⟩ := hQ439
            have Ou448 : Old Z n0 T439.heap := O438.keep Ku448 all0
            have g_b441 : n0 ≤ b441 := Nat.le_trans (own_z O438) u446
            have sz_b441 : h0.size ≤ b441 := Nat.le_trans E438.1 u446
            have N439 := Fr.app N0 u445
            have pre451 : ∀ t, Steps p.tables e below (T439.setTop (mkF m 133 #[vI p1, vI p2, vI p3, vI 1, vI 3, vI i401, vI i403, vI i405, vI i412, vI i423, vI i434, .unset, .unset, .unset, .unset, .unset] [(.ref b441), (.ref b438), (.ref b438)])) t → Steps p.tables e below EN t := by
              intro t kt
              refine pre437 t ?_
              refine o_istore X0 hx hby at_117 (Ls' := #[vI p1, vI p2, vI p3, vI 1, vI 3, vI i401, vI i403, vI i405, vI i412, vI i423, vI i434, .unset, .unset, .unset, .unset, .unset]) rfl (st438 _ (o_dup X438 hx hby at_122 rfl (o_iloadN X438 hx hby at_123 rfl (o_iload X438 hx hby at_124 rfl (o_iload X438 hx hby at_126 rfl (o_iload X438 hx hby at_128 rfl (st439 _ ?_)))))))
              exact kt
            obtain rfl : i401 = i440 := (u443.trans (own_nar255 hi401)).symm
            have f452 : Exa Z T439.heap b438 C_0 := (A438.keep Ku448)
            have f453 : Fld Z T439.heap b438 C_0 "coder" "B" (.int 0) := (D438_31.keep Ku448 nin0)
            have f454 : Fld Z T439.heap b438 C_0 "value" "[B" .null := (D438_33.keep Ku448 nin0)
            obtain ⟨_, T455, L455, X455, hQ455, st455⟩ := own_cI X439 hx hZ hown (ww8 hw) (ww9 hw) (ww2 hw) (ww10 hw) (rm2_3 l Z a0 hw b438 b441 i401 k442 p62 T439.heap n0 Ou448 u450 S_63 hk64 (own_lt255 hi401) f452 f453 f454 g_b438 (own_t lt_b438 Ku448.1)) rfl pd_5 hml (hb hby at_133) (Ls := #[vI p1, vI p2, vI p3, vI 1, vI 3, vI i401, vI i403, vI i405, vI i412, vI i423, vI i434, .unset, .unset, .unset, .unset, .unset]) (W := 1) (argsL := [(.ref b441)]) (rest := [(.ref b438)]) (b := b438)
            obtain ⟨i456, b457, k458, u459, rfl, u461, u462, u463, Ku464, u465, u466, u467, u468, u469⟩ := hQ455
            have Ou464 : Old Z n0 T455.heap := Ou448.keep Ku464 (allS g_b438 all0)
            have g_b457 : n0 ≤ b457 := Nat.le_trans (own_z Ou448) u462
            have sz_b457 : h0.size ≤ b457 := Nat.le_trans (Nat.le_trans E438.1 Ku448.1) u462
            have N455 := Fr.app N439 u461
            obtain ⟨T470, h470, X470, e470, E470, A470, D470, -, st470⟩ := newO X455 hx hZ hown (ww0 hw) (ww1 hw) (ww2 hw) rfl (g := (mkF m 138 #[vI p1, vI p2, vI p3, vI 1, vI 3, vI i401, vI i403, vI i405, vI i412, vI i423, vI i434, vR b438, .unset, .unset, .unset, .unset] [])) rfl (hb hby at_138) (by decide) (by decide)
            obtain ⟨b470, g470⟩ : ∃ z, z = T455.heap.size := ⟨_, rfl⟩
            rw [← g470] at A470 D470 st470
            have O470 : Old Z n0 h470 := Ou464.ext E470
            have bd_b470 : T455.heap.size ≤ b470 := Nat.le_of_eq g470.symm
            have g_b470 : n0 ≤ b470 := Nat.le_trans (own_z Ou464) bd_b470
            have sz_b470 : h0.size ≤ b470 := Nat.le_trans (Nat.le_trans (Nat.le_trans E438.1 Ku448.1) Ku464.1) bd_b470
            have lt_b470 : b470 < h470.size := A470.lt
            have D470_31 : Fld Z h470 b470 C_0 "coder" "B" (.int 0) := D470 (Or.inr (ww31 hw)) (ty := .byte) (by decide)
            have D470_33 : Fld Z h470 b470 C_0 "value" "[B" .null := D470 (Or.inr (ww33 hw)) (ty := (.array .byte)) (by decide)
            obtain ⟨_, T471, L471, X471, hQ471, st471⟩ := own_cS X470 hx hZ hown (ww3 hw) (ww4 hw) (ww5 hw) (ww6 hw) (rm1_55 l Z a0 hw i412 i423 i434 h470 n0 O470) e470 pd_0 hml (hb hby at_150) (Ls := #[vI p1, vI p2, vI p3, vI 1, vI 3, vI i401, vI i403, vI i405, vI i412, vI i423, vI i434, vR b438, .unset, .unset, .unset, .unset]) (W := 2) (argsL := [(.int 3), (.int i412), (.int i423), (.int i434)]) (rest := [(.ref b470), (.ref b470)])
            obtain ⟨i472, i473, i474, b475, k476, u477, u478, u479, rfl, u481, u482, u483, Ku484, u485, u486⟩ := hQ471
            have Ou484 : Old Z n0 T471.heap := O470.keep Ku484 all0
            have g_b475 : n0 ≤ b475 := Nat.le_trans (own_z O470) u482
            have sz_b475 : h0.size ≤ b475 := Nat.le_trans (Nat.le_trans (Nat.le_trans (Nat.le_trans E438.1 Ku448.1) Ku464.1) E470.1) u482
            have N471 := Fr.app N455 u481
            have pre487 : ∀ t, Steps p.tables e below (T471.setTop (mkF m 153 #[vI p1, vI p2, vI p3, vI 1, vI 3, vI i401, vI i403, vI i405, vI i412, vI i423, vI i434, vR b438, .unset, .unset, .unset, .unset] [(.ref b475), (.ref b470), (.ref b470)])) t → Steps p.tables e below EN t := by
              intro t kt
              refine pre451 t ?_
              refine st455 _ (o_astore X455 hx hby at_136 rfl (Ls' := #[vI p1, vI p2, vI p3, vI 1, vI 3, vI i401, vI i403, vI i405, vI i412, vI i423, vI i434, vR b438, .unset, .unset, .unset, .unset]) rfl (st470 _ (o_dup X470 hx hby at_141 rfl (o_iload X470 hx hby at_142 rfl (o_iload X470 hx hby at_144 rfl (o_iload X470 hx hby at_146 rfl (o_iload X470 hx hby at_148 rfl (st471 _ ?_))))))))
              exact kt
            obtain rfl : i412 = i474 := (u477.trans (own_nar255 hp413)).symm
            obtain rfl : i423 = i472 := (u478.trans (own_nar255 hp424)).symm
            obtain rfl : i434 = i473 := (u479.trans (own_nar255 hp435)).symm
            have f488 : Exa Z T471.heap b470 C_0 := (A470.keep Ku484)
            have f489 : Fld Z T471.heap b470 C_0 "coder" "B" (.int 0) := (D470_31.keep Ku484 nin0)
            have f490 : Fld Z T471.heap b470 C_0 "value" "[B" .null := (D470_33.keep Ku484 nin0)
            obtain ⟨_, T491, L491, X491, hQ491, st491⟩ := own_cI X471 hx hZ hown (ww8 hw) (ww9 hw) (ww2 hw) (ww10 hw) (rm2_56 l Z a0 hw b470 b475 i412 i423 i434 k476 p62 T471.heap n0 Ou484 u486 S_63 hk64 (own_lt255 hp413) (own_lt255 hp424) (own_lt255 hp435) f488 f489 f490 u483 g_b470 (own_t lt_b470 Ku484.1)) rfl pd_5 hml (hb hby at_153) (Ls := #[vI p1, vI p2, vI p3, vI 1, vI 3, vI i401, vI i403, vI i405, vI i412, vI i423, vI i434, vR b438, .unset, .unset, .unset, .unset]) (W := 1) (argsL := [(.ref b475)]) (rest := [(.ref b470)]) (b := b470)
            obtain ⟨i492, i493, i494, b495, k496, u497, u498, u499, rfl, u501, u502, u503, Ku504, u505, u506, u507, u508, u509⟩ := hQ491
            have Ou504 : Old Z n0 T491.heap := Ou484.keep Ku504 (allS g_b470 all0)
            have g_b495 : n0 ≤ b495 := Nat.le_trans (own_z Ou484) u502
            have sz_b495 : h0.size ≤ b495 := Nat.le_trans (Nat.le_trans (Nat.le_trans (Nat.le_trans (Nat.le_trans E438.1 Ku448.1) Ku464.1) E470.1) Ku484.1) u502
            have N491 := Fr.app N471 u501
            obtain ⟨T510, h510, X510, e510, E510, A510, D510, -, st510⟩ := newO X491 hx hZ hown (ww34 hw) (ww35 hw) (ww36 hw) rfl (g := (mkF m 158 #[vI p1, vI p2, vI p3, vI 1, vI 3, vI i401, vI i403, vI i405, vI i412, vI i423, vI i434, vR b438, vR b470, .unset, .unset, .unset] [])) rfl (hb hby at_158) (by decide) (by decide)
            obtain ⟨b510, g510⟩ : ∃ z, z = T491.heap.size := ⟨_, rfl⟩
            rw [← g510] at A510 D510 st510
            have O510 : Old Z n0 h510 := Ou504.ext E510
            have bd_b510 : T491.heap.size ≤ b510 := Nat.le_of_eq g510.symm
            have g_b510 : n0 ≤ b510 := Nat.le_trans (own_z Ou504) bd_b510
            have sz_b510 : h0.size ≤ b510 := Nat.le_trans (Nat.le_trans (Nat.le_trans (Nat.le_trans (Nat.le_trans (Nat.le_trans E438.1 Ku448.1) Ku464.1) E470.1) Ku484.1) Ku504.1) bd_b510
            have lt_b510 : b510 < h510.size := A510.lt
            have D510_92 : Fld Z h510 b510 C_1 "text" C_2 .null := D510 (Or.inr (ww92 hw)) (ty := (.object "java/lang/String")) (by decide)
            have f511 : Exa Z h510 b438 C_0 := (Exa.ext E510 (((Exa.ext E470 u465).keep Ku484).keep Ku504))
            have f512 : Fld Z h510 b438 C_0 "value" "[B" (.ref b457) := (Fld.ext E510 (((Fld.ext E470 u467).keep Ku484 nin0).keep Ku504 (ninS (own_n (own_t (own_t lt_b438 Ku448.1) Ku464.1) bd_b470) nin0)))
            have f513 : Arv Z h510 b457 k458 .byte (1 : Int32) [(.int i456)] (.int (0 : Int32)) := ((((u469.ext E470).keep Ku484 nin0).keep Ku504 (ninS (own_n u463 bd_b470) nin0)).ext E510)
            have f514 : Fld Z h510 b438 C_0 "coder" "B" (.int 0) := (Fld.ext E510 (((Fld.ext E470 u466).keep Ku484 nin0).keep Ku504 (ninS (own_n (own_t (own_t lt_b438 Ku448.1) Ku464.1) bd_b470) nin0)))
            obtain ⟨_, T515, L515, X515, hS515, hZ515, hown515, hQ515, st515⟩ := own_cIW (s := s) (vm0 := s.vm) X510 hx hZ hown hS0 (Nat.le_trans (Nat.le_trans (Nat.le_trans (Nat.le_trans (Nat.le_trans (Nat.le_trans (Nat.le_trans Y0 E438.1) Ku448.1) Ku464.1) E470.1) Ku484.1) Ku504.1) E510.1) (ww37 hw) (ww38 hw) (ww36 hw) (ww39 hw) (rm8_8 l Z a0 hw b510 b438 b457 i456 k458 p62 va116 h510 n0 O510 f511 f512 f513 S_63 hk64 f514 S_117 ir_va116 A510 D510_92 g_b510) e510 pd_17 hml (hb hby at_164) (Ls := #[vI p1, vI p2, vI p3, vI 1, vI 3, vI i401, vI i403, vI i405, vI i412, vI i423, vI i434, vR b438, vR b470, .unset, .unset, .unset]) (W := 1) (argsL := [(.ref b438)]) (rest := [(.ref b510)]) (b := b510)
            obtain ⟨rfl, u517, Ku518, u519, u520⟩ := hQ515
            have Ou518 : Old Z n0 T515.heap := O510.keep Ku518 (allS g_b510 all0)
            have N515 := Fr.app N491 u517
            obtain ⟨T521, h521, X521, e521, E521, A521, D521, -, st521⟩ := newO X515 hx hZ515 hown515 (ww34 hw) (ww35 hw) (ww36 hw) rfl (g := (mkF m 169 #[vI p1, vI p2, vI p3, vI 1, vI 3, vI i401, vI i403, vI i405, vI i412, vI i423, vI i434, vR b438, vR b470, vR b510, .unset, .unset] [])) rfl (hb hby at_169) (by decide) (by decide)
            obtain ⟨b521, g521⟩ : ∃ z, z = T515.heap.size := ⟨_, rfl⟩
            rw [← g521] at A521 D521 st521
            have O521 : Old Z n0 h521 := Ou518.ext E521
            have bd_b521 : T515.heap.size ≤ b521 := Nat.le_of_eq g521.symm
            have g_b521 : n0 ≤ b521 := Nat.le_trans (own_z Ou518) bd_b521
            have sz_b521 : h0.size ≤ b521 := Nat.le_trans (Nat.le_trans (Nat.le_trans (Nat.le_trans (Nat.le_trans (Nat.le_trans (Nat.le_trans (Nat.le_trans E438.1 Ku448.1) Ku464.1) E470.1) Ku484.1) Ku504.1) E510.1) Ku518.1) bd_b521
            have lt_b521 : b521 < h521.size := A521.lt
            have D521_92 : Fld Z h521 b521 C_1 "text" C_2 .null := D521 (Or.inr (ww92 hw)) (ty := (.object "java/lang/String")) (by decide)
            have f522 : Exa Z h521 b470 C_0 := (Exa.ext E521 ((Exa.ext E510 u505).keep Ku518))
            have f523 : Fld Z h521 b470 C_0 "value" "[B" (.ref b495) := (Fld.ext E521 ((Fld.ext E510 u507).keep Ku518 (ninS (own_n (own_t (own_t lt_b470 Ku484.1) Ku504.1) bd_b510) nin0)))
            have f524 : Arv Z h521 b495 k496 .byte (3 : Int32) [(.int i492), (.int i493), (.int i494)] (.int (0 : Int32)) := (((u509.ext E510).keep Ku518 (ninS (own_n u503 bd_b510) nin0)).ext E521)
            have f525 : Fld Z h521 b470 C_0 "coder" "B" (.int 0) := (Fld.ext E521 ((Fld.ext E510 u506).keep Ku518 (ninS (own_n (own_t (own_t lt_b470 Ku484.1) Ku504.1) bd_b510) nin0)))
            obtain ⟨_, T526, L526, X526, hS526, hZ526, hown526, hQ526, st526⟩ := own_cIW (s := s) (vm0 := T515.vm) X521 hx hZ515 hown515 hS515 (Nat.le_trans (Nat.le_refl _) E521.1) (ww37 hw) (ww38 hw) (ww36 hw) (ww39 hw) (rm8_61 l Z a0 hw b521 b470 b495 i492 i493 i494 k496 p62 va116 h521 n0 O521 f522 f523 f524 S_63 hk64 f525 S_117 ir_va116 A521 D521_92 g_b521) e521 pd_17 hml (hb hby at_175) (Ls := #[vI p1, vI p2, vI p3, vI 1, vI 3, vI i401, vI i403, vI i405, vI i412, vI i423, vI i434, vR b438, vR b470, vR b510, .unset, .unset]) (W := 1) (argsL := [(.ref b470)]) (rest := [(.ref b521)]) (b := b521)
            obtain ⟨rfl, u528, Ku529, u530, u531⟩ := hQ526
            have Ou529 : Old Z n0 T526.heap := O521.keep Ku529 (allS g_b521 all0)
            have N526 := Fr.app N515 u528
            have f532 : Fld Z T526.heap b510 C_1 "text" C_2 (.ref b438) := ((Fld.ext E521 u520).keep Ku529 (ninS (own_n (own_t lt_b510 Ku518.1) bd_b521) nin0))
            have f533 : Exa Z T526.heap b438 C_0 := ((Exa.ext E521 (f511.keep Ku518)).keep Ku529)
            have f534 : Exa Z T526.heap b470 C_0 := (f522.keep Ku529)
            have ne535 : b438 ≠ b510 := (own_n (own_t (own_t (own_t (own_t (own_t lt_b438 Ku448.1) Ku464.1) E470.1) Ku484.1) Ku504.1) bd_b510)
            have ne536 : b438 ≠ b521 := (own_n (own_t (own_t (own_t (own_t (own_t (own_t (own_t lt_b438 Ku448.1) Ku464.1) E470.1) Ku484.1) Ku504.1) E510.1) Ku518.1) bd_b521)
            have f537 : Fld Z T526.heap b438 C_0 "coder" "B" (.int 0) := ((Fld.ext E521 (f514.keep Ku518 (ninS ne535 nin0))).keep Ku529 (ninS ne536 nin0))
            have ne538 : b470 ≠ b521 := (own_n (own_t (own_t (own_t (own_t lt_b470 Ku484.1) Ku504.1) E510.1) Ku518.1) bd_b521)
            have f539 : Fld Z T526.heap b470 C_0 "coder" "B" (.int 0) := (f525.keep Ku529 (ninS ne538 nin0))
            have f540 : Fld Z T526.heap b438 C_0 "value" "[B" (.ref b457) := ((Fld.ext E521 (f512.keep Ku518 (ninS ne535 nin0))).keep Ku529 (ninS ne536 nin0))
            have f541 : Fld Z T526.heap b470 C_0 "value" "[B" (.ref b495) := (f523.keep Ku529 (ninS ne538 nin0))
            have ne542 : b457 ≠ b510 := (own_n (own_t (own_t (own_t u463 E470.1) Ku484.1) Ku504.1) bd_b510)
            have ne543 : b457 ≠ b521 := (own_n (own_t (own_t (own_t (own_t (own_t u463 E470.1) Ku484.1) Ku504.1) E510.1) Ku518.1) bd_b521)
            have f544 : Arv Z T526.heap b457 k458 .byte (1 : Int32) [(.int i456)] (.int (0 : Int32)) := (((f513.keep Ku518 (ninS ne542 nin0)).ext E521).keep Ku529 (ninS ne543 nin0))
            have f545 : Arv Z T526.heap b495 k496 .byte (3 : Int32) [(.int i492), (.int i493), (.int i494)] (.int (0 : Int32)) := (f524.keep Ku529 (ninS (own_n (own_t (own_t u503 E510.1) Ku518.1) bd_b521) nin0))
            have f547 : Exa Z T526.heap b510 C_1 := ((Exa.ext E521 u519).keep Ku529)
            obtain ⟨_, T546, L546, X546, hQ546, st546⟩ := own_cV X526 hx hZ526 hown526 (ww93 hw) (ww94 hw) (notFace_of_selects (args := #[]) (mvT hZ526 (ww96 hw))) (ww96 hw) (ww95 hw) (ww36 hw) (ww97 hw) f547 (rm20_78 l Z a0 hw b510 b521 b438 b470 p62 b457 b495 i456 k458 i492 i493 i494 k496 T526.heap n0 Ou529 (own_n (own_t lt_b510 Ku518.1) bd_b521) u530 f532 u531 f533 (own_n (own_t (own_t lt_b438 Ku448.1) Ku464.1) bd_b470) f534 S_63 hk64 f537 f539 f540 f541 f544 f545) rfl pd_19 hml (hb hby at_228) (Ls := #[vI p1, vI p2, vI p3, vI 1, vI 3, vI i401, vI i403, vI i405, vI i412, vI i423, vI i434, vR b438, vR b470, vR b510, vR b521, vI 0]) (W := 0) (argsL := [(.ref b521)]) (rest := [])
            obtain ⟨rfl, u549, u550⟩ := hQ546
            have N546 := Fr.app N526 u549
            obtain ⟨_, T551, L551, X551, hQ551, st551⟩ := own_cV X546 hx hZ526 hown526 (ww93 hw) (ww94 hw) (notFace_of_selects (args := #[]) (mvT hZ526 (ww96 hw))) (ww96 hw) (ww95 hw) (ww36 hw) (ww97 hw) u530 (rm20_81 l Z a0 hw b521 b510 b470 b438 p62 b495 b457 i492 i493 i494 k496 i456 k458 T526.heap n0 Ou529 (Ne.symm (own_n (own_t lt_b510 Ku518.1) bd_b521)) f547 u531 f532 f534 (Ne.symm (own_n (own_t (own_t lt_b438 Ku448.1) Ku464.1) bd_b470)) f533 S_63 hk64 f539 f537 f541 f540 f545 f544) u550 pd_19 hml (hb hby at_240) (Ls := #[vI p1, vI p2, vI p3, vI 1, vI 3, vI i401, vI i403, vI i405, vI i412, vI i423, vI i434, vR b438, vR b470, vR b510, vR b521, vI 0]) (W := 0) (argsL := [(.ref b510)]) (rest := [])
            obtain ⟨rfl, u553, u554⟩ := hQ551
            have N551 := Fr.app N546 u553
            obtain ⟨_, T555, L555, X555, hQ555, st555⟩ := own_cV X551 hx hZ526 hown526 (ww93 hw) (ww94 hw) (notFace_of_selects (args := #[]) (mvT hZ526 (ww96 hw))) (ww96 hw) (ww95 hw) (ww36 hw) (ww97 hw) f547 (rm20_24 l Z a0 hw b510 T526.heap n0 Ou529) u554 pd_19 hml (hb hby at_252) (Ls := #[vI p1, vI p2, vI p3, vI 1, vI 3, vI i401, vI i403, vI i405, vI i412, vI i423, vI i434, vR b438, vR b470, vR b510, vR b521, vI 0]) (W := 0) (argsL := [(.ref b510)]) (rest := [])
            obtain ⟨rfl, u557, u558⟩ := hQ555
            have N555 := Fr.app N551 u557
            obtain ⟨_, T559, L559, X559, hQ559, st559⟩ := own_cV X555 hx hZ526 hown526 (ww93 hw) (ww94 hw) (notFace_of_selects (args := #[]) (mvT hZ526 (ww96 hw))) (ww96 hw) (ww95 hw) (ww36 hw) (ww97 hw) f547 (rm20_25 l Z a0 hw b510 T526.heap n0 Ou529) u558 pd_19 hml (hb hby at_261) (Ls := #[vI p1, vI p2, vI p3, vI 1, vI 3, vI i401, vI i403, vI i405, vI i412, vI i423, vI i434, vR b438, vR b470, vR b510, vR b521, vI 0]) (W := 0) (argsL := [.null]) (rest := [])
            obtain ⟨rfl, u561, u562⟩ := hQ559
            have N559 := Fr.app N555 u561
            obtain ⟨_, T563, L563, X563, hQ563, st563⟩ := own_cV X559 hx hZ526 hown526 (ww93 hw) (ww94 hw) (notFace_of_selects (args := #[]) (mvT hZ526 (ww96 hw))) (ww96 hw) (ww95 hw) (ww36 hw) (ww97 hw) f547 (rm20_26 l Z a0 hw b510 b438 T526.heap n0 Ou529 (Ne.symm ne535) f533) u562 pd_19 hml (hb hby at_271) (Ls := #[vI p1, vI p2, vI p3, vI 1, vI 3, vI i401, vI i403, vI i405, vI i412, vI i423, vI i434, vR b438, vR b470, vR b510, vR b521, vI 0]) (W := 0) (argsL := [(.ref b438)]) (rest := [])
            obtain ⟨rfl, u565, u566⟩ := hQ563
            have N563 := Fr.app N559 u565
            refine fin (some (.int 1)) _ _ _ _ T526.vm _ X563 hS526 (by rw [u566]; exact (Nat.le_refl _)) nofun (fun fs hr => pre487 _ ?_) (own_atH u566 ?_) (by decide) (by decide)
            · refine st491 _ (o_astore X491 hx hby at_156 rfl (Ls' := #[vI p1, vI p2, vI p3, vI 1, vI 3, vI i401, vI i403, vI i405, vI i412, vI i423, vI i434, vR b438, vR b470, .unset, .unset, .unset]) rfl (st510 _ (o_dup X510 hx hby at_161 rfl (o_aload X510 hx hby at_162 rfl rfl (st515 _ (o_astore X515 hx hby at_167 rfl (Ls' := #[vI p1, vI p2, vI p3, vI 1, vI 3, vI i401, vI i403, vI i405, vI i412, vI i423, vI i434, vR b438, vR b470, vR b510, .unset, .unset]) rfl (st521 _ (o_dup X521 hx hby at_172 rfl (o_aload X521 hx hby at_173 rfl rfl (st526 _ (o_astore X526 hx hby at_178 rfl (Ls' := #[vI p1, vI p2, vI p3, vI 1, vI 3, vI i401, vI i403, vI i405, vI i412, vI i423, vI i434, vR b438, vR b470, vR b510, vR b521, .unset]) rfl (o_iloadN X526 hx hby at_180 rfl (o_iload X526 hx hby at_181 rfl (o_icmpY X526 hx hby at_183 (pc := 183) (pc' := 221) (by decide +kernel) (by decide) (by decide) (o_iconst X526 hx hby at_221 (x := 0) rfl (o_istore X526 hx hby at_222 (Ls' := #[vI p1, vI p2, vI p3, vI 1, vI 3, vI i401, vI i403, vI i405, vI i412, vI i423, vI i434, vR b438, vR b470, vR b510, vR b521, vI 0]) rfl (o_aload X526 hx hby at_224 rfl rfl (o_aload X526 hx hby at_226 rfl rfl (st546 _ (o_iload X546 hx hby at_231 rfl (o_icmpN X546 hx hby at_233 (by decide +kernel) (o_aload X546 hx hby at_236 rfl rfl (o_aload X546 hx hby at_238 rfl rfl (st551 _ (o_iload X551 hx hby at_243 rfl (o_icmpN X551 hx hby at_245 (by decide +kernel) (o_aload X551 hx hby at_248 rfl rfl (o_aload X551 hx hby at_250 rfl rfl (st555 _ (o_ifN X555 hx hby at_255 (by decide +kernel) (o_aload X555 hx hby at_258 rfl rfl (o_null X555 hx hby at_260 (st559 _ (o_ifN X559 hx hby at_264 (by decide +kernel) (o_aload X559 hx hby at_267 rfl rfl (o_aload X559 hx hby at_269 rfl rfl (st563 _ (o_ifN X563 hx hby at_274 (by decide +kernel) (o_iconst X563 hx hby at_277 (x := 1) rfl ?_)))))))))))))))))))))))))))))))))))))))
              refine o_goto X563 hx hby at_278 (pc := 278) (pc' := 282) (by decide) (by decide) ?_
              exact retN X563 hx (t := .boolean) hret (by simp) (hb hby at_282) hr
            · exact ⟨rfl, N563⟩
          by_cases hc567 : i428 = (0 : Int32)
          · skip
            subst hc567
            obtain ⟨i568, hi568⟩ : ∃ z, z = ((p2.toUInt32 >>> ((16 : Int32) &&& 31).toUInt32).toInt32) := ⟨_, rfl⟩
            obtain ⟨i569, hi569⟩ : ∃ z, z = (i568 &&& (255 : Int32)) := ⟨_, rfl⟩
            have pre570 : ∀ t, Steps p.tables e below (s₁.setTop (mkF m 117 #[vI p1, vI p2, vI p3, vI 1, vI 3, vI i401, vI i403, vI i405, vI i412, vI i423, .unset, .unset, .unset, .unset, .unset, .unset] [(.int i569)])) t → Steps p.tables e below EN t := by
              intro t kt
              refine pre429 t ?_
              refine o_ifY X0 hx hby at_100 (pc := 100) (pc' := 108) (by decide +kernel) (by decide) (by decide) (o_iloadN X0 hx hby at_108 rfl (o_bipush X0 hx hby at_109 (x := 16) rfl (o_iushr X0 hx hby at_111 (z := i568) hi568.symm (o_sipush X0 hx hby at_112 (x := 255) rfl (o_iand X0 hx hby at_115 (z := i569) hi569.symm (o_i2c X0 hx hby at_116 (z := i569) (own_i2c255 hi569) ?_))))))
              exact kt
            exact join433 i569 ⟨_, hi569⟩ pre570
          · skip
            have pre571 : ∀ t, Steps p.tables e below (s₁.setTop (mkF m 117 #[vI p1, vI p2, vI p3, vI 1, vI 3, vI i401, vI i403, vI i405, vI i412, vI i423, .unset, .unset, .unset, .unset, .unset, .unset] [(.int i405)])) t → Steps p.tables e below EN t := by
              intro t kt
              refine pre429 t ?_
              refine o_ifN X0 hx hby at_100 ((if0 _ _).trans (feq hc567).1) (o_iload X0 hx hby at_103 rfl (o_goto X0 hx hby at_105 (pc := 105) (pc' := 117) (by decide) (by decide) ?_))
              exact kt
            exact join433 i405 ⟨_, hi405⟩ pre571
        by_cases hc572 : i417 = (0 : Int32)
        · skip
          subst hc572
          obtain ⟨i573, hi573⟩ : ∃ z, z = ((p2.toUInt32 >>> ((8 : Int32) &&& 31).toUInt32).toInt32) := ⟨_, rfl⟩
          obtain ⟨i574, hi574⟩ : ∃ z, z = (i573 &&& (255 : Int32)) := ⟨_, rfl⟩
          have pre575 : ∀ t, Steps p.tables e below (s₁.setTop (mkF m 92 #[vI p1, vI p2, vI p3, vI 1, vI 3, vI i401, vI i403, vI i405, vI i412, .unset, .unset, .unset, .unset, .unset, .unset, .unset] [(.int i574)])) t → Steps p.tables e below EN t := by
            intro t kt
            refine pre418 t ?_
            refine o_ifY X0 hx hby at_75 (pc := 75) (pc' := 83) (by decide +kernel) (by decide) (by decide) (o_iloadN X0 hx hby at_83 rfl (o_bipush X0 hx hby at_84 (x := 8) rfl (o_iushr X0 hx hby at_86 (z := i573) hi573.symm (o_sipush X0 hx hby at_87 (x := 255) rfl (o_iand X0 hx hby at_90 (z := i574) hi574.symm (o_i2c X0 hx hby at_91 (z := i574) (own_i2c255 hi574) ?_))))))
            exact kt
          exact join422 i574 ⟨_, hi574⟩ pre575
        · skip
          have pre576 : ∀ t, Steps p.tables e below (s₁.setTop (mkF m 92 #[vI p1, vI p2, vI p3, vI 1, vI 3, vI i401, vI i403, vI i405, vI i412, .unset, .unset, .unset, .unset, .unset, .unset, .unset] [(.int i403)])) t → Steps p.tables e below EN t := by
            intro t kt
            refine pre418 t ?_
            refine o_ifN X0 hx hby at_75 ((if0 _ _).trans (feq hc572).1) (o_iload X0 hx hby at_78 rfl (o_goto X0 hx hby at_80 (pc := 80) (pc' := 92) (by decide) (by decide) ?_))
            exact kt
          exact join422 i403 ⟨_, hi403⟩ pre576
      by_cases hc577 : i407 = (0 : Int32)
      · skip
        subst hc577
        obtain ⟨i578, hi578⟩ : ∃ z, z = (p2 &&& (255 : Int32)) := ⟨_, rfl⟩
        have pre579 : ∀ t, Steps p.tables e below (s₁.setTop (mkF m 68 #[vI p1, vI p2, vI p3, vI 1, vI 3, vI i401, vI i403, vI i405, .unset, .unset, .unset, .unset, .unset, .unset, .unset, .unset] [(.int i578)])) t → Steps p.tables e below EN t := by
          intro t kt
          refine pre408 t ?_
          refine o_ifY X0 hx hby at_54 (pc := 54) (pc' := 62) (by decide +kernel) (by decide) (by decide) (o_iloadN X0 hx hby at_62 rfl (o_sipush X0 hx hby at_63 (x := 255) rfl (o_iand X0 hx hby at_66 (z := i578) hi578.symm (o_i2c X0 hx hby at_67 (z := i578) (own_i2c255 hi578) ?_))))
          exact kt
        exact join411 i578 ⟨_, hi578⟩ pre579
      · skip
        have pre580 : ∀ t, Steps p.tables e below (s₁.setTop (mkF m 68 #[vI p1, vI p2, vI p3, vI 1, vI 3, vI i401, vI i403, vI i405, .unset, .unset, .unset, .unset, .unset, .unset, .unset, .unset] [(.int i401)])) t → Steps p.tables e below EN t := by
          intro t kt
          refine pre408 t ?_
          refine o_ifN X0 hx hby at_54 ((if0 _ _).trans (feq hc577).1) (o_iload X0 hx hby at_57 rfl (o_goto X0 hx hby at_59 (pc := 59) (pc' := 68) (by decide) (by decide) ?_))
          exact kt
        exact join411 i401 ⟨_, hi401⟩ pre580
  · skip
    obtain ⟨i581, hi581⟩ : ∃ z, z = ((p3.toUInt32 >>> ((2 : Int32) &&& 31).toUInt32).toInt32) := ⟨_, rfl⟩
    obtain ⟨i582, hi582⟩ : ∃ z, z = (i581 &&& (3 : Int32)) := ⟨_, rfl⟩
    have pre584 : ∀ t, Steps p.tables e below (s₁.setTop (mkF m 15 #[vI p1, vI p2, vI p3, vI 2, .unset, .unset, .unset, .unset, .unset, .unset, .unset, .unset, .unset, .unset, .unset, .unset] [(.int 3), (.int i582), (.int 1)])) t → Steps p.tables e below EN t := by
      intro t kt
      refine pre6 t ?_
      refine o_irem X0 hx hby at_5 (by decide +kernel : ¬ ((3 : Int32) = (0 : Int32))) (z := (1 : Int32)) hq5 (o_iadd X0 hx hby at_6 (z := (2 : Int32)) (by decide +kernel) (o_istoreN X0 hx hby at_7 (Ls' := #[vI p1, vI p2, vI p3, vI 2, .unset, .unset, .unset, .unset, .unset, .unset, .unset, .unset, .unset, .unset, .unset, .unset]) rfl (o_iconst X0 hx hby at_8 (x := 1) rfl (o_iloadN X0 hx hby at_9 rfl (o_iconst X0 hx hby at_10 (x := 2) rfl (o_iushr X0 hx hby at_11 (z := i581) hi581.symm (o_iconst X0 hx hby at_12 (x := 3) rfl (o_iand X0 hx hby at_13 (z := i582) hi582.symm (o_iconst X0 hx hby at_14 (x := 3) rfl ?_)))))))))
      exact kt
    rcases (own_m3 hi582) with hq583 | hq583 | hq583
    · skip
      obtain ⟨i585, hi585⟩ : ∃ z, z = (p1 &&& (255 : Int32)) := ⟨_, rfl⟩
      obtain ⟨i586, hi586⟩ : ∃ z, z = ((p1.toUInt32 >>> ((8 : Int32) &&& 31).toUInt32).toInt32) := ⟨_, rfl⟩
      obtain ⟨i587, hi587⟩ : ∃ z, z = (i586 &&& (255 : Int32)) := ⟨_, rfl⟩
      obtain ⟨i588, hi588⟩ : ∃ z, z = ((p1.toUInt32 >>> ((16 : Int32) &&& 31).toUInt32).toInt32) := ⟨_, rfl⟩
      obtain ⟨i589, hi589⟩ : ∃ z, z = (i588 &&& (255 : Int32)) := ⟨_, rfl⟩
      obtain ⟨i590, hi590⟩ : ∃ z, z = ((p3.toUInt32 >>> ((4 : Int32) &&& 31).toUInt32).toInt32) := ⟨_, rfl⟩
      obtain ⟨i591, hi591⟩ : ∃ z, z = (i590 &&& (1 : Int32)) := ⟨_, rfl⟩
      have pre592 : ∀ t, Steps p.tables e below (s₁.setTop (mkF m 54 #[vI p1, vI p2, vI p3, vI 2, vI 1, vI i585, vI i587, vI i589, .unset, .unset, .unset, .unset, .unset, .unset, .unset, .unset] [(.int i591)])) t → Steps p.tables e below EN t := by
        intro t kt
        refine pre584 t ?_
        refine o_irem X0 hx hby at_15 (by decide +kernel : ¬ ((3 : Int32) = (0 : Int32))) (z := (0 : Int32)) hq583 (o_iadd X0 hx hby at_16 (z := (1 : Int32)) (by decide +kernel) (o_istore X0 hx hby at_17 (Ls' := #[vI p1, vI p2, vI p3, vI 2, vI 1, .unset, .unset, .unset, .unset, .unset, .unset, .unset, .unset, .unset, .unset, .unset]) rfl (o_iloadN X0 hx hby at_19 rfl (o_sipush X0 hx hby at_20 (x := 255) rfl (o_iand X0 hx hby at_23 (z := i585) hi585.symm (o_i2c X0 hx hby at_24 (z := i585) (own_i2c255 hi585) (o_istore X0 hx hby at_25 (Ls' := #[vI p1, vI p2, vI p3, vI 2, vI 1, vI i585, .unset, .unset, .unset, .unset, .unset, .unset, .unset, .unset, .unset, .unset]) rfl (o_iloadN X0 hx hby at_27 rfl (o_bipush X0 hx hby at_28 (x := 8) rfl (o_iushr X0 hx hby at_30 (z := i586) hi586.symm (o_sipush X0 hx hby at_31 (x := 255) rfl (o_iand X0 hx hby at_34 (z := i587) hi587.symm (o_i2c X0 hx hby at_35 (z := i587) (own_i2c255 hi587) (o_istore X0 hx hby at_36 (Ls' := #[vI p1, vI p2, vI p3, vI 2, vI 1, vI i585, vI i587, .unset, .unset, .unset, .unset, .unset, .unset, .unset, .unset, .unset]) rfl (o_iloadN X0 hx hby at_38 rfl (o_bipush X0 hx hby at_39 (x := 16) rfl (o_iushr X0 hx hby at_41 (z := i588) hi588.symm (o_sipush X0 hx hby at_42 (x := 255) rfl (o_iand X0 hx hby at_45 (z := i589) hi589.symm (o_i2c X0 hx hby at_46 (z := i589) (own_i2c255 hi589) (o_istore X0 hx hby at_47 (Ls' := #[vI p1, vI p2, vI p3, vI 2, vI 1, vI i585, vI i587, vI i589, .unset, .unset, .unset, .unset, .unset, .unset, .unset, .unset]) rfl (o_iloadN X0 hx hby at_49 rfl (o_iconst X0 hx hby at_50 (x := 4) rfl (o_iushr X0 hx hby at_51 (z := i590) hi590.symm (o_iconst X0 hx hby at_52 (x := 1) rfl (o_iand X0 hx hby at_53 (z := i591) hi591.symm ?_))))))))))))))))))))))))))
        exact kt
      have join595 : ∀ (i596 : Int32), (∃ y : Int32, i596 = (y &&& (255 : Int32))) → (∀ t, Steps p.tables e below (s₁.setTop (mkF m 68 #[vI p1, vI p2, vI p3, vI 2, vI 1, vI i585, vI i587, vI i589, .unset, .unset, .unset, .unset, .unset, .unset, .unset, .unset] [(.int i596)])) t → Steps p.tables e below EN t) → False := by
        rintro i596 ⟨x598, hp597⟩ pre599
        obtain ⟨i600, hi600⟩ : ∃ z, z = ((p3.toUInt32 >>> ((5 : Int32) &&& 31).toUInt32).toInt32) := ⟨_, rfl⟩
        obtain ⟨i601, hi601⟩ : ∃ z, z = (i600 &&& (1 : Int32)) := ⟨_, rfl⟩
        have pre602 : ∀ t, Steps p.tables e below (s₁.setTop (mkF m 75 #[vI p1, vI p2, vI p3, vI 2, vI 1, vI i585, vI i587, vI i589, vI i596, .unset, .unset, .unset, .unset, .unset, .unset, .unset] [(.int i601)])) t → Steps p.tables e below EN t := by
          intro t kt
          refine pre599 t ?_
          refine o_istore X0 hx hby at_68 (Ls' := #[vI p1, vI p2, vI p3, vI 2, vI 1, vI i585, vI i587, vI i589, vI i596, .unset, .unset, .unset, .unset, .unset, .unset, .unset]) rfl (o_iloadN X0 hx hby at_70 rfl (o_iconst X0 hx hby at_71 (x := 5) rfl (o_iushr X0 hx hby at_72 (z := i600) hi600.symm (o_iconst X0 hx hby at_73 (x := 1) rfl (o_iand X0 hx hby at_74 (z := i601) hi601.symm ?_)))))
          exact kt
        have join606 : ∀ (i607 : Int32), (∃ y : Int32, i607 = (y &&& (255 : Int32))) → (∀ t, Steps p.tables e below (s₁.setTop (mkF m 92 #[vI p1, vI p2, vI p3, vI 2, vI 1, vI i585, vI i587, vI i589, vI i596, .unset, .unset, .unset, .unset, .unset, .unset, .unset] [(.int i607)])) t → Steps p.tables e below EN t) → False := by
          rintro i607 ⟨x609, hp608⟩ pre610
          obtain ⟨i611, hi611⟩ : ∃ z, z = ((p3.toUInt32 >>> ((6 : Int32) &&& 31).toUInt32).toInt32) := ⟨_, rfl⟩
          obtain ⟨i612, hi612⟩ : ∃ z, z = (i611 &&& (1 : Int32)) := ⟨_, rfl⟩
          have pre613 : ∀ t, Steps p.tables e below (s₁.setTop (mkF m 100 #[vI p1, vI p2, vI p3, vI 2, vI 1, vI i585, vI i587, vI i589, vI i596, vI i607, .unset, .unset, .unset, .unset, .unset, .unset] [(.int i612)])) t → Steps p.tables e below EN t := by
            intro t kt
            refine pre610 t ?_
            refine o_istore X0 hx hby at_92 (Ls' := #[vI p1, vI p2, vI p3, vI 2, vI 1, vI i585, vI i587, vI i589, vI i596, vI i607, .unset, .unset, .unset, .unset, .unset, .unset]) rfl (o_iloadN X0 hx hby at_94 rfl (o_bipush X0 hx hby at_95 (x := 6) rfl (o_iushr X0 hx hby at_97 (z := i611) hi611.symm (o_iconst X0 hx hby at_98 (x := 1) rfl (o_iand X0 hx hby at_99 (z := i612) hi612.symm ?_)))))
            exact kt
          have join617 : ∀ (i618 : Int32), (∃ y : Int32, i618 = (y &&& (255 : Int32))) → (∀ t, Steps p.tables e below (s₁.setTop (mkF m 117 #[vI p1, vI p2, vI p3, vI 2, vI 1, vI i585, vI i587, vI i589, vI i596, vI i607, .unset, .unset, .unset, .unset, .unset, .unset] [(.int i618)])) t → Steps p.tables e below EN t) → False := by
            rintro i618 ⟨x620, hp619⟩ pre621
            obtain ⟨T622, h622, X622, e622, E622, A622, D622, -, st622⟩ := newO X0 hx hZ hown (ww0 hw) (ww1 hw) (ww2 hw) e0 (g := (mkF m 119 #[vI p1, vI p2, vI p3, vI 2, vI 1, vI i585, vI i587, vI i589, vI i596, vI i607, vI i618, .unset, .unset, .unset, .unset, .unset] [])) rfl (hb hby at_119) (by decide) (by decide)
            obtain ⟨b622, g622⟩ : ∃ z, z = h0.size := ⟨_, rfl⟩
            rw [← g622] at A622 D622 st622
            have O622 : Old Z n0 h622 := O0.ext E622
            have bd_b622 : h0.size ≤ b622 := Nat.le_of_eq g622.symm
            have g_b622 : n0 ≤ b622 := Nat.le_trans (own_z O0) bd_b622
            have sz_b622 : h0.size ≤ b622 := Nat.le_trans (Nat.le_refl _) bd_b622
            have lt_b622 : b622 < h622.size := A622.lt
            have D622_31 : Fld Z h622 b622 C_0 "coder" "B" (.int 0) := D622 (Or.inr (ww31 hw)) (ty := .byte) (by decide)
            have D622_33 : Fld Z h622 b622 C_0 "value" "[B" .null := D622 (Or.inr (ww33 hw)) (ty := (.array .byte)) (by decide)
            obtain ⟨_, T623, L623, X623, hQ623, st623⟩ := own_cS X622 hx hZ hown (ww3 hw) (ww4 hw) (ww5 hw) (ww6 hw) (rm1_30 l Z a0 hw i585 i587 i589 h622 n0 O622) e622 pd_0 hml (hb hby at_130) (Ls := #[vI p1, vI p2, vI p3, vI 2, vI 1, vI i585, vI i587, vI i589, vI i596, vI i607, vI i618, .unset, .unset, .unset, .unset, .unset]) (W := 2) (argsL := [(.int 2), (.int i585), (.int i587), (.int i589)]) (rest := [(.ref b622), (.ref b622)])
            obtain ⟨i624, i625, b626, k627, u628, u629, rfl, u631, u632, u633, Ku634, u635, u636⟩ := hQ623
            have Ou634 : Old Z n0 T623.heap := O622.keep Ku634 all0
            have g_b626 : n0 ≤ b626 := Nat.le_trans (own_z O622) u632
            have sz_b626 : h0.size ≤ b626 := Nat.le_trans E622.1 u632
            have N623 := Fr.app N0 u631
            have pre637 : ∀ t, Steps p.tables e below (T623.setTop (mkF m 133 #[vI p1, vI p2, vI p3, vI 2, vI 1, vI i585, vI i587, vI i589, vI i596, vI i607, vI i618, .unset, .unset, .unset, .unset, .unset] [(.ref b626), (.ref b622), (.ref b622)])) t → Steps p.tables e below EN t := by
              intro t kt
              refine pre621 t ?_
              refine o_istore X0 hx hby at_117 (Ls' := #[vI p1, vI p2, vI p3, vI 2, vI 1, vI i585, vI i587, vI i589, vI i596, vI i607, vI i618, .unset, .unset, .unset, .unset, .unset]) rfl (st622 _ (o_dup X622 hx hby at_122 rfl (o_iloadN X622 hx hby at_123 rfl (o_iload X622 hx hby at_124 rfl (o_iload X622 hx hby at_126 rfl (o_iload X622 hx hby at_128 rfl (st623 _ ?_)))))))
              exact kt
            obtain rfl : i585 = i625 := (u628.trans (own_nar255 hi585)).symm
            obtain rfl : i587 = i624 := (u629.trans (own_nar255 hi587)).symm
            have f638 : Exa Z T623.heap b622 C_0 := (A622.keep Ku634)
            have f639 : Fld Z T623.heap b622 C_0 "coder" "B" (.int 0) := (D622_31.keep Ku634 nin0)
            have f640 : Fld Z T623.heap b622 C_0 "value" "[B" .null := (D622_33.keep Ku634 nin0)
            obtain ⟨_, T641, L641, X641, hQ641, st641⟩ := own_cI X623 hx hZ hown (ww8 hw) (ww9 hw) (ww2 hw) (ww10 hw) (rm2_31 l Z a0 hw b622 b626 i585 i587 k627 p62 T623.heap n0 Ou634 u636 S_63 hk64 (own_lt255 hi585) (own_lt255 hi587) f638 f639 f640 u633 g_b622 (own_t lt_b622 Ku634.1)) rfl pd_5 hml (hb hby at_133) (Ls := #[vI p1, vI p2, vI p3, vI 2, vI 1, vI i585, vI i587, vI i589, vI i596, vI i607, vI i618, .unset, .unset, .unset, .unset, .unset]) (W := 1) (argsL := [(.ref b626)]) (rest := [(.ref b622)]) (b := b622)
            obtain ⟨i642, i643, b644, k645, u646, u647, rfl, u649, u650, u651, Ku652, u653, u654, u655, u656, u657⟩ := hQ641
            have Ou652 : Old Z n0 T641.heap := Ou634.keep Ku652 (allS g_b622 all0)
            have g_b644 : n0 ≤ b644 := Nat.le_trans (own_z Ou634) u650
            have sz_b644 : h0.size ≤ b644 := Nat.le_trans (Nat.le_trans E622.1 Ku634.1) u650
            have N641 := Fr.app N623 u649
            obtain ⟨T658, h658, X658, e658, E658, A658, D658, -, st658⟩ := newO X641 hx hZ hown (ww0 hw) (ww1 hw) (ww2 hw) rfl (g := (mkF m 138 #[vI p1, vI p2, vI p3, vI 2, vI 1, vI i585, vI i587, vI i589, vI i596, vI i607, vI i618, vR b622, .unset, .unset, .unset, .unset] [])) rfl (hb hby at_138) (by decide) (by decide)
            obtain ⟨b658, g658⟩ : ∃ z, z = T641.heap.size := ⟨_, rfl⟩
            rw [← g658] at A658 D658 st658
            have O658 : Old Z n0 h658 := Ou652.ext E658
            have bd_b658 : T641.heap.size ≤ b658 := Nat.le_of_eq g658.symm
            have g_b658 : n0 ≤ b658 := Nat.le_trans (own_z Ou652) bd_b658
            have sz_b658 : h0.size ≤ b658 := Nat.le_trans (Nat.le_trans (Nat.le_trans E622.1 Ku634.1) Ku652.1) bd_b658
            have lt_b658 : b658 < h658.size := A658.lt
            have D658_31 : Fld Z h658 b658 C_0 "coder" "B" (.int 0) := D658 (Or.inr (ww31 hw)) (ty := .byte) (by decide)
            have D658_33 : Fld Z h658 b658 C_0 "value" "[B" .null := D658 (Or.inr (ww33 hw)) (ty := (.array .byte)) (by decide)
            obtain ⟨_, T659, L659, X659, hQ659, st659⟩ := own_cS X658 hx hZ hown (ww3 hw) (ww4 hw) (ww5 hw) (ww6 hw) (rm1_2 l Z a0 hw i596 i607 i618 h658 n0 O658) e658 pd_0 hml (hb hby at_150) (Ls := #[vI p1, vI p2, vI p3, vI 2, vI 1, vI i585, vI i587, vI i589, vI i596, vI i607, vI i618, vR b622, .unset, .unset, .unset, .unset]) (W := 2) (argsL := [(.int 1), (.int i596), (.int i607), (.int i618)]) (rest := [(.ref b658), (.ref b658)])
            obtain ⟨i660, b661, k662, u663, rfl, u665, u666, u667, Ku668, u669, u670⟩ := hQ659
            have Ou668 : Old Z n0 T659.heap := O658.keep Ku668 all0
            have g_b661 : n0 ≤ b661 := Nat.le_trans (own_z O658) u666
            have sz_b661 : h0.size ≤ b661 := Nat.le_trans (Nat.le_trans (Nat.le_trans (Nat.le_trans E622.1 Ku634.1) Ku652.1) E658.1) u666
            have N659 := Fr.app N641 u665
            have pre671 : ∀ t, Steps p.tables e below (T659.setTop (mkF m 153 #[vI p1, vI p2, vI p3, vI 2, vI 1, vI i585, vI i587, vI i589, vI i596, vI i607, vI i618, vR b622, .unset, .unset, .unset, .unset] [(.ref b661), (.ref b658), (.ref b658)])) t → Steps p.tables e below EN t := by
              intro t kt
              refine pre637 t ?_
              refine st641 _ (o_astore X641 hx hby at_136 rfl (Ls' := #[vI p1, vI p2, vI p3, vI 2, vI 1, vI i585, vI i587, vI i589, vI i596, vI i607, vI i618, vR b622, .unset, .unset, .unset, .unset]) rfl (st658 _ (o_dup X658 hx hby at_141 rfl (o_iload X658 hx hby at_142 rfl (o_iload X658 hx hby at_144 rfl (o_iload X658 hx hby at_146 rfl (o_iload X658 hx hby at_148 rfl (st659 _ ?_))))))))
              exact kt
            obtain rfl : i596 = i660 := (u663.trans (own_nar255 hp597)).symm
            have f672 : Exa Z T659.heap b658 C_0 := (A658.keep Ku668)
            have f673 : Fld Z T659.heap b658 C_0 "coder" "B" (.int 0) := (D658_31.keep Ku668 nin0)
            have f674 : Fld Z T659.heap b658 C_0 "value" "[B" .null := (D658_33.keep Ku668 nin0)
            obtain ⟨_, T675, L675, X675, hQ675, st675⟩ := own_cI X659 hx hZ hown (ww8 hw) (ww9 hw) (ww2 hw) (ww10 hw) (rm2_3 l Z a0 hw b658 b661 i596 k662 p62 T659.heap n0 Ou668 u670 S_63 hk64 (own_lt255 hp597) f672 f673 f674 g_b658 (own_t lt_b658 Ku668.1)) rfl pd_5 hml (hb hby at_153) (Ls := #[vI p1, vI p2, vI p3, vI 2, vI 1, vI i585, vI i587, vI i589, vI i596, vI i607, vI i618, vR b622, .unset, .unset, .unset, .unset]) (W := 1) (argsL := [(.ref b661)]) (rest := [(.ref b658)]) (b := b658)
            obtain ⟨i676, b677, k678, u679, rfl, u681, u682, u683, Ku684, u685, u686, u687, u688, u689⟩ := hQ675
            have Ou684 : Old Z n0 T675.heap := Ou668.keep Ku684 (allS g_b658 all0)
            have g_b677 : n0 ≤ b677 := Nat.le_trans (own_z Ou668) u682
            have sz_b677 : h0.size ≤ b677 := Nat.le_trans (Nat.le_trans (Nat.le_trans (Nat.le_trans (Nat.le_trans E622.1 Ku634.1) Ku652.1) E658.1) Ku668.1) u682
            have N675 := Fr.app N659 u681
            obtain ⟨T690, h690, X690, e690, E690, A690, D690, -, st690⟩ := newO X675 hx hZ hown (ww34 hw) (ww35 hw) (ww36 hw) rfl (g := (mkF m 158 #[vI p1, vI p2, vI p3, vI 2, vI 1, vI i585, vI i587, vI i589, vI i596, vI i607, vI i618, vR b622, vR b658, .unset, .unset, .unset] [])) rfl (hb hby at_158) (by decide) (by decide)
            obtain ⟨b690, g690⟩ : ∃ z, z = T675.heap.size := ⟨_, rfl⟩
            rw [← g690] at A690 D690 st690
            have O690 : Old Z n0 h690 := Ou684.ext E690
            have bd_b690 : T675.heap.size ≤ b690 := Nat.le_of_eq g690.symm
            have g_b690 : n0 ≤ b690 := Nat.le_trans (own_z Ou684) bd_b690
            have sz_b690 : h0.size ≤ b690 := Nat.le_trans (Nat.le_trans (Nat.le_trans (Nat.le_trans (Nat.le_trans (Nat.le_trans E622.1 Ku634.1) Ku652.1) E658.1) Ku668.1) Ku684.1) bd_b690
            have lt_b690 : b690 < h690.size := A690.lt
            have D690_92 : Fld Z h690 b690 C_1 "text" C_2 .null := D690 (Or.inr (ww92 hw)) (ty := (.object "java/lang/String")) (by decide)
            have f691 : Exa Z h690 b622 C_0 := (Exa.ext E690 (((Exa.ext E658 u653).keep Ku668).keep Ku684))
            have f692 : Fld Z h690 b622 C_0 "value" "[B" (.ref b644) := (Fld.ext E690 (((Fld.ext E658 u655).keep Ku668 nin0).keep Ku684 (ninS (own_n (own_t (own_t lt_b622 Ku634.1) Ku652.1) bd_b658) nin0)))
            have f693 : Arv Z h690 b644 k645 .byte (2 : Int32) [(.int i643), (.int i642)] (.int (0 : Int32)) := ((((u657.ext E658).keep Ku668 nin0).keep Ku684 (ninS (own_n u651 bd_b658) nin0)).ext E690)
            have f694 : Fld Z h690 b622 C_0 "coder" "B" (.int 0) := (Fld.ext E690 (((Fld.ext E658 u654).keep Ku668 nin0).keep Ku684 (ninS (own_n (own_t (own_t lt_b622 Ku634.1) Ku652.1) bd_b658) nin0)))
            obtain ⟨_, T695, L695, X695, hS695, hZ695, hown695, hQ695, st695⟩ := own_cIW (s := s) (vm0 := s.vm) X690 hx hZ hown hS0 (Nat.le_trans (Nat.le_trans (Nat.le_trans (Nat.le_trans (Nat.le_trans (Nat.le_trans (Nat.le_trans Y0 E622.1) Ku634.1) Ku652.1) E658.1) Ku668.1) Ku684.1) E690.1) (ww37 hw) (ww38 hw) (ww36 hw) (ww39 hw) (rm8_36 l Z a0 hw b690 b622 b644 i643 i642 k645 p62 va116 h690 n0 O690 f691 f692 f693 S_63 hk64 f694 S_117 ir_va116 A690 D690_92 g_b690) e690 pd_17 hml (hb hby at_164) (Ls := #[vI p1, vI p2, vI p3, vI 2, vI 1, vI i585, vI i587, vI i589, vI i596, vI i607, vI i618, vR b622, vR b658, .unset, .unset, .unset]) (W := 1) (argsL := [(.ref b622)]) (rest := [(.ref b690)]) (b := b690)
            obtain ⟨rfl, u697, Ku698, u699, u700⟩ := hQ695
            have Ou698 : Old Z n0 T695.heap := O690.keep Ku698 (allS g_b690 all0)
            have N695 := Fr.app N675 u697
            obtain ⟨T701, h701, X701, e701, E701, A701, D701, -, st701⟩ := newO X695 hx hZ695 hown695 (ww34 hw) (ww35 hw) (ww36 hw) rfl (g := (mkF m 169 #[vI p1, vI p2, vI p3, vI 2, vI 1, vI i585, vI i587, vI i589, vI i596, vI i607, vI i618, vR b622, vR b658, vR b690, .unset, .unset] [])) rfl (hb hby at_169) (by decide) (by decide)
            obtain ⟨b701, g701⟩ : ∃ z, z = T695.heap.size := ⟨_, rfl⟩
            rw [← g701] at A701 D701 st701
            have O701 : Old Z n0 h701 := Ou698.ext E701
            have bd_b701 : T695.heap.size ≤ b701 := Nat.le_of_eq g701.symm
            have g_b701 : n0 ≤ b701 := Nat.le_trans (own_z Ou698) bd_b701
            have sz_b701 : h0.size ≤ b701 := Nat.le_trans (Nat.le_trans (Nat.le_trans (Nat.le_trans (Nat.le_trans (Nat.le_trans (Nat.le_trans (Nat.le_trans E622.1 Ku634.1) Ku652.1) E658.1) Ku668.1) Ku684.1) E690.1) Ku698.1) bd_b701
            have lt_b701 : b701 < h701.size := A701.lt
            have D701_92 : Fld Z h701 b701 C_1 "text" C_2 .null := D701 (Or.inr (ww92 hw)) (ty := (.object "java/lang/String")) (by decide)
            have f702 : Exa Z h701 b658 C_0 := (Exa.ext E701 ((Exa.ext E690 u685).keep Ku698))
            have f703 : Fld Z h701 b658 C_0 "value" "[B" (.ref b677) := (Fld.ext E701 ((Fld.ext E690 u687).keep Ku698 (ninS (own_n (own_t (own_t lt_b658 Ku668.1) Ku684.1) bd_b690) nin0)))
            have f704 : Arv Z h701 b677 k678 .byte (1 : Int32) [(.int i676)] (.int (0 : Int32)) := (((u689.ext E690).keep Ku698 (ninS (own_n u683 bd_b690) nin0)).ext E701)
            have f705 : Fld Z h701 b658 C_0 "coder" "B" (.int 0) := (Fld.ext E701 ((Fld.ext E690 u686).keep Ku698 (ninS (own_n (own_t (own_t lt_b658 Ku668.1) Ku684.1) bd_b690) nin0)))
            obtain ⟨_, T706, L706, X706, hS706, hZ706, hown706, hQ706, st706⟩ := own_cIW (s := s) (vm0 := T695.vm) X701 hx hZ695 hown695 hS695 (Nat.le_trans (Nat.le_refl _) E701.1) (ww37 hw) (ww38 hw) (ww36 hw) (ww39 hw) (rm8_8 l Z a0 hw b701 b658 b677 i676 k678 p62 va116 h701 n0 O701 f702 f703 f704 S_63 hk64 f705 S_117 ir_va116 A701 D701_92 g_b701) e701 pd_17 hml (hb hby at_175) (Ls := #[vI p1, vI p2, vI p3, vI 2, vI 1, vI i585, vI i587, vI i589, vI i596, vI i607, vI i618, vR b622, vR b658, vR b690, .unset, .unset]) (W := 1) (argsL := [(.ref b658)]) (rest := [(.ref b701)]) (b := b701)
            obtain ⟨rfl, u708, Ku709, u710, u711⟩ := hQ706
            have Ou709 : Old Z n0 T706.heap := O701.keep Ku709 (allS g_b701 all0)
            have N706 := Fr.app N695 u708
            have f712 : Fld Z T706.heap b690 C_1 "text" C_2 (.ref b622) := ((Fld.ext E701 u700).keep Ku709 (ninS (own_n (own_t lt_b690 Ku698.1) bd_b701) nin0))
            have f713 : Exa Z T706.heap b622 C_0 := ((Exa.ext E701 (f691.keep Ku698)).keep Ku709)
            have f714 : Exa Z T706.heap b658 C_0 := (f702.keep Ku709)
            have ne715 : b622 ≠ b690 := (own_n (own_t (own_t (own_t (own_t (own_t lt_b622 Ku634.1) Ku652.1) E658.1) Ku668.1) Ku684.1) bd_b690)
            have ne716 : b622 ≠ b701 := (own_n (own_t (own_t (own_t (own_t (own_t (own_t (own_t lt_b622 Ku634.1) Ku652.1) E658.1) Ku668.1) Ku684.1) E690.1) Ku698.1) bd_b701)
            have f717 : Fld Z T706.heap b622 C_0 "coder" "B" (.int 0) := ((Fld.ext E701 (f694.keep Ku698 (ninS ne715 nin0))).keep Ku709 (ninS ne716 nin0))
            have ne718 : b658 ≠ b701 := (own_n (own_t (own_t (own_t (own_t lt_b658 Ku668.1) Ku684.1) E690.1) Ku698.1) bd_b701)
            have f719 : Fld Z T706.heap b658 C_0 "coder" "B" (.int 0) := (f705.keep Ku709 (ninS ne718 nin0))
            have f720 : Fld Z T706.heap b622 C_0 "value" "[B" (.ref b644) := ((Fld.ext E701 (f692.keep Ku698 (ninS ne715 nin0))).keep Ku709 (ninS ne716 nin0))
            have f721 : Fld Z T706.heap b658 C_0 "value" "[B" (.ref b677) := (f703.keep Ku709 (ninS ne718 nin0))
            have ne722 : b644 ≠ b690 := (own_n (own_t (own_t (own_t u651 E658.1) Ku668.1) Ku684.1) bd_b690)
            have ne723 : b644 ≠ b701 := (own_n (own_t (own_t (own_t (own_t (own_t u651 E658.1) Ku668.1) Ku684.1) E690.1) Ku698.1) bd_b701)
            have f724 : Arv Z T706.heap b644 k645 .byte (2 : Int32) [(.int i643), (.int i642)] (.int (0 : Int32)) := (((f693.keep Ku698 (ninS ne722 nin0)).ext E701).keep Ku709 (ninS ne723 nin0))
            have f725 : Arv Z T706.heap b677 k678 .byte (1 : Int32) [(.int i676)] (.int (0 : Int32)) := (f704.keep Ku709 (ninS (own_n (own_t (own_t u683 E690.1) Ku698.1) bd_b701) nin0))
            have f727 : Exa Z T706.heap b690 C_1 := ((Exa.ext E701 u699).keep Ku709)
            obtain ⟨_, T726, L726, X726, hQ726, st726⟩ := own_cV X706 hx hZ706 hown706 (ww93 hw) (ww94 hw) (notFace_of_selects (args := #[]) (mvT hZ706 (ww96 hw))) (ww96 hw) (ww95 hw) (ww36 hw) (ww97 hw) f727 (rm20_52 l Z a0 hw b690 b701 b622 b658 p62 b644 b677 i643 i642 k645 i676 k678 T706.heap n0 Ou709 (own_n (own_t lt_b690 Ku698.1) bd_b701) u710 f712 u711 f713 (own_n (own_t (own_t lt_b622 Ku634.1) Ku652.1) bd_b658) f714 S_63 hk64 f717 f719 f720 f721 f724 f725) rfl pd_19 hml (hb hby at_228) (Ls := #[vI p1, vI p2, vI p3, vI 2, vI 1, vI i585, vI i587, vI i589, vI i596, vI i607, vI i618, vR b622, vR b658, vR b690, vR b701, vI 0]) (W := 0) (argsL := [(.ref b701)]) (rest := [])
            obtain ⟨rfl, u729, u730⟩ := hQ726
            have N726 := Fr.app N706 u729
            obtain ⟨_, T731, L731, X731, hQ731, st731⟩ := own_cV X726 hx hZ706 hown706 (ww93 hw) (ww94 hw) (notFace_of_selects (args := #[]) (mvT hZ706 (ww96 hw))) (ww96 hw) (ww95 hw) (ww36 hw) (ww97 hw) u710 (rm20_49 l Z a0 hw b701 b690 b658 b622 p62 b677 b644 i676 k678 i643 i642 k645 T706.heap n0 Ou709 (Ne.symm (own_n (own_t lt_b690 Ku698.1) bd_b701)) f727 u711 f712 f714 (Ne.symm (own_n (own_t (own_t lt_b622 Ku634.1) Ku652.1) bd_b658)) f713 S_63 hk64 f719 f717 f721 f720 f725 f724) u730 pd_19 hml (hb hby at_240) (Ls := #[vI p1, vI p2, vI p3, vI 2, vI 1, vI i585, vI i587, vI i589, vI i596, vI i607, vI i618, vR b622, vR b658, vR b690, vR b701, vI 0]) (W := 0) (argsL := [(.ref b690)]) (rest := [])
            obtain ⟨rfl, u733, u734⟩ := hQ731
            have N731 := Fr.app N726 u733
            obtain ⟨_, T735, L735, X735, hQ735, st735⟩ := own_cV X731 hx hZ706 hown706 (ww93 hw) (ww94 hw) (notFace_of_selects (args := #[]) (mvT hZ706 (ww96 hw))) (ww96 hw) (ww95 hw) (ww36 hw) (ww97 hw) f727 (rm20_24 l Z a0 hw b690 T706.heap n0 Ou709) u734 pd_19 hml (hb hby at_252) (Ls := #[vI p1, vI p2, vI p3, vI 2, vI 1, vI i585, vI i587, vI i589, vI i596, vI i607, vI i618, vR b622, vR b658, vR b690, vR b701, vI 0]) (W := 0) (argsL := [(.ref b690)]) (rest := [])
            obtain ⟨rfl, u737, u738⟩ := hQ735
            have N735 := Fr.app N731 u737
            obtain ⟨_, T739, L739, X739, hQ739, st739⟩ := own_cV X735 hx hZ706 hown706 (ww93 hw) (ww94 hw) (notFace_of_selects (args := #[]) (mvT hZ706 (ww96 hw))) (ww96 hw) (ww95 hw) (ww36 hw) (ww97 hw) f727 (rm20_25 l Z a0 hw b690 T706.heap n0 Ou709) u738 pd_19 hml (hb hby at_261) (Ls := #[vI p1, vI p2, vI p3, vI 2, vI 1, vI i585, vI i587, vI i589, vI i596, vI i607, vI i618, vR b622, vR b658, vR b690, vR b701, vI 0]) (W := 0) (argsL := [.null]) (rest := [])
            obtain ⟨rfl, u741, u742⟩ := hQ739
            have N739 := Fr.app N735 u741
            obtain ⟨_, T743, L743, X743, hQ743, st743⟩ := own_cV X739 hx hZ706 hown706 (ww93 hw) (ww94 hw) (notFace_of_selects (args := #[]) (mvT hZ706 (ww96 hw))) (ww96 hw) (ww95 hw) (ww36 hw) (ww97 hw) f727 (rm20_26 l Z a0 hw b690 b622 T706.heap n0 Ou709 (Ne.symm ne715) f713) u742 pd_19 hml (hb hby at_271) (Ls := #[vI p1, vI p2, vI p3, vI 2, vI 1, vI i585, vI i587, vI i589, vI i596, vI i607, vI i618, vR b622, vR b658, vR b690, vR b701, vI 0]) (W := 0) (argsL := [(.ref b622)]) (rest := [])
            obtain ⟨rfl, u745, u746⟩ := hQ743
            have N743 := Fr.app N739 u745
            refine fin (some (.int 1)) _ _ _ _ T706.vm _ X743 hS706 (by rw [u746]; exact (Nat.le_refl _)) nofun (fun fs hr => pre671 _ ?_) (own_atH u746 ?_) (by decide) (by decide)
            · refine st675 _ (o_astore X675 hx hby at_156 rfl (Ls' := #[vI p1, vI p2, vI p3, vI 2, vI 1, vI i585, vI i587, vI i589, vI i596, vI i607, vI i618, vR b622, vR b658, .unset, .unset, .unset]) rfl (st690 _ (o_dup X690 hx hby at_161 rfl (o_aload X690 hx hby at_162 rfl rfl (st695 _ (o_astore X695 hx hby at_167 rfl (Ls' := #[vI p1, vI p2, vI p3, vI 2, vI 1, vI i585, vI i587, vI i589, vI i596, vI i607, vI i618, vR b622, vR b658, vR b690, .unset, .unset]) rfl (st701 _ (o_dup X701 hx hby at_172 rfl (o_aload X701 hx hby at_173 rfl rfl (st706 _ (o_astore X706 hx hby at_178 rfl (Ls' := #[vI p1, vI p2, vI p3, vI 2, vI 1, vI i585, vI i587, vI i589, vI i596, vI i607, vI i618, vR b622, vR b658, vR b690, vR b701, .unset]) rfl (o_iloadN X706 hx hby at_180 rfl (o_iload X706 hx hby at_181 rfl (o_icmpY X706 hx hby at_183 (pc := 183) (pc' := 221) (by decide +kernel) (by decide) (by decide) (o_iconst X706 hx hby at_221 (x := 0) rfl (o_istore X706 hx hby at_222 (Ls' := #[vI p1, vI p2, vI p3, vI 2, vI 1, vI i585, vI i587, vI i589, vI i596, vI i607, vI i618, vR b622, vR b658, vR b690, vR b701, vI 0]) rfl (o_aload X706 hx hby at_224 rfl rfl (o_aload X706 hx hby at_226 rfl rfl (st726 _ (o_iload X726 hx hby at_231 rfl (o_icmpN X726 hx hby at_233 (by decide +kernel) (o_aload X726 hx hby at_236 rfl rfl (o_aload X726 hx hby at_238 rfl rfl (st731 _ (o_iload X731 hx hby at_243 rfl (o_icmpN X731 hx hby at_245 (by decide +kernel) (o_aload X731 hx hby at_248 rfl rfl (o_aload X731 hx hby at_250 rfl rfl (st735 _ (o_ifN X735 hx hby at_255 (by decide +kernel) (o_aload X735 hx hby at_258 rfl rfl (o_null X735 hx hby at_260 (st739 _ (o_ifN X739 hx hby at_264 (by decide +kernel) (o_aload X739 hx hby at_267 rfl rfl (o_aload X739 hx hby at_269 rfl rfl (st743 _ (o_ifN X743 hx hby at_274 (by decide +kernel) (o_iconst X743 hx hby at_277 (x := 1) rfl ?_)))))))))))))))))))))))))))))))))))))))
              refine o_goto X743 hx hby at_278 (pc := 278) (pc' := 282) (by decide) (by decide) ?_
              exact retN X743 hx (t := .boolean) hret (by simp) (hb hby at_282) hr
            · exact ⟨rfl, N743⟩
          by_cases hc747 : i612 = (0 : Int32)
          · skip
            subst hc747
            obtain ⟨i748, hi748⟩ : ∃ z, z = ((p2.toUInt32 >>> ((16 : Int32) &&& 31).toUInt32).toInt32) := ⟨_, rfl⟩
            obtain ⟨i749, hi749⟩ : ∃ z, z = (i748 &&& (255 : Int32)) := ⟨_, rfl⟩
            have pre750 : ∀ t, Steps p.tables e below (s₁.setTop (mkF m 117 #[vI p1, vI p2, vI p3, vI 2, vI 1, vI i585, vI i587, vI i589, vI i596, vI i607, .unset, .unset, .unset, .unset, .unset, .unset] [(.int i749)])) t → Steps p.tables e below EN t := by
              intro t kt
              refine pre613 t ?_
              refine o_ifY X0 hx hby at_100 (pc := 100) (pc' := 108) (by decide +kernel) (by decide) (by decide) (o_iloadN X0 hx hby at_108 rfl (o_bipush X0 hx hby at_109 (x := 16) rfl (o_iushr X0 hx hby at_111 (z := i748) hi748.symm (o_sipush X0 hx hby at_112 (x := 255) rfl (o_iand X0 hx hby at_115 (z := i749) hi749.symm (o_i2c X0 hx hby at_116 (z := i749) (own_i2c255 hi749) ?_))))))
              exact kt
            exact join617 i749 ⟨_, hi749⟩ pre750
          · skip
            have pre751 : ∀ t, Steps p.tables e below (s₁.setTop (mkF m 117 #[vI p1, vI p2, vI p3, vI 2, vI 1, vI i585, vI i587, vI i589, vI i596, vI i607, .unset, .unset, .unset, .unset, .unset, .unset] [(.int i589)])) t → Steps p.tables e below EN t := by
              intro t kt
              refine pre613 t ?_
              refine o_ifN X0 hx hby at_100 ((if0 _ _).trans (feq hc747).1) (o_iload X0 hx hby at_103 rfl (o_goto X0 hx hby at_105 (pc := 105) (pc' := 117) (by decide) (by decide) ?_))
              exact kt
            exact join617 i589 ⟨_, hi589⟩ pre751
        by_cases hc752 : i601 = (0 : Int32)
        · skip
          subst hc752
          obtain ⟨i753, hi753⟩ : ∃ z, z = ((p2.toUInt32 >>> ((8 : Int32) &&& 31).toUInt32).toInt32) := ⟨_, rfl⟩
          obtain ⟨i754, hi754⟩ : ∃ z, z = (i753 &&& (255 : Int32)) := ⟨_, rfl⟩
          have pre755 : ∀ t, Steps p.tables e below (s₁.setTop (mkF m 92 #[vI p1, vI p2, vI p3, vI 2, vI 1, vI i585, vI i587, vI i589, vI i596, .unset, .unset, .unset, .unset, .unset, .unset, .unset] [(.int i754)])) t → Steps p.tables e below EN t := by
            intro t kt
            refine pre602 t ?_
            refine o_ifY X0 hx hby at_75 (pc := 75) (pc' := 83) (by decide +kernel) (by decide) (by decide) (o_iloadN X0 hx hby at_83 rfl (o_bipush X0 hx hby at_84 (x := 8) rfl (o_iushr X0 hx hby at_86 (z := i753) hi753.symm (o_sipush X0 hx hby at_87 (x := 255) rfl (o_iand X0 hx hby at_90 (z := i754) hi754.symm (o_i2c X0 hx hby at_91 (z := i754) (own_i2c255 hi754) ?_))))))
            exact kt
          exact join606 i754 ⟨_, hi754⟩ pre755
        · skip
          have pre756 : ∀ t, Steps p.tables e below (s₁.setTop (mkF m 92 #[vI p1, vI p2, vI p3, vI 2, vI 1, vI i585, vI i587, vI i589, vI i596, .unset, .unset, .unset, .unset, .unset, .unset, .unset] [(.int i587)])) t → Steps p.tables e below EN t := by
            intro t kt
            refine pre602 t ?_
            refine o_ifN X0 hx hby at_75 ((if0 _ _).trans (feq hc752).1) (o_iload X0 hx hby at_78 rfl (o_goto X0 hx hby at_80 (pc := 80) (pc' := 92) (by decide) (by decide) ?_))
            exact kt
          exact join606 i587 ⟨_, hi587⟩ pre756
      by_cases hc757 : i591 = (0 : Int32)
      · skip
        subst hc757
        obtain ⟨i758, hi758⟩ : ∃ z, z = (p2 &&& (255 : Int32)) := ⟨_, rfl⟩
        have pre759 : ∀ t, Steps p.tables e below (s₁.setTop (mkF m 68 #[vI p1, vI p2, vI p3, vI 2, vI 1, vI i585, vI i587, vI i589, .unset, .unset, .unset, .unset, .unset, .unset, .unset, .unset] [(.int i758)])) t → Steps p.tables e below EN t := by
          intro t kt
          refine pre592 t ?_
          refine o_ifY X0 hx hby at_54 (pc := 54) (pc' := 62) (by decide +kernel) (by decide) (by decide) (o_iloadN X0 hx hby at_62 rfl (o_sipush X0 hx hby at_63 (x := 255) rfl (o_iand X0 hx hby at_66 (z := i758) hi758.symm (o_i2c X0 hx hby at_67 (z := i758) (own_i2c255 hi758) ?_))))
          exact kt
        exact join595 i758 ⟨_, hi758⟩ pre759
      · skip
        have pre760 : ∀ t, Steps p.tables e below (s₁.setTop (mkF m 68 #[vI p1, vI p2, vI p3, vI 2, vI 1, vI i585, vI i587, vI i589, .unset, .unset, .unset, .unset, .unset, .unset, .unset, .unset] [(.int i585)])) t → Steps p.tables e below EN t := by
          intro t kt
          refine pre592 t ?_
          refine o_ifN X0 hx hby at_54 ((if0 _ _).trans (feq hc757).1) (o_iload X0 hx hby at_57 rfl (o_goto X0 hx hby at_59 (pc := 59) (pc' := 68) (by decide) (by decide) ?_))
          exact kt
        exact join595 i585 ⟨_, hi585⟩ pre760
    · skip
      obtain ⟨i761, hi761⟩ : ∃ z, z = (p1 &&& (255 : Int32)) := ⟨_, rfl⟩
      obtain ⟨i762, hi762⟩ : ∃ z, z = ((p1.toUInt32 >>> ((8 : Int32) &&& 31).toUInt32).toInt32) := ⟨_, rfl⟩
      obtain ⟨i763, hi763⟩ : ∃ z, z = (i762 &&& (255 : Int32)) := ⟨_, rfl⟩
      obtain ⟨i764, hi764⟩ : ∃ z, z = ((p1.toUInt32 >>> ((16 : Int32) &&& 31).toUInt32).toInt32) := ⟨_, rfl⟩
      obtain ⟨i765, hi765⟩ : ∃ z, z = (i764 &&& (255 : Int32)) := ⟨_, rfl⟩
      obtain ⟨i766, hi766⟩ : ∃ z, z = ((p3.toUInt32 >>> ((4 : Int32) &&& 31).toUInt32).toInt32) := ⟨_, rfl⟩
      obtain ⟨i767, hi767⟩ : ∃ z, z = (i766 &&& (1 : Int32)) := ⟨_, rfl⟩
      have pre768 : ∀ t, Steps p.tables e below (s₁.setTop (mkF m 54 #[vI p1, vI p2, vI p3, vI 2, vI 2, vI i761, vI i763, vI i765, .unset, .unset, .unset, .unset, .unset, .unset, .unset, .unset] [(.int i767)])) t → Steps p.tables e below EN t := by
        intro t kt
        refine pre584 t ?_
        refine o_irem X0 hx hby at_15 (by decide +kernel : ¬ ((3 : Int32) = (0 : Int32))) (z := (1 : Int32)) hq583 (o_iadd X0 hx hby at_16 (z := (2 : Int32)) (by decide +kernel) (o_istore X0 hx hby at_17 (Ls' := #[vI p1, vI p2, vI p3, vI 2, vI 2, .unset, .unset, .unset, .unset, .unset, .unset, .unset, .unset, .unset, .unset, .unset]) rfl (o_iloadN X0 hx hby at_19 rfl (o_sipush X0 hx hby at_20 (x := 255) rfl (o_iand X0 hx hby at_23 (z := i761) hi761.symm (o_i2c X0 hx hby at_24 (z := i761) (own_i2c255 hi761) (o_istore X0 hx hby at_25 (Ls' := #[vI p1, vI p2, vI p3, vI 2, vI 2, vI i761, .unset, .unset, .unset, .unset, .unset, .unset, .unset, .unset, .unset, .unset]) rfl (o_iloadN X0 hx hby at_27 rfl (o_bipush X0 hx hby at_28 (x := 8) rfl (o_iushr X0 hx hby at_30 (z := i762) hi762.symm (o_sipush X0 hx hby at_31 (x := 255) rfl (o_iand X0 hx hby at_34 (z := i763) hi763.symm (o_i2c X0 hx hby at_35 (z := i763) (own_i2c255 hi763) (o_istore X0 hx hby at_36 (Ls' := #[vI p1, vI p2, vI p3, vI 2, vI 2, vI i761, vI i763, .unset, .unset, .unset, .unset, .unset, .unset, .unset, .unset, .unset]) rfl (o_iloadN X0 hx hby at_38 rfl (o_bipush X0 hx hby at_39 (x := 16) rfl (o_iushr X0 hx hby at_41 (z := i764) hi764.symm (o_sipush X0 hx hby at_42 (x := 255) rfl (o_iand X0 hx hby at_45 (z := i765) hi765.symm (o_i2c X0 hx hby at_46 (z := i765) (own_i2c255 hi765) (o_istore X0 hx hby at_47 (Ls' := #[vI p1, vI p2, vI p3, vI 2, vI 2, vI i761, vI i763, vI i765, .unset, .unset, .unset, .unset, .unset, .unset, .unset, .unset]) rfl (o_iloadN X0 hx hby at_49 rfl (o_iconst X0 hx hby at_50 (x := 4) rfl (o_iushr X0 hx hby at_51 (z := i766) hi766.symm (o_iconst X0 hx hby at_52 (x := 1) rfl (o_iand X0 hx hby at_53 (z := i767) hi767.symm ?_))))))))))))))))))))))))))
        exact kt
      have join771 : ∀ (i772 : Int32), (∃ y : Int32, i772 = (y &&& (255 : Int32))) → (∀ t, Steps p.tables e below (s₁.setTop (mkF m 68 #[vI p1, vI p2, vI p3, vI 2, vI 2, vI i761, vI i763, vI i765, .unset, .unset, .unset, .unset, .unset, .unset, .unset, .unset] [(.int i772)])) t → Steps p.tables e below EN t) → False := by
        rintro i772 ⟨x774, hp773⟩ pre775
        obtain ⟨i776, hi776⟩ : ∃ z, z = ((p3.toUInt32 >>> ((5 : Int32) &&& 31).toUInt32).toInt32) := ⟨_, rfl⟩
        obtain ⟨i777, hi777⟩ : ∃ z, z = (i776 &&& (1 : Int32)) := ⟨_, rfl⟩
        have pre778 : ∀ t, Steps p.tables e below (s₁.setTop (mkF m 75 #[vI p1, vI p2, vI p3, vI 2, vI 2, vI i761, vI i763, vI i765, vI i772, .unset, .unset, .unset, .unset, .unset, .unset, .unset] [(.int i777)])) t → Steps p.tables e below EN t := by
          intro t kt
          refine pre775 t ?_
          refine o_istore X0 hx hby at_68 (Ls' := #[vI p1, vI p2, vI p3, vI 2, vI 2, vI i761, vI i763, vI i765, vI i772, .unset, .unset, .unset, .unset, .unset, .unset, .unset]) rfl (o_iloadN X0 hx hby at_70 rfl (o_iconst X0 hx hby at_71 (x := 5) rfl (o_iushr X0 hx hby at_72 (z := i776) hi776.symm (o_iconst X0 hx hby at_73 (x := 1) rfl (o_iand X0 hx hby at_74 (z := i777) hi777.symm ?_)))))
          exact kt
        have join782 : ∀ (i783 : Int32), (∃ y : Int32, i783 = (y &&& (255 : Int32))) → (∀ t, Steps p.tables e below (s₁.setTop (mkF m 92 #[vI p1, vI p2, vI p3, vI 2, vI 2, vI i761, vI i763, vI i765, vI i772, .unset, .unset, .unset, .unset, .unset, .unset, .unset] [(.int i783)])) t → Steps p.tables e below EN t) → False := by
          rintro i783 ⟨x785, hp784⟩ pre786
          obtain ⟨i787, hi787⟩ : ∃ z, z = ((p3.toUInt32 >>> ((6 : Int32) &&& 31).toUInt32).toInt32) := ⟨_, rfl⟩
          obtain ⟨i788, hi788⟩ : ∃ z, z = (i787 &&& (1 : Int32)) := ⟨_, rfl⟩
          have pre789 : ∀ t, Steps p.tables e below (s₁.setTop (mkF m 100 #[vI p1, vI p2, vI p3, vI 2, vI 2, vI i761, vI i763, vI i765, vI i772, vI i783, .unset, .unset, .unset, .unset, .unset, .unset] [(.int i788)])) t → Steps p.tables e below EN t := by
            intro t kt
            refine pre786 t ?_
            refine o_istore X0 hx hby at_92 (Ls' := #[vI p1, vI p2, vI p3, vI 2, vI 2, vI i761, vI i763, vI i765, vI i772, vI i783, .unset, .unset, .unset, .unset, .unset, .unset]) rfl (o_iloadN X0 hx hby at_94 rfl (o_bipush X0 hx hby at_95 (x := 6) rfl (o_iushr X0 hx hby at_97 (z := i787) hi787.symm (o_iconst X0 hx hby at_98 (x := 1) rfl (o_iand X0 hx hby at_99 (z := i788) hi788.symm ?_)))))
            exact kt
          have join793 : ∀ (i794 : Int32), (∃ y : Int32, i794 = (y &&& (255 : Int32))) → (∀ t, Steps p.tables e below (s₁.setTop (mkF m 117 #[vI p1, vI p2, vI p3, vI 2, vI 2, vI i761, vI i763, vI i765, vI i772, vI i783, .unset, .unset, .unset, .unset, .unset, .unset] [(.int i794)])) t → Steps p.tables e below EN t) → False := by
            rintro i794 ⟨x796, hp795⟩ pre797
            obtain ⟨T798, h798, X798, e798, E798, A798, D798, -, st798⟩ := newO X0 hx hZ hown (ww0 hw) (ww1 hw) (ww2 hw) e0 (g := (mkF m 119 #[vI p1, vI p2, vI p3, vI 2, vI 2, vI i761, vI i763, vI i765, vI i772, vI i783, vI i794, .unset, .unset, .unset, .unset, .unset] [])) rfl (hb hby at_119) (by decide) (by decide)
            obtain ⟨b798, g798⟩ : ∃ z, z = h0.size := ⟨_, rfl⟩
            rw [← g798] at A798 D798 st798
            have O798 : Old Z n0 h798 := O0.ext E798
            have bd_b798 : h0.size ≤ b798 := Nat.le_of_eq g798.symm
            have g_b798 : n0 ≤ b798 := Nat.le_trans (own_z O0) bd_b798
            have sz_b798 : h0.size ≤ b798 := Nat.le_trans (Nat.le_refl _) bd_b798
            have lt_b798 : b798 < h798.size := A798.lt
            have D798_31 : Fld Z h798 b798 C_0 "coder" "B" (.int 0) := D798 (Or.inr (ww31 hw)) (ty := .byte) (by decide)
            have D798_33 : Fld Z h798 b798 C_0 "value" "[B" .null := D798 (Or.inr (ww33 hw)) (ty := (.array .byte)) (by decide)
            obtain ⟨_, T799, L799, X799, hQ799, st799⟩ := own_cS X798 hx hZ hown (ww3 hw) (ww4 hw) (ww5 hw) (ww6 hw) (rm1_30 l Z a0 hw i761 i763 i765 h798 n0 O798) e798 pd_0 hml (hb hby at_130) (Ls := #[vI p1, vI p2, vI p3, vI 2, vI 2, vI i761, vI i763, vI i765, vI i772, vI i783, vI i794, .unset, .unset, .unset, .unset, .unset]) (W := 2) (argsL := [(.int 2), (.int i761), (.int i763), (.int i765)]) (rest := [(.ref b798), (.ref b798)])
            obtain ⟨i800, i801, b802, k803, u804, u805, rfl, u807, u808, u809, Ku810, u811, u812⟩ := hQ799
            have Ou810 : Old Z n0 T799.heap := O798.keep Ku810 all0
            have g_b802 : n0 ≤ b802 := Nat.le_trans (own_z O798) u808
            have sz_b802 : h0.size ≤ b802 := Nat.le_trans E798.1 u808
            have N799 := Fr.app N0 u807
            have pre813 : ∀ t, Steps p.tables e below (T799.setTop (mkF m 133 #[vI p1, vI p2, vI p3, vI 2, vI 2, vI i761, vI i763, vI i765, vI i772, vI i783, vI i794, .unset, .unset, .unset, .unset, .unset] [(.ref b802), (.ref b798), (.ref b798)])) t → Steps p.tables e below EN t := by
              intro t kt
              refine pre797 t ?_
              refine o_istore X0 hx hby at_117 (Ls' := #[vI p1, vI p2, vI p3, vI 2, vI 2, vI i761, vI i763, vI i765, vI i772, vI i783, vI i794, .unset, .unset, .unset, .unset, .unset]) rfl (st798 _ (o_dup X798 hx hby at_122 rfl (o_iloadN X798 hx hby at_123 rfl (o_iload X798 hx hby at_124 rfl (o_iload X798 hx hby at_126 rfl (o_iload X798 hx hby at_128 rfl (st799 _ ?_)))))))
              exact kt
            obtain rfl : i761 = i801 := (u804.trans (own_nar255 hi761)).symm
            obtain rfl : i763 = i800 := (u805.trans (own_nar255 hi763)).symm
            have f814 : Exa Z T799.heap b798 C_0 := (A798.keep Ku810)
            have f815 : Fld Z T799.heap b798 C_0 "coder" "B" (.int 0) := (D798_31.keep Ku810 nin0)
            have f816 : Fld Z T799.heap b798 C_0 "value" "[B" .null := (D798_33.keep Ku810 nin0)
            obtain ⟨_, T817, L817, X817, hQ817, st817⟩ := own_cI X799 hx hZ hown (ww8 hw) (ww9 hw) (ww2 hw) (ww10 hw) (rm2_31 l Z a0 hw b798 b802 i761 i763 k803 p62 T799.heap n0 Ou810 u812 S_63 hk64 (own_lt255 hi761) (own_lt255 hi763) f814 f815 f816 u809 g_b798 (own_t lt_b798 Ku810.1)) rfl pd_5 hml (hb hby at_133) (Ls := #[vI p1, vI p2, vI p3, vI 2, vI 2, vI i761, vI i763, vI i765, vI i772, vI i783, vI i794, .unset, .unset, .unset, .unset, .unset]) (W := 1) (argsL := [(.ref b802)]) (rest := [(.ref b798)]) (b := b798)
            obtain ⟨i818, i819, b820, k821, u822, u823, rfl, u825, u826, u827, Ku828, u829, u830, u831, u832, u833⟩ := hQ817
            have Ou828 : Old Z n0 T817.heap := Ou810.keep Ku828 (allS g_b798 all0)
            have g_b820 : n0 ≤ b820 := Nat.le_trans (own_z Ou810) u826
            have sz_b820 : h0.size ≤ b820 := Nat.le_trans (Nat.le_trans E798.1 Ku810.1) u826
            have N817 := Fr.app N799 u825
            obtain ⟨T834, h834, X834, e834, E834, A834, D834, -, st834⟩ := newO X817 hx hZ hown (ww0 hw) (ww1 hw) (ww2 hw) rfl (g := (mkF m 138 #[vI p1, vI p2, vI p3, vI 2, vI 2, vI i761, vI i763, vI i765, vI i772, vI i783, vI i794, vR b798, .unset, .unset, .unset, .unset] [])) rfl (hb hby at_138) (by decide) (by decide)
            obtain ⟨b834, g834⟩ : ∃ z, z = T817.heap.size := ⟨_, rfl⟩
            rw [← g834] at A834 D834 st834
            have O834 : Old Z n0 h834 := Ou828.ext E834
            have bd_b834 : T817.heap.size ≤ b834 := Nat.le_of_eq g834.symm
            have g_b834 : n0 ≤ b834 := Nat.le_trans (own_z Ou828) bd_b834
            have sz_b834 : h0.size ≤ b834 := Nat.le_trans (Nat.le_trans (Nat.le_trans E798.1 Ku810.1) Ku828.1) bd_b834
            have lt_b834 : b834 < h834.size := A834.lt
            have D834_31 : Fld Z h834 b834 C_0 "coder" "B" (.int 0) := D834 (Or.inr (ww31 hw)) (ty := .byte) (by decide)
            have D834_33 : Fld Z h834 b834 C_0 "value" "[B" .null := D834 (Or.inr (ww33 hw)) (ty := (.array .byte)) (by decide)
            obtain ⟨_, T835, L835, X835, hQ835, st835⟩ := own_cS X834 hx hZ hown (ww3 hw) (ww4 hw) (ww5 hw) (ww6 hw) (rm1_30 l Z a0 hw i772 i783 i794 h834 n0 O834) e834 pd_0 hml (hb hby at_150) (Ls := #[vI p1, vI p2, vI p3, vI 2, vI 2, vI i761, vI i763, vI i765, vI i772, vI i783, vI i794, vR b798, .unset, .unset, .unset, .unset]) (W := 2) (argsL := [(.int 2), (.int i772), (.int i783), (.int i794)]) (rest := [(.ref b834), (.ref b834)])
            obtain ⟨i836, i837, b838, k839, u840, u841, rfl, u843, u844, u845, Ku846, u847, u848⟩ := hQ835
            have Ou846 : Old Z n0 T835.heap := O834.keep Ku846 all0
            have g_b838 : n0 ≤ b838 := Nat.le_trans (own_z O834) u844
            have sz_b838 : h0.size ≤ b838 := Nat.le_trans (Nat.le_trans (Nat.le_trans (Nat.le_trans E798.1 Ku810.1) Ku828.1) E834.1) u844
            have N835 := Fr.app N817 u843
            have pre849 : ∀ t, Steps p.tables e below (T835.setTop (mkF m 153 #[vI p1, vI p2, vI p3, vI 2, vI 2, vI i761, vI i763, vI i765, vI i772, vI i783, vI i794, vR b798, .unset, .unset, .unset, .unset] [(.ref b838), (.ref b834), (.ref b834)])) t → Steps p.tables e below EN t := by
              intro t kt
              refine pre813 t ?_
              refine st817 _ (o_astore X817 hx hby at_136 rfl (Ls' := #[vI p1, vI p2, vI p3, vI 2, vI 2, vI i761, vI i763, vI i765, vI i772, vI i783, vI i794, vR b798, .unset, .unset, .unset, .unset]) rfl (st834 _ (o_dup X834 hx hby at_141 rfl (o_iload X834 hx hby at_142 rfl (o_iload X834 hx hby at_144 rfl (o_iload X834 hx hby at_146 rfl (o_iload X834 hx hby at_148 rfl (st835 _ ?_))))))))
              exact kt
            obtain rfl : i772 = i837 := (u840.trans (own_nar255 hp773)).symm
            obtain rfl : i783 = i836 := (u841.trans (own_nar255 hp784)).symm
            have f850 : Exa Z T835.heap b834 C_0 := (A834.keep Ku846)
            have f851 : Fld Z T835.heap b834 C_0 "coder" "B" (.int 0) := (D834_31.keep Ku846 nin0)
            have f852 : Fld Z T835.heap b834 C_0 "value" "[B" .null := (D834_33.keep Ku846 nin0)
            obtain ⟨_, T853, L853, X853, hQ853, st853⟩ := own_cI X835 hx hZ hown (ww8 hw) (ww9 hw) (ww2 hw) (ww10 hw) (rm2_31 l Z a0 hw b834 b838 i772 i783 k839 p62 T835.heap n0 Ou846 u848 S_63 hk64 (own_lt255 hp773) (own_lt255 hp784) f850 f851 f852 u845 g_b834 (own_t lt_b834 Ku846.1)) rfl pd_5 hml (hb hby at_153) (Ls := #[vI p1, vI p2, vI p3, vI 2, vI 2, vI i761, vI i763, vI i765, vI i772, vI i783, vI i794, vR b798, .unset, .unset, .unset, .unset]) (W := 1) (argsL := [(.ref b838)]) (rest := [(.ref b834)]) (b := b834)
            obtain ⟨i854, i855, b856, k857, u858, u859, rfl, u861, u862, u863, Ku864, u865, u866, u867, u868, u869⟩ := hQ853
            have Ou864 : Old Z n0 T853.heap := Ou846.keep Ku864 (allS g_b834 all0)
            have g_b856 : n0 ≤ b856 := Nat.le_trans (own_z Ou846) u862
            have sz_b856 : h0.size ≤ b856 := Nat.le_trans (Nat.le_trans (Nat.le_trans (Nat.le_trans (Nat.le_trans E798.1 Ku810.1) Ku828.1) E834.1) Ku846.1) u862
            have N853 := Fr.app N835 u861
            obtain ⟨T870, h870, X870, e870, E870, A870, D870, -, st870⟩ := newO X853 hx hZ hown (ww34 hw) (ww35 hw) (ww36 hw) rfl (g := (mkF m 158 #[vI p1, vI p2, vI p3, vI 2, vI 2, vI i761, vI i763, vI i765, vI i772, vI i783, vI i794, vR b798, vR b834, .unset, .unset, .unset] [])) rfl (hb hby at_158) (by decide) (by decide)
            obtain ⟨b870, g870⟩ : ∃ z, z = T853.heap.size := ⟨_, rfl⟩
            rw [← g870] at A870 D870 st870
            have O870 : Old Z n0 h870 := Ou864.ext E870
            have bd_b870 : T853.heap.size ≤ b870 := Nat.le_of_eq g870.symm
            have g_b870 : n0 ≤ b870 := Nat.le_trans (own_z Ou864) bd_b870
            have sz_b870 : h0.size ≤ b870 := Nat.le_trans (Nat.le_trans (Nat.le_trans (Nat.le_trans (Nat.le_trans (Nat.le_trans E798.1 Ku810.1) Ku828.1) E834.1) Ku846.1) Ku864.1) bd_b870
            have lt_b870 : b870 < h870.size := A870.lt
            have D870_92 : Fld Z h870 b870 C_1 "text" C_2 .null := D870 (Or.inr (ww92 hw)) (ty := (.object "java/lang/String")) (by decide)
            have f871 : Exa Z h870 b798 C_0 := (Exa.ext E870 (((Exa.ext E834 u829).keep Ku846).keep Ku864))
            have f872 : Fld Z h870 b798 C_0 "value" "[B" (.ref b820) := (Fld.ext E870 (((Fld.ext E834 u831).keep Ku846 nin0).keep Ku864 (ninS (own_n (own_t (own_t lt_b798 Ku810.1) Ku828.1) bd_b834) nin0)))
            have f873 : Arv Z h870 b820 k821 .byte (2 : Int32) [(.int i819), (.int i818)] (.int (0 : Int32)) := ((((u833.ext E834).keep Ku846 nin0).keep Ku864 (ninS (own_n u827 bd_b834) nin0)).ext E870)
            have f874 : Fld Z h870 b798 C_0 "coder" "B" (.int 0) := (Fld.ext E870 (((Fld.ext E834 u830).keep Ku846 nin0).keep Ku864 (ninS (own_n (own_t (own_t lt_b798 Ku810.1) Ku828.1) bd_b834) nin0)))
            obtain ⟨_, T875, L875, X875, hS875, hZ875, hown875, hQ875, st875⟩ := own_cIW (s := s) (vm0 := s.vm) X870 hx hZ hown hS0 (Nat.le_trans (Nat.le_trans (Nat.le_trans (Nat.le_trans (Nat.le_trans (Nat.le_trans (Nat.le_trans Y0 E798.1) Ku810.1) Ku828.1) E834.1) Ku846.1) Ku864.1) E870.1) (ww37 hw) (ww38 hw) (ww36 hw) (ww39 hw) (rm8_36 l Z a0 hw b870 b798 b820 i819 i818 k821 p62 va116 h870 n0 O870 f871 f872 f873 S_63 hk64 f874 S_117 ir_va116 A870 D870_92 g_b870) e870 pd_17 hml (hb hby at_164) (Ls := #[vI p1, vI p2, vI p3, vI 2, vI 2, vI i761, vI i763, vI i765, vI i772, vI i783, vI i794, vR b798, vR b834, .unset, .unset, .unset]) (W := 1) (argsL := [(.ref b798)]) (rest := [(.ref b870)]) (b := b870)
            obtain ⟨rfl, u877, Ku878, u879, u880⟩ := hQ875
            have Ou878 : Old Z n0 T875.heap := O870.keep Ku878 (allS g_b870 all0)
            have N875 := Fr.app N853 u877
            obtain ⟨T881, h881, X881, e881, E881, A881, D881, -, st881⟩ := newO X875 hx hZ875 hown875 (ww34 hw) (ww35 hw) (ww36 hw) rfl (g := (mkF m 169 #[vI p1, vI p2, vI p3, vI 2, vI 2, vI i761, vI i763, vI i765, vI i772, vI i783, vI i794, vR b798, vR b834, vR b870, .unset, .unset] [])) rfl (hb hby at_169) (by decide) (by decide)
            obtain ⟨b881, g881⟩ : ∃ z, z = T875.heap.size := ⟨_, rfl⟩
            rw [← g881] at A881 D881 st881
            have O881 : Old Z n0 h881 := Ou878.ext E881
            have bd_b881 : T875.heap.size ≤ b881 := Nat.le_of_eq g881.symm
            have g_b881 : n0 ≤ b881 := Nat.le_trans (own_z Ou878) bd_b881
            have sz_b881 : h0.size ≤ b881 := Nat.le_trans (Nat.le_trans (Nat.le_trans (Nat.le_trans (Nat.le_trans (Nat.le_trans (Nat.le_trans (Nat.le_trans E798.1 Ku810.1) Ku828.1) E834.1) Ku846.1) Ku864.1) E870.1) Ku878.1) bd_b881
            have lt_b881 : b881 < h881.size := A881.lt
            have D881_92 : Fld Z h881 b881 C_1 "text" C_2 .null := D881 (Or.inr (ww92 hw)) (ty := (.object "java/lang/String")) (by decide)
            have f882 : Exa Z h881 b834 C_0 := (Exa.ext E881 ((Exa.ext E870 u865).keep Ku878))
            have f883 : Fld Z h881 b834 C_0 "value" "[B" (.ref b856) := (Fld.ext E881 ((Fld.ext E870 u867).keep Ku878 (ninS (own_n (own_t (own_t lt_b834 Ku846.1) Ku864.1) bd_b870) nin0)))
            have f884 : Arv Z h881 b856 k857 .byte (2 : Int32) [(.int i855), (.int i854)] (.int (0 : Int32)) := (((u869.ext E870).keep Ku878 (ninS (own_n u863 bd_b870) nin0)).ext E881)
            have f885 : Fld Z h881 b834 C_0 "coder" "B" (.int 0) := (Fld.ext E881 ((Fld.ext E870 u866).keep Ku878 (ninS (own_n (own_t (own_t lt_b834 Ku846.1) Ku864.1) bd_b870) nin0)))
            obtain ⟨_, T886, L886, X886, hS886, hZ886, hown886, hQ886, st886⟩ := own_cIW (s := s) (vm0 := T875.vm) X881 hx hZ875 hown875 hS875 (Nat.le_trans (Nat.le_refl _) E881.1) (ww37 hw) (ww38 hw) (ww36 hw) (ww39 hw) (rm8_36 l Z a0 hw b881 b834 b856 i855 i854 k857 p62 va116 h881 n0 O881 f882 f883 f884 S_63 hk64 f885 S_117 ir_va116 A881 D881_92 g_b881) e881 pd_17 hml (hb hby at_175) (Ls := #[vI p1, vI p2, vI p3, vI 2, vI 2, vI i761, vI i763, vI i765, vI i772, vI i783, vI i794, vR b798, vR b834, vR b870, .unset, .unset]) (W := 1) (argsL := [(.ref b834)]) (rest := [(.ref b881)]) (b := b881)
            obtain ⟨rfl, u888, Ku889, u890, u891⟩ := hQ886
            have Ou889 : Old Z n0 T886.heap := O881.keep Ku889 (allS g_b881 all0)
            have N886 := Fr.app N875 u888
            have pre892 : ∀ t, Steps p.tables e below (T886.setTop (mkF m 190 #[vI p1, vI p2, vI p3, vI 2, vI 2, vI i761, vI i763, vI i765, vI i772, vI i783, vI i794, vR b798, vR b834, vR b870, vR b881, .unset] [(.int i772), (.int i761)])) t → Steps p.tables e below EN t := by
              intro t kt
              refine pre849 t ?_
              refine st853 _ (o_astore X853 hx hby at_156 rfl (Ls' := #[vI p1, vI p2, vI p3, vI 2, vI 2, vI i761, vI i763, vI i765, vI i772, vI i783, vI i794, vR b798, vR b834, .unset, .unset, .unset]) rfl (st870 _ (o_dup X870 hx hby at_161 rfl (o_aload X870 hx hby at_162 rfl rfl (st875 _ (o_astore X875 hx hby at_167 rfl (Ls' := #[vI p1, vI p2, vI p3, vI 2, vI 2, vI i761, vI i763, vI i765, vI i772, vI i783, vI i794, vR b798, vR b834, vR b870, .unset, .unset]) rfl (st881 _ (o_dup X881 hx hby at_172 rfl (o_aload X881 hx hby at_173 rfl rfl (st886 _ (o_astore X886 hx hby at_178 rfl (Ls' := #[vI p1, vI p2, vI p3, vI 2, vI 2, vI i761, vI i763, vI i765, vI i772, vI i783, vI i794, vR b798, vR b834, vR b870, vR b881, .unset]) rfl (o_iloadN X886 hx hby at_180 rfl (o_iload X886 hx hby at_181 rfl (o_icmpN X886 hx hby at_183 (by decide +kernel) (o_iload X886 hx hby at_186 rfl (o_iload X886 hx hby at_188 rfl ?_))))))))))))))))
              exact kt
            by_cases hc893 : i761 = i772
            · skip
              have pre894 : ∀ t, Steps p.tables e below (T886.setTop (mkF m 202 #[vI p1, vI p2, vI p3, vI 2, vI 2, vI i761, vI i763, vI i765, vI i772, vI i783, vI i794, vR b798, vR b834, vR b870, vR b881, .unset] [(.int i783), (.int i763)])) t → Steps p.tables e below EN t := by
                intro t kt
                refine pre892 t ?_
                refine o_icmpN X886 hx hby at_190 (teq hc893).2 (o_iloadN X886 hx hby at_193 rfl (o_iconst X886 hx hby at_194 (x := 2) rfl (o_icmpN X886 hx hby at_195 (by decide +kernel) (o_iload X886 hx hby at_198 rfl (o_iload X886 hx hby at_200 rfl ?_)))))
                exact kt
              by_cases hc895 : i763 = i783
              · skip
                have f896 : Fld Z T886.heap b870 C_1 "text" C_2 (.ref b798) := ((Fld.ext E881 u880).keep Ku889 (ninS (own_n (own_t lt_b870 Ku878.1) bd_b881) nin0))
                have f897 : Exa Z T886.heap b798 C_0 := ((Exa.ext E881 (f871.keep Ku878)).keep Ku889)
                have f898 : Exa Z T886.heap b834 C_0 := (f882.keep Ku889)
                have ne899 : b798 ≠ b870 := (own_n (own_t (own_t (own_t (own_t (own_t lt_b798 Ku810.1) Ku828.1) E834.1) Ku846.1) Ku864.1) bd_b870)
                have ne900 : b798 ≠ b881 := (own_n (own_t (own_t (own_t (own_t (own_t (own_t (own_t lt_b798 Ku810.1) Ku828.1) E834.1) Ku846.1) Ku864.1) E870.1) Ku878.1) bd_b881)
                have f901 : Fld Z T886.heap b798 C_0 "coder" "B" (.int 0) := ((Fld.ext E881 (f874.keep Ku878 (ninS ne899 nin0))).keep Ku889 (ninS ne900 nin0))
                have ne902 : b834 ≠ b881 := (own_n (own_t (own_t (own_t (own_t lt_b834 Ku846.1) Ku864.1) E870.1) Ku878.1) bd_b881)
                have f903 : Fld Z T886.heap b834 C_0 "coder" "B" (.int 0) := (f885.keep Ku889 (ninS ne902 nin0))
                have f904 : Fld Z T886.heap b798 C_0 "value" "[B" (.ref b820) := ((Fld.ext E881 (f872.keep Ku878 (ninS ne899 nin0))).keep Ku889 (ninS ne900 nin0))
                have f905 : Fld Z T886.heap b834 C_0 "value" "[B" (.ref b856) := (f883.keep Ku889 (ninS ne902 nin0))
                have ne906 : b820 ≠ b870 := (own_n (own_t (own_t (own_t u827 E834.1) Ku846.1) Ku864.1) bd_b870)
                have ne907 : b820 ≠ b881 := (own_n (own_t (own_t (own_t (own_t (own_t u827 E834.1) Ku846.1) Ku864.1) E870.1) Ku878.1) bd_b881)
                have f908 : Arv Z T886.heap b820 k821 .byte (2 : Int32) [(.int i819), (.int i818)] (.int (0 : Int32)) := (((f873.keep Ku878 (ninS ne906 nin0)).ext E881).keep Ku889 (ninS ne907 nin0))
                have f909 : Arv Z T886.heap b856 k857 .byte (2 : Int32) [(.int i855), (.int i854)] (.int (0 : Int32)) := (f884.keep Ku889 (ninS (own_n (own_t (own_t u863 E870.1) Ku878.1) bd_b881) nin0))
                have f911 : Exa Z T886.heap b870 C_1 := ((Exa.ext E881 u879).keep Ku889)
                obtain ⟨_, T910, L910, X910, hQ910, st910⟩ := own_cV X886 hx hZ886 hown886 (ww93 hw) (ww94 hw) (notFace_of_selects (args := #[]) (mvT hZ886 (ww96 hw))) (ww96 hw) (ww95 hw) (ww36 hw) (ww97 hw) f911 (rm20_84 l Z a0 hw b870 b881 b798 b834 p62 b820 b856 i819 i818 k821 i855 i854 k857 T886.heap n0 Ou889 (own_n (own_t lt_b870 Ku878.1) bd_b881) u890 f896 u891 f897 (own_n (own_t (own_t lt_b798 Ku810.1) Ku828.1) bd_b834) f898 S_63 hk64 f901 f903 f904 f905 f908 f909 (own_beq (u := 0) (v := 0) u822 u858 hc893) (own_beq (u := 0) (v := 0) u823 u859 hc895)) rfl pd_19 hml (hb hby at_228) (Ls := #[vI p1, vI p2, vI p3, vI 2, vI 2, vI i761, vI i763, vI i765, vI i772, vI i783, vI i794, vR b798, vR b834, vR b870, vR b881, vI 1]) (W := 0) (argsL := [(.ref b881)]) (rest := [])
                obtain ⟨rfl, u913, u914⟩ := hQ910
                have N910 := Fr.app N886 u913
                obtain ⟨_, T915, L915, X915, hQ915, st915⟩ := own_cV X910 hx hZ886 hown886 (ww93 hw) (ww94 hw) (notFace_of_selects (args := #[]) (mvT hZ886 (ww96 hw))) (ww96 hw) (ww95 hw) (ww36 hw) (ww97 hw) u890 (rm20_84 l Z a0 hw b881 b870 b834 b798 p62 b856 b820 i855 i854 k857 i819 i818 k821 T886.heap n0 Ou889 (Ne.symm (own_n (own_t lt_b870 Ku878.1) bd_b881)) f911 u891 f896 f898 (Ne.symm (own_n (own_t (own_t lt_b798 Ku810.1) Ku828.1) bd_b834)) f897 S_63 hk64 f903 f901 f905 f904 f909 f908 (own_beq (u := 0) (v := 0) u858 u822 hc893.symm) (own_beq (u := 0) (v := 0) u859 u823 hc895.symm)) u914 pd_19 hml (hb hby at_240) (Ls := #[vI p1, vI p2, vI p3, vI 2, vI 2, vI i761, vI i763, vI i765, vI i772, vI i783, vI i794, vR b798, vR b834, vR b870, vR b881, vI 1]) (W := 0) (argsL := [(.ref b870)]) (rest := [])
                obtain ⟨rfl, u917, u918⟩ := hQ915
                have N915 := Fr.app N910 u917
                obtain ⟨_, T919, L919, X919, hQ919, st919⟩ := own_cV X915 hx hZ886 hown886 (ww93 hw) (ww94 hw) (notFace_of_selects (args := #[]) (mvT hZ886 (ww96 hw))) (ww96 hw) (ww95 hw) (ww36 hw) (ww97 hw) f911 (rm20_24 l Z a0 hw b870 T886.heap n0 Ou889) u918 pd_19 hml (hb hby at_252) (Ls := #[vI p1, vI p2, vI p3, vI 2, vI 2, vI i761, vI i763, vI i765, vI i772, vI i783, vI i794, vR b798, vR b834, vR b870, vR b881, vI 1]) (W := 0) (argsL := [(.ref b870)]) (rest := [])
                obtain ⟨rfl, u921, u922⟩ := hQ919
                have N919 := Fr.app N915 u921
                obtain ⟨_, T923, L923, X923, hQ923, st923⟩ := own_cV X919 hx hZ886 hown886 (ww93 hw) (ww94 hw) (notFace_of_selects (args := #[]) (mvT hZ886 (ww96 hw))) (ww96 hw) (ww95 hw) (ww36 hw) (ww97 hw) f911 (rm20_25 l Z a0 hw b870 T886.heap n0 Ou889) u922 pd_19 hml (hb hby at_261) (Ls := #[vI p1, vI p2, vI p3, vI 2, vI 2, vI i761, vI i763, vI i765, vI i772, vI i783, vI i794, vR b798, vR b834, vR b870, vR b881, vI 1]) (W := 0) (argsL := [.null]) (rest := [])
                obtain ⟨rfl, u925, u926⟩ := hQ923
                have N923 := Fr.app N919 u925
                obtain ⟨_, T927, L927, X927, hQ927, st927⟩ := own_cV X923 hx hZ886 hown886 (ww93 hw) (ww94 hw) (notFace_of_selects (args := #[]) (mvT hZ886 (ww96 hw))) (ww96 hw) (ww95 hw) (ww36 hw) (ww97 hw) f911 (rm20_26 l Z a0 hw b870 b798 T886.heap n0 Ou889 (Ne.symm ne899) f897) u926 pd_19 hml (hb hby at_271) (Ls := #[vI p1, vI p2, vI p3, vI 2, vI 2, vI i761, vI i763, vI i765, vI i772, vI i783, vI i794, vR b798, vR b834, vR b870, vR b881, vI 1]) (W := 0) (argsL := [(.ref b798)]) (rest := [])
                obtain ⟨rfl, u929, u930⟩ := hQ927
                have N927 := Fr.app N923 u929
                refine fin (some (.int 1)) _ _ _ _ T886.vm _ X927 hS886 (by rw [u930]; exact (Nat.le_refl _)) nofun (fun fs hr => pre894 _ ?_) (own_atH u930 ?_) (by decide) (by decide)
                · refine o_icmpN X886 hx hby at_202 (teq hc895).2 (o_iloadN X886 hx hby at_205 rfl (o_iconst X886 hx hby at_206 (x := 3) rfl (o_icmpY X886 hx hby at_207 (pc := 207) (pc' := 217) (by decide +kernel) (by decide) (by decide) (o_iconst X886 hx hby at_217 (x := 1) rfl (o_goto X886 hx hby at_218 (pc := 218) (pc' := 222) (by decide) (by decide) (o_istore X886 hx hby at_222 (Ls' := #[vI p1, vI p2, vI p3, vI 2, vI 2, vI i761, vI i763, vI i765, vI i772, vI i783, vI i794, vR b798, vR b834, vR b870, vR b881, vI 1]) rfl (o_aload X886 hx hby at_224 rfl rfl (o_aload X886 hx hby at_226 rfl rfl (st910 _ (o_iload X910 hx hby at_231 rfl (o_icmpN X910 hx hby at_233 (by decide +kernel) (o_aload X910 hx hby at_236 rfl rfl (o_aload X910 hx hby at_238 rfl rfl (st915 _ (o_iload X915 hx hby at_243 rfl (o_icmpN X915 hx hby at_245 (by decide +kernel) (o_aload X915 hx hby at_248 rfl rfl (o_aload X915 hx hby at_250 rfl rfl (st919 _ (o_ifN X919 hx hby at_255 (by decide +kernel) (o_aload X919 hx hby at_258 rfl rfl (o_null X919 hx hby at_260 (st923 _ (o_ifN X923 hx hby at_264 (by decide +kernel) (o_aload X923 hx hby at_267 rfl rfl (o_aload X923 hx hby at_269 rfl rfl (st927 _ (o_ifN X927 hx hby at_274 (by decide +kernel) (o_iconst X927 hx hby at_277 (x := 1) rfl (o_goto X927 hx hby at_278 (pc := 278) (pc' := 282) (by decide) (by decide) ?_))))))))))))))))))))))))))))))
                  exact retN X927 hx (t := .boolean) hret (by simp) (hb hby at_282) hr
                · exact ⟨rfl, N927⟩
              · skip
                have f931 : Fld Z T886.heap b870 C_1 "text" C_2 (.ref b798) := ((Fld.ext E881 u880).keep Ku889 (ninS (own_n (own_t lt_b870 Ku878.1) bd_b881) nin0))
                have f932 : Exa Z T886.heap b798 C_0 := ((Exa.ext E881 (f871.keep Ku878)).keep Ku889)
                have f933 : Exa Z T886.heap b834 C_0 := (f882.keep Ku889)
                have ne934 : b798 ≠ b870 := (own_n (own_t (own_t (own_t (own_t (own_t lt_b798 Ku810.1) Ku828.1) E834.1) Ku846.1) Ku864.1) bd_b870)
                have ne935 : b798 ≠ b881 := (own_n (own_t (own_t (own_t (own_t (own_t (own_t (own_t lt_b798 Ku810.1) Ku828.1) E834.1) Ku846.1) Ku864.1) E870.1) Ku878.1) bd_b881)
                have f936 : Fld Z T886.heap b798 C_0 "coder" "B" (.int 0) := ((Fld.ext E881 (f874.keep Ku878 (ninS ne934 nin0))).keep Ku889 (ninS ne935 nin0))
                have ne937 : b834 ≠ b881 := (own_n (own_t (own_t (own_t (own_t lt_b834 Ku846.1) Ku864.1) E870.1) Ku878.1) bd_b881)
                have f938 : Fld Z T886.heap b834 C_0 "coder" "B" (.int 0) := (f885.keep Ku889 (ninS ne937 nin0))
                have f939 : Fld Z T886.heap b798 C_0 "value" "[B" (.ref b820) := ((Fld.ext E881 (f872.keep Ku878 (ninS ne934 nin0))).keep Ku889 (ninS ne935 nin0))
                have f940 : Fld Z T886.heap b834 C_0 "value" "[B" (.ref b856) := (f883.keep Ku889 (ninS ne937 nin0))
                have ne941 : b820 ≠ b870 := (own_n (own_t (own_t (own_t u827 E834.1) Ku846.1) Ku864.1) bd_b870)
                have ne942 : b820 ≠ b881 := (own_n (own_t (own_t (own_t (own_t (own_t u827 E834.1) Ku846.1) Ku864.1) E870.1) Ku878.1) bd_b881)
                have f943 : Arv Z T886.heap b820 k821 .byte (2 : Int32) [(.int i819), (.int i818)] (.int (0 : Int32)) := (((f873.keep Ku878 (ninS ne941 nin0)).ext E881).keep Ku889 (ninS ne942 nin0))
                have f944 : Arv Z T886.heap b856 k857 .byte (2 : Int32) [(.int i855), (.int i854)] (.int (0 : Int32)) := (f884.keep Ku889 (ninS (own_n (own_t (own_t u863 E870.1) Ku878.1) bd_b881) nin0))
                have f946 : Exa Z T886.heap b870 C_1 := ((Exa.ext E881 u879).keep Ku889)
                obtain ⟨_, T945, L945, X945, hQ945, st945⟩ := own_cV X886 hx hZ886 hown886 (ww93 hw) (ww94 hw) (notFace_of_selects (args := #[]) (mvT hZ886 (ww96 hw))) (ww96 hw) (ww95 hw) (ww36 hw) (ww97 hw) f946 (rm20_87 l Z a0 hw b870 b881 b798 b834 p62 b820 b856 i819 i818 k821 i855 i854 k857 T886.heap n0 Ou889 (own_n (own_t lt_b870 Ku878.1) bd_b881) u890 f931 u891 f932 (own_n (own_t (own_t lt_b798 Ku810.1) Ku828.1) bd_b834) f933 S_63 hk64 f936 f938 f939 f940 f943 f944 (own_beq (u := 0) (v := 0) u822 u858 hc893) (own_bne u823 u859 hi763 hp784 hc895)) rfl pd_19 hml (hb hby at_228) (Ls := #[vI p1, vI p2, vI p3, vI 2, vI 2, vI i761, vI i763, vI i765, vI i772, vI i783, vI i794, vR b798, vR b834, vR b870, vR b881, vI 0]) (W := 0) (argsL := [(.ref b881)]) (rest := [])
                obtain ⟨rfl, u948, u949⟩ := hQ945
                have N945 := Fr.app N886 u948
                obtain ⟨_, T950, L950, X950, hQ950, st950⟩ := own_cV X945 hx hZ886 hown886 (ww93 hw) (ww94 hw) (notFace_of_selects (args := #[]) (mvT hZ886 (ww96 hw))) (ww96 hw) (ww95 hw) (ww36 hw) (ww97 hw) u890 (rm20_87 l Z a0 hw b881 b870 b834 b798 p62 b856 b820 i855 i854 k857 i819 i818 k821 T886.heap n0 Ou889 (Ne.symm (own_n (own_t lt_b870 Ku878.1) bd_b881)) f946 u891 f931 f933 (Ne.symm (own_n (own_t (own_t lt_b798 Ku810.1) Ku828.1) bd_b834)) f932 S_63 hk64 f938 f936 f940 f939 f944 f943 (own_beq (u := 0) (v := 0) u858 u822 hc893.symm) (own_bne u859 u823 hp784 hi763 (fun q => hc895 q.symm))) u949 pd_19 hml (hb hby at_240) (Ls := #[vI p1, vI p2, vI p3, vI 2, vI 2, vI i761, vI i763, vI i765, vI i772, vI i783, vI i794, vR b798, vR b834, vR b870, vR b881, vI 0]) (W := 0) (argsL := [(.ref b870)]) (rest := [])
                obtain ⟨rfl, u952, u953⟩ := hQ950
                have N950 := Fr.app N945 u952
                obtain ⟨_, T954, L954, X954, hQ954, st954⟩ := own_cV X950 hx hZ886 hown886 (ww93 hw) (ww94 hw) (notFace_of_selects (args := #[]) (mvT hZ886 (ww96 hw))) (ww96 hw) (ww95 hw) (ww36 hw) (ww97 hw) f946 (rm20_24 l Z a0 hw b870 T886.heap n0 Ou889) u953 pd_19 hml (hb hby at_252) (Ls := #[vI p1, vI p2, vI p3, vI 2, vI 2, vI i761, vI i763, vI i765, vI i772, vI i783, vI i794, vR b798, vR b834, vR b870, vR b881, vI 0]) (W := 0) (argsL := [(.ref b870)]) (rest := [])
                obtain ⟨rfl, u956, u957⟩ := hQ954
                have N954 := Fr.app N950 u956
                obtain ⟨_, T958, L958, X958, hQ958, st958⟩ := own_cV X954 hx hZ886 hown886 (ww93 hw) (ww94 hw) (notFace_of_selects (args := #[]) (mvT hZ886 (ww96 hw))) (ww96 hw) (ww95 hw) (ww36 hw) (ww97 hw) f946 (rm20_25 l Z a0 hw b870 T886.heap n0 Ou889) u957 pd_19 hml (hb hby at_261) (Ls := #[vI p1, vI p2, vI p3, vI 2, vI 2, vI i761, vI i763, vI i765, vI i772, vI i783, vI i794, vR b798, vR b834, vR b870, vR b881, vI 0]) (W := 0) (argsL := [.null]) (rest := [])
                obtain ⟨rfl, u960, u961⟩ := hQ958
                have N958 := Fr.app N954 u960
                obtain ⟨_, T962, L962, X962, hQ962, st962⟩ := own_cV X958 hx hZ886 hown886 (ww93 hw) (ww94 hw) (notFace_of_selects (args := #[]) (mvT hZ886 (ww96 hw))) (ww96 hw) (ww95 hw) (ww36 hw) (ww97 hw) f946 (rm20_26 l Z a0 hw b870 b798 T886.heap n0 Ou889 (Ne.symm ne934) f932) u961 pd_19 hml (hb hby at_271) (Ls := #[vI p1, vI p2, vI p3, vI 2, vI 2, vI i761, vI i763, vI i765, vI i772, vI i783, vI i794, vR b798, vR b834, vR b870, vR b881, vI 0]) (W := 0) (argsL := [(.ref b798)]) (rest := [])
                obtain ⟨rfl, u964, u965⟩ := hQ962
                have N962 := Fr.app N958 u964
                refine fin (some (.int 1)) _ _ _ _ T886.vm _ X962 hS886 (by rw [u965]; exact (Nat.le_refl _)) nofun (fun fs hr => pre894 _ ?_) (own_atH u965 ?_) (by decide) (by decide)
                · refine o_icmpY X886 hx hby at_202 (pc := 202) (pc' := 221) (feq hc895).2 (by decide) (by decide) (o_iconst X886 hx hby at_221 (x := 0) rfl (o_istore X886 hx hby at_222 (Ls' := #[vI p1, vI p2, vI p3, vI 2, vI 2, vI i761, vI i763, vI i765, vI i772, vI i783, vI i794, vR b798, vR b834, vR b870, vR b881, vI 0]) rfl (o_aload X886 hx hby at_224 rfl rfl (o_aload X886 hx hby at_226 rfl rfl (st945 _ (o_iload X945 hx hby at_231 rfl (o_icmpN X945 hx hby at_233 (by decide +kernel) (o_aload X945 hx hby at_236 rfl rfl (o_aload X945 hx hby at_238 rfl rfl (st950 _ (o_iload X950 hx hby at_243 rfl (o_icmpN X950 hx hby at_245 (by decide +kernel) (o_aload X950 hx hby at_248 rfl rfl (o_aload X950 hx hby at_250 rfl rfl (st954 _ (o_ifN X954 hx hby at_255 (by decide +kernel) (o_aload X954 hx hby at_258 rfl rfl (o_null X954 hx hby at_260 (st958 _ (o_ifN X958 hx hby at_264 (by decide +kernel) (o_aload X958 hx hby at_267 rfl rfl (o_aload X958 hx hby at_269 rfl rfl (st962 _ (o_ifN X962 hx hby at_274 (by decide +kernel) (o_iconst X962 hx hby at_277 (x := 1) rfl (o_goto X962 hx hby at_278 (pc := 278) (pc' := 282) (by decide) (by decide) ?_))))))))))))))))))))))))))
                  exact retN X962 hx (t := .boolean) hret (by simp) (hb hby at_282) hr
                · exact ⟨rfl, N962⟩
            · skip
              have f966 : Fld Z T886.heap b870 C_1 "text" C_2 (.ref b798) := ((Fld.ext E881 u880).keep Ku889 (ninS (own_n (own_t lt_b870 Ku878.1) bd_b881) nin0))
              have f967 : Exa Z T886.heap b798 C_0 := ((Exa.ext E881 (f871.keep Ku878)).keep Ku889)
              have f968 : Exa Z T886.heap b834 C_0 := (f882.keep Ku889)
              have ne969 : b798 ≠ b870 := (own_n (own_t (own_t (own_t (own_t (own_t lt_b798 Ku810.1) Ku828.1) E834.1) Ku846.1) Ku864.1) bd_b870)
              have ne970 : b798 ≠ b881 := (own_n (own_t (own_t (own_t (own_t (own_t (own_t (own_t lt_b798 Ku810.1) Ku828.1) E834.1) Ku846.1) Ku864.1) E870.1) Ku878.1) bd_b881)
              have f971 : Fld Z T886.heap b798 C_0 "coder" "B" (.int 0) := ((Fld.ext E881 (f874.keep Ku878 (ninS ne969 nin0))).keep Ku889 (ninS ne970 nin0))
              have ne972 : b834 ≠ b881 := (own_n (own_t (own_t (own_t (own_t lt_b834 Ku846.1) Ku864.1) E870.1) Ku878.1) bd_b881)
              have f973 : Fld Z T886.heap b834 C_0 "coder" "B" (.int 0) := (f885.keep Ku889 (ninS ne972 nin0))
              have f974 : Fld Z T886.heap b798 C_0 "value" "[B" (.ref b820) := ((Fld.ext E881 (f872.keep Ku878 (ninS ne969 nin0))).keep Ku889 (ninS ne970 nin0))
              have f975 : Fld Z T886.heap b834 C_0 "value" "[B" (.ref b856) := (f883.keep Ku889 (ninS ne972 nin0))
              have ne976 : b820 ≠ b870 := (own_n (own_t (own_t (own_t u827 E834.1) Ku846.1) Ku864.1) bd_b870)
              have ne977 : b820 ≠ b881 := (own_n (own_t (own_t (own_t (own_t (own_t u827 E834.1) Ku846.1) Ku864.1) E870.1) Ku878.1) bd_b881)
              have f978 : Arv Z T886.heap b820 k821 .byte (2 : Int32) [(.int i819), (.int i818)] (.int (0 : Int32)) := (((f873.keep Ku878 (ninS ne976 nin0)).ext E881).keep Ku889 (ninS ne977 nin0))
              have f979 : Arv Z T886.heap b856 k857 .byte (2 : Int32) [(.int i855), (.int i854)] (.int (0 : Int32)) := (f884.keep Ku889 (ninS (own_n (own_t (own_t u863 E870.1) Ku878.1) bd_b881) nin0))
              have f981 : Exa Z T886.heap b870 C_1 := ((Exa.ext E881 u879).keep Ku889)
              obtain ⟨_, T980, L980, X980, hQ980, st980⟩ := own_cV X886 hx hZ886 hown886 (ww93 hw) (ww94 hw) (notFace_of_selects (args := #[]) (mvT hZ886 (ww96 hw))) (ww96 hw) (ww95 hw) (ww36 hw) (ww97 hw) f981 (rm20_90 l Z a0 hw b870 b881 b798 b834 p62 b820 b856 i819 i818 k821 i855 i854 k857 T886.heap n0 Ou889 (own_n (own_t lt_b870 Ku878.1) bd_b881) u890 f966 u891 f967 (own_n (own_t (own_t lt_b798 Ku810.1) Ku828.1) bd_b834) f968 S_63 hk64 f971 f973 f974 f975 f978 f979 (own_bne u822 u858 hi761 hp773 hc893)) rfl pd_19 hml (hb hby at_228) (Ls := #[vI p1, vI p2, vI p3, vI 2, vI 2, vI i761, vI i763, vI i765, vI i772, vI i783, vI i794, vR b798, vR b834, vR b870, vR b881, vI 0]) (W := 0) (argsL := [(.ref b881)]) (rest := [])
              obtain ⟨rfl, u983, u984⟩ := hQ980
              have N980 := Fr.app N886 u983
              obtain ⟨_, T985, L985, X985, hQ985, st985⟩ := own_cV X980 hx hZ886 hown886 (ww93 hw) (ww94 hw) (notFace_of_selects (args := #[]) (mvT hZ886 (ww96 hw))) (ww96 hw) (ww95 hw) (ww36 hw) (ww97 hw) u890 (rm20_90 l Z a0 hw b881 b870 b834 b798 p62 b856 b820 i855 i854 k857 i819 i818 k821 T886.heap n0 Ou889 (Ne.symm (own_n (own_t lt_b870 Ku878.1) bd_b881)) f981 u891 f966 f968 (Ne.symm (own_n (own_t (own_t lt_b798 Ku810.1) Ku828.1) bd_b834)) f967 S_63 hk64 f973 f971 f975 f974 f979 f978 (own_bne u858 u822 hp773 hi761 (fun q => hc893 q.symm))) u984 pd_19 hml (hb hby at_240) (Ls := #[vI p1, vI p2, vI p3, vI 2, vI 2, vI i761, vI i763, vI i765, vI i772, vI i783, vI i794, vR b798, vR b834, vR b870, vR b881, vI 0]) (W := 0) (argsL := [(.ref b870)]) (rest := [])
              obtain ⟨rfl, u987, u988⟩ := hQ985
              have N985 := Fr.app N980 u987
              obtain ⟨_, T989, L989, X989, hQ989, st989⟩ := own_cV X985 hx hZ886 hown886 (ww93 hw) (ww94 hw) (notFace_of_selects (args := #[]) (mvT hZ886 (ww96 hw))) (ww96 hw) (ww95 hw) (ww36 hw) (ww97 hw) f981 (rm20_24 l Z a0 hw b870 T886.heap n0 Ou889) u988 pd_19 hml (hb hby at_252) (Ls := #[vI p1, vI p2, vI p3, vI 2, vI 2, vI i761, vI i763, vI i765, vI i772, vI i783, vI i794, vR b798, vR b834, vR b870, vR b881, vI 0]) (W := 0) (argsL := [(.ref b870)]) (rest := [])
              obtain ⟨rfl, u991, u992⟩ := hQ989
              have N989 := Fr.app N985 u991
              obtain ⟨_, T993, L993, X993, hQ993, st993⟩ := own_cV X989 hx hZ886 hown886 (ww93 hw) (ww94 hw) (notFace_of_selects (args := #[]) (mvT hZ886 (ww96 hw))) (ww96 hw) (ww95 hw) (ww36 hw) (ww97 hw) f981 (rm20_25 l Z a0 hw b870 T886.heap n0 Ou889) u992 pd_19 hml (hb hby at_261) (Ls := #[vI p1, vI p2, vI p3, vI 2, vI 2, vI i761, vI i763, vI i765, vI i772, vI i783, vI i794, vR b798, vR b834, vR b870, vR b881, vI 0]) (W := 0) (argsL := [.null]) (rest := [])
              obtain ⟨rfl, u995, u996⟩ := hQ993
              have N993 := Fr.app N989 u995
              obtain ⟨_, T997, L997, X997, hQ997, st997⟩ := own_cV X993 hx hZ886 hown886 (ww93 hw) (ww94 hw) (notFace_of_selects (args := #[]) (mvT hZ886 (ww96 hw))) (ww96 hw) (ww95 hw) (ww36 hw) (ww97 hw) f981 (rm20_26 l Z a0 hw b870 b798 T886.heap n0 Ou889 (Ne.symm ne969) f967) u996 pd_19 hml (hb hby at_271) (Ls := #[vI p1, vI p2, vI p3, vI 2, vI 2, vI i761, vI i763, vI i765, vI i772, vI i783, vI i794, vR b798, vR b834, vR b870, vR b881, vI 0]) (W := 0) (argsL := [(.ref b798)]) (rest := [])
              obtain ⟨rfl, u999, u1000⟩ := hQ997
              have N997 := Fr.app N993 u999
              refine fin (some (.int 1)) _ _ _ _ T886.vm _ X997 hS886 (by rw [u1000]; exact (Nat.le_refl _)) nofun (fun fs hr => pre892 _ ?_) (own_atH u1000 ?_) (by decide) (by decide)
              · refine o_icmpY X886 hx hby at_190 (pc := 190) (pc' := 221) (feq hc893).2 (by decide) (by decide) (o_iconst X886 hx hby at_221 (x := 0) rfl (o_istore X886 hx hby at_222 (Ls' := #[vI p1, vI p2, vI p3, vI 2, vI 2, vI i761, vI i763, vI i765, vI i772, vI i783, vI i794, vR b798, vR b834, vR b870, vR b881, vI 0]) rfl (o_aload X886 hx hby at_224 rfl rfl (o_aload X886 hx hby at_226 rfl rfl (st980 _ (o_iload X980 hx hby at_231 rfl (o_icmpN X980 hx hby at_233 (by decide +kernel) (o_aload X980 hx hby at_236 rfl rfl (o_aload X980 hx hby at_238 rfl rfl (st985 _ (o_iload X985 hx hby at_243 rfl (o_icmpN X985 hx hby at_245 (by decide +kernel) (o_aload X985 hx hby at_248 rfl rfl (o_aload X985 hx hby at_250 rfl rfl (st989 _ (o_ifN X989 hx hby at_255 (by decide +kernel) (o_aload X989 hx hby at_258 rfl rfl (o_null X989 hx hby at_260 (st993 _ (o_ifN X993 hx hby at_264 (by decide +kernel) (o_aload X993 hx hby at_267 rfl rfl (o_aload X993 hx hby at_269 rfl rfl (st997 _ (o_ifN X997 hx hby at_274 (by decide +kernel) (o_iconst X997 hx hby at_277 (x := 1) rfl (o_goto X997 hx hby at_278 (pc := 278) (pc' := 282) (by decide) (by decide) ?_))))))))))))))))))))))))))
                exact retN X997 hx (t := .boolean) hret (by simp) (hb hby at_282) hr
              · exact ⟨rfl, N997⟩
          by_cases hc1001 : i788 = (0 : Int32)
          · skip
            subst hc1001
            obtain ⟨i1002, hi1002⟩ : ∃ z, z = ((p2.toUInt32 >>> ((16 : Int32) &&& 31).toUInt32).toInt32) := ⟨_, rfl⟩
            obtain ⟨i1003, hi1003⟩ : ∃ z, z = (i1002 &&& (255 : Int32)) := ⟨_, rfl⟩
            have pre1004 : ∀ t, Steps p.tables e below (s₁.setTop (mkF m 117 #[vI p1, vI p2, vI p3, vI 2, vI 2, vI i761, vI i763, vI i765, vI i772, vI i783, .unset, .unset, .unset, .unset, .unset, .unset] [(.int i1003)])) t → Steps p.tables e below EN t := by
              intro t kt
              refine pre789 t ?_
              refine o_ifY X0 hx hby at_100 (pc := 100) (pc' := 108) (by decide +kernel) (by decide) (by decide) (o_iloadN X0 hx hby at_108 rfl (o_bipush X0 hx hby at_109 (x := 16) rfl (o_iushr X0 hx hby at_111 (z := i1002) hi1002.symm (o_sipush X0 hx hby at_112 (x := 255) rfl (o_iand X0 hx hby at_115 (z := i1003) hi1003.symm (o_i2c X0 hx hby at_116 (z := i1003) (own_i2c255 hi1003) ?_))))))
              exact kt
            exact join793 i1003 ⟨_, hi1003⟩ pre1004
          · skip
            have pre1005 : ∀ t, Steps p.tables e below (s₁.setTop (mkF m 117 #[vI p1, vI p2, vI p3, vI 2, vI 2, vI i761, vI i763, vI i765, vI i772, vI i783, .unset, .unset, .unset, .unset, .unset, .unset] [(.int i765)])) t → Steps p.tables e below EN t := by
              intro t kt
              refine pre789 t ?_
              refine o_ifN X0 hx hby at_100 ((if0 _ _).trans (feq hc1001).1) (o_iload X0 hx hby at_103 rfl (o_goto X0 hx hby at_105 (pc := 105) (pc' := 117) (by decide) (by decide) ?_))
              exact kt
            exact join793 i765 ⟨_, hi765⟩ pre1005
        by_cases hc1006 : i777 = (0 : Int32)
        · skip
          subst hc1006
          obtain ⟨i1007, hi1007⟩ : ∃ z, z = ((p2.toUInt32 >>> ((8 : Int32) &&& 31).toUInt32).toInt32) := ⟨_, rfl⟩
          obtain ⟨i1008, hi1008⟩ : ∃ z, z = (i1007 &&& (255 : Int32)) := ⟨_, rfl⟩
          have pre1009 : ∀ t, Steps p.tables e below (s₁.setTop (mkF m 92 #[vI p1, vI p2, vI p3, vI 2, vI 2, vI i761, vI i763, vI i765, vI i772, .unset, .unset, .unset, .unset, .unset, .unset, .unset] [(.int i1008)])) t → Steps p.tables e below EN t := by
            intro t kt
            refine pre778 t ?_
            refine o_ifY X0 hx hby at_75 (pc := 75) (pc' := 83) (by decide +kernel) (by decide) (by decide) (o_iloadN X0 hx hby at_83 rfl (o_bipush X0 hx hby at_84 (x := 8) rfl (o_iushr X0 hx hby at_86 (z := i1007) hi1007.symm (o_sipush X0 hx hby at_87 (x := 255) rfl (o_iand X0 hx hby at_90 (z := i1008) hi1008.symm (o_i2c X0 hx hby at_91 (z := i1008) (own_i2c255 hi1008) ?_))))))
            exact kt
          exact join782 i1008 ⟨_, hi1008⟩ pre1009
        · skip
          have pre1010 : ∀ t, Steps p.tables e below (s₁.setTop (mkF m 92 #[vI p1, vI p2, vI p3, vI 2, vI 2, vI i761, vI i763, vI i765, vI i772, .unset, .unset, .unset, .unset, .unset, .unset, .unset] [(.int i763)])) t → Steps p.tables e below EN t := by
            intro t kt
            refine pre778 t ?_
            refine o_ifN X0 hx hby at_75 ((if0 _ _).trans (feq hc1006).1) (o_iload X0 hx hby at_78 rfl (o_goto X0 hx hby at_80 (pc := 80) (pc' := 92) (by decide) (by decide) ?_))
            exact kt
          exact join782 i763 ⟨_, hi763⟩ pre1010
      by_cases hc1011 : i767 = (0 : Int32)
      · skip
        subst hc1011
        obtain ⟨i1012, hi1012⟩ : ∃ z, z = (p2 &&& (255 : Int32)) := ⟨_, rfl⟩
        have pre1013 : ∀ t, Steps p.tables e below (s₁.setTop (mkF m 68 #[vI p1, vI p2, vI p3, vI 2, vI 2, vI i761, vI i763, vI i765, .unset, .unset, .unset, .unset, .unset, .unset, .unset, .unset] [(.int i1012)])) t → Steps p.tables e below EN t := by
          intro t kt
          refine pre768 t ?_
          refine o_ifY X0 hx hby at_54 (pc := 54) (pc' := 62) (by decide +kernel) (by decide) (by decide) (o_iloadN X0 hx hby at_62 rfl (o_sipush X0 hx hby at_63 (x := 255) rfl (o_iand X0 hx hby at_66 (z := i1012) hi1012.symm (o_i2c X0 hx hby at_67 (z := i1012) (own_i2c255 hi1012) ?_))))
          exact kt
        exact join771 i1012 ⟨_, hi1012⟩ pre1013
      · skip
        have pre1014 : ∀ t, Steps p.tables e below (s₁.setTop (mkF m 68 #[vI p1, vI p2, vI p3, vI 2, vI 2, vI i761, vI i763, vI i765, .unset, .unset, .unset, .unset, .unset, .unset, .unset, .unset] [(.int i761)])) t → Steps p.tables e below EN t := by
          intro t kt
          refine pre768 t ?_
          refine o_ifN X0 hx hby at_54 ((if0 _ _).trans (feq hc1011).1) (o_iload X0 hx hby at_57 rfl (o_goto X0 hx hby at_59 (pc := 59) (pc' := 68) (by decide) (by decide) ?_))
          exact kt
        exact join771 i761 ⟨_, hi761⟩ pre1014
    · skip
      obtain ⟨i1015, hi1015⟩ : ∃ z, z = (p1 &&& (255 : Int32)) := ⟨_, rfl⟩
      obtain ⟨i1016, hi1016⟩ : ∃ z, z = ((p1.toUInt32 >>> ((8 : Int32) &&& 31).toUInt32).toInt32) := ⟨_, rfl⟩
      obtain ⟨i1017, hi1017⟩ : ∃ z, z = (i1016 &&& (255 : Int32)) := ⟨_, rfl⟩
      obtain ⟨i1018, hi1018⟩ : ∃ z, z = ((p1.toUInt32 >>> ((16 : Int32) &&& 31).toUInt32).toInt32) := ⟨_, rfl⟩
      obtain ⟨i1019, hi1019⟩ : ∃ z, z = (i1018 &&& (255 : Int32)) := ⟨_, rfl⟩
      obtain ⟨i1020, hi1020⟩ : ∃ z, z = ((p3.toUInt32 >>> ((4 : Int32) &&& 31).toUInt32).toInt32) := ⟨_, rfl⟩
      obtain ⟨i1021, hi1021⟩ : ∃ z, z = (i1020 &&& (1 : Int32)) := ⟨_, rfl⟩
      have pre1022 : ∀ t, Steps p.tables e below (s₁.setTop (mkF m 54 #[vI p1, vI p2, vI p3, vI 2, vI 3, vI i1015, vI i1017, vI i1019, .unset, .unset, .unset, .unset, .unset, .unset, .unset, .unset] [(.int i1021)])) t → Steps p.tables e below EN t := by
        intro t kt
        refine pre584 t ?_
        refine o_irem X0 hx hby at_15 (by decide +kernel : ¬ ((3 : Int32) = (0 : Int32))) (z := (2 : Int32)) hq583 (o_iadd X0 hx hby at_16 (z := (3 : Int32)) (by decide +kernel) (o_istore X0 hx hby at_17 (Ls' := #[vI p1, vI p2, vI p3, vI 2, vI 3, .unset, .unset, .unset, .unset, .unset, .unset, .unset, .unset, .unset, .unset, .unset]) rfl (o_iloadN X0 hx hby at_19 rfl (o_sipush X0 hx hby at_20 (x := 255) rfl (o_iand X0 hx hby at_23 (z := i1015) hi1015.symm (o_i2c X0 hx hby at_24 (z := i1015) (own_i2c255 hi1015) (o_istore X0 hx hby at_25 (Ls' := #[vI p1, vI p2, vI p3, vI 2, vI 3, vI i1015, .unset, .unset, .unset, .unset, .unset, .unset, .unset, .unset, .unset, .unset]) rfl (o_iloadN X0 hx hby at_27 rfl (o_bipush X0 hx hby at_28 (x := 8) rfl (o_iushr X0 hx hby at_30 (z := i1016) hi1016.symm (o_sipush X0 hx hby at_31 (x := 255) rfl (o_iand X0 hx hby at_34 (z := i1017) hi1017.symm (o_i2c X0 hx hby at_35 (z := i1017) (own_i2c255 hi1017) (o_istore X0 hx hby at_36 (Ls' := #[vI p1, vI p2, vI p3, vI 2, vI 3, vI i1015, vI i1017, .unset, .unset, .unset, .unset, .unset, .unset, .unset, .unset, .unset]) rfl (o_iloadN X0 hx hby at_38 rfl (o_bipush X0 hx hby at_39 (x := 16) rfl (o_iushr X0 hx hby at_41 (z := i1018) hi1018.symm (o_sipush X0 hx hby at_42 (x := 255) rfl (o_iand X0 hx hby at_45 (z := i1019) hi1019.symm (o_i2c X0 hx hby at_46 (z := i1019) (own_i2c255 hi1019) (o_istore X0 hx hby at_47 (Ls' := #[vI p1, vI p2, vI p3, vI 2, vI 3, vI i1015, vI i1017, vI i1019, .unset, .unset, .unset, .unset, .unset, .unset, .unset, .unset]) rfl (o_iloadN X0 hx hby at_49 rfl (o_iconst X0 hx hby at_50 (x := 4) rfl (o_iushr X0 hx hby at_51 (z := i1020) hi1020.symm (o_iconst X0 hx hby at_52 (x := 1) rfl (o_iand X0 hx hby at_53 (z := i1021) hi1021.symm ?_))))))))))))))))))))))))))
        exact kt
      have join1025 : ∀ (i1026 : Int32), (∃ y : Int32, i1026 = (y &&& (255 : Int32))) → (∀ t, Steps p.tables e below (s₁.setTop (mkF m 68 #[vI p1, vI p2, vI p3, vI 2, vI 3, vI i1015, vI i1017, vI i1019, .unset, .unset, .unset, .unset, .unset, .unset, .unset, .unset] [(.int i1026)])) t → Steps p.tables e below EN t) → False := by
        rintro i1026 ⟨x1028, hp1027⟩ pre1029
        obtain ⟨i1030, hi1030⟩ : ∃ z, z = ((p3.toUInt32 >>> ((5 : Int32) &&& 31).toUInt32).toInt32) := ⟨_, rfl⟩
        obtain ⟨i1031, hi1031⟩ : ∃ z, z = (i1030 &&& (1 : Int32)) := ⟨_, rfl⟩
        have pre1032 : ∀ t, Steps p.tables e below (s₁.setTop (mkF m 75 #[vI p1, vI p2, vI p3, vI 2, vI 3, vI i1015, vI i1017, vI i1019, vI i1026, .unset, .unset, .unset, .unset, .unset, .unset, .unset] [(.int i1031)])) t → Steps p.tables e below EN t := by
          intro t kt
          refine pre1029 t ?_
          refine o_istore X0 hx hby at_68 (Ls' := #[vI p1, vI p2, vI p3, vI 2, vI 3, vI i1015, vI i1017, vI i1019, vI i1026, .unset, .unset, .unset, .unset, .unset, .unset, .unset]) rfl (o_iloadN X0 hx hby at_70 rfl (o_iconst X0 hx hby at_71 (x := 5) rfl (o_iushr X0 hx hby at_72 (z := i1030) hi1030.symm (o_iconst X0 hx hby at_73 (x := 1) rfl (o_iand X0 hx hby at_74 (z := i1031) hi1031.symm ?_)))))
          exact kt
        have join1036 : ∀ (i1037 : Int32), (∃ y : Int32, i1037 = (y &&& (255 : Int32))) → (∀ t, Steps p.tables e below (s₁.setTop (mkF m 92 #[vI p1, vI p2, vI p3, vI 2, vI 3, vI i1015, vI i1017, vI i1019, vI i1026, .unset, .unset, .unset, .unset, .unset, .unset, .unset] [(.int i1037)])) t → Steps p.tables e below EN t) → False := by
          rintro i1037 ⟨x1039, hp1038⟩ pre1040
          obtain ⟨i1041, hi1041⟩ : ∃ z, z = ((p3.toUInt32 >>> ((6 : Int32) &&& 31).toUInt32).toInt32) := ⟨_, rfl⟩
          obtain ⟨i1042, hi1042⟩ : ∃ z, z = (i1041 &&& (1 : Int32)) := ⟨_, rfl⟩
          have pre1043 : ∀ t, Steps p.tables e below (s₁.setTop (mkF m 100 #[vI p1, vI p2, vI p3, vI 2, vI 3, vI i1015, vI i1017, vI i1019, vI i1026, vI i1037, .unset, .unset, .unset, .unset, .unset, .unset] [(.int i1042)])) t → Steps p.tables e below EN t := by
            intro t kt
            refine pre1040 t ?_
            refine o_istore X0 hx hby at_92 (Ls' := #[vI p1, vI p2, vI p3, vI 2, vI 3, vI i1015, vI i1017, vI i1019, vI i1026, vI i1037, .unset, .unset, .unset, .unset, .unset, .unset]) rfl (o_iloadN X0 hx hby at_94 rfl (o_bipush X0 hx hby at_95 (x := 6) rfl (o_iushr X0 hx hby at_97 (z := i1041) hi1041.symm (o_iconst X0 hx hby at_98 (x := 1) rfl (o_iand X0 hx hby at_99 (z := i1042) hi1042.symm ?_)))))
            exact kt
          have join1047 : ∀ (i1048 : Int32), (∃ y : Int32, i1048 = (y &&& (255 : Int32))) → (∀ t, Steps p.tables e below (s₁.setTop (mkF m 117 #[vI p1, vI p2, vI p3, vI 2, vI 3, vI i1015, vI i1017, vI i1019, vI i1026, vI i1037, .unset, .unset, .unset, .unset, .unset, .unset] [(.int i1048)])) t → Steps p.tables e below EN t) → False := by
            rintro i1048 ⟨x1050, hp1049⟩ pre1051
            obtain ⟨T1052, h1052, X1052, e1052, E1052, A1052, D1052, -, st1052⟩ := newO X0 hx hZ hown (ww0 hw) (ww1 hw) (ww2 hw) e0 (g := (mkF m 119 #[vI p1, vI p2, vI p3, vI 2, vI 3, vI i1015, vI i1017, vI i1019, vI i1026, vI i1037, vI i1048, .unset, .unset, .unset, .unset, .unset] [])) rfl (hb hby at_119) (by decide) (by decide)
            obtain ⟨b1052, g1052⟩ : ∃ z, z = h0.size := ⟨_, rfl⟩
            rw [← g1052] at A1052 D1052 st1052
            have O1052 : Old Z n0 h1052 := O0.ext E1052
            have bd_b1052 : h0.size ≤ b1052 := Nat.le_of_eq g1052.symm
            have g_b1052 : n0 ≤ b1052 := Nat.le_trans (own_z O0) bd_b1052
            have sz_b1052 : h0.size ≤ b1052 := Nat.le_trans (Nat.le_refl _) bd_b1052
            have lt_b1052 : b1052 < h1052.size := A1052.lt
            have D1052_31 : Fld Z h1052 b1052 C_0 "coder" "B" (.int 0) := D1052 (Or.inr (ww31 hw)) (ty := .byte) (by decide)
            have D1052_33 : Fld Z h1052 b1052 C_0 "value" "[B" .null := D1052 (Or.inr (ww33 hw)) (ty := (.array .byte)) (by decide)
            obtain ⟨_, T1053, L1053, X1053, hQ1053, st1053⟩ := own_cS X1052 hx hZ hown (ww3 hw) (ww4 hw) (ww5 hw) (ww6 hw) (rm1_30 l Z a0 hw i1015 i1017 i1019 h1052 n0 O1052) e1052 pd_0 hml (hb hby at_130) (Ls := #[vI p1, vI p2, vI p3, vI 2, vI 3, vI i1015, vI i1017, vI i1019, vI i1026, vI i1037, vI i1048, .unset, .unset, .unset, .unset, .unset]) (W := 2) (argsL := [(.int 2), (.int i1015), (.int i1017), (.int i1019)]) (rest := [(.ref b1052), (.ref b1052)])
            obtain ⟨i1054, i1055, b1056, k1057, u1058, u1059, rfl, u1061, u1062, u1063, Ku1064, u1065, u1066⟩ := hQ1053
            have Ou1064 : Old Z n0 T1053.heap := O1052.keep Ku1064 all0
            have g_b1056 : n0 ≤ b1056 := Nat.le_trans (own_z O1052) u1062
            have sz_b1056 : h0.size ≤ b1056 := Nat.le_trans E1052.1 u1062
            have N1053 := Fr.app N0 u1061
            have pre1067 : ∀ t, Steps p.tables e below (T1053.setTop (mkF m 133 #[vI p1, vI p2, vI p3, vI 2, vI 3, vI i1015, vI i1017, vI i1019, vI i1026, vI i1037, vI i1048, .unset, .unset, .unset, .unset, .unset] [(.ref b1056), (.ref b1052), (.ref b1052)])) t → Steps p.tables e below EN t := by
              intro t kt
              refine pre1051 t ?_
              refine o_istore X0 hx hby at_117 (Ls' := #[vI p1, vI p2, vI p3, vI 2, vI 3, vI i1015, vI i1017, vI i1019, vI i1026, vI i1037, vI i1048, .unset, .unset, .unset, .unset, .unset]) rfl (st1052 _ (o_dup X1052 hx hby at_122 rfl (o_iloadN X1052 hx hby at_123 rfl (o_iload X1052 hx hby at_124 rfl (o_iload X1052 hx hby at_126 rfl (o_iload X1052 hx hby at_128 rfl (st1053 _ ?_)))))))
              exact kt
            obtain rfl : i1015 = i1055 := (u1058.trans (own_nar255 hi1015)).symm
            obtain rfl : i1017 = i1054 := (u1059.trans (own_nar255 hi1017)).symm
            have f1068 : Exa Z T1053.heap b1052 C_0 := (A1052.keep Ku1064)
            have f1069 : Fld Z T1053.heap b1052 C_0 "coder" "B" (.int 0) := (D1052_31.keep Ku1064 nin0)
            have f1070 : Fld Z T1053.heap b1052 C_0 "value" "[B" .null := (D1052_33.keep Ku1064 nin0)
            obtain ⟨_, T1071, L1071, X1071, hQ1071, st1071⟩ := own_cI X1053 hx hZ hown (ww8 hw) (ww9 hw) (ww2 hw) (ww10 hw) (rm2_31 l Z a0 hw b1052 b1056 i1015 i1017 k1057 p62 T1053.heap n0 Ou1064 u1066 S_63 hk64 (own_lt255 hi1015) (own_lt255 hi1017) f1068 f1069 f1070 u1063 g_b1052 (own_t lt_b1052 Ku1064.1)) rfl pd_5 hml (hb hby at_133) (Ls := #[vI p1, vI p2, vI p3, vI 2, vI 3, vI i1015, vI i1017, vI i1019, vI i1026, vI i1037, vI i1048, .unset, .unset, .unset, .unset, .unset]) (W := 1) (argsL := [(.ref b1056)]) (rest := [(.ref b1052)]) (b := b1052)
            obtain ⟨i1072, i1073, b1074, k1075, u1076, u1077, rfl, u1079, u1080, u1081, Ku1082, u1083, u1084, u1085, u1086, u1087⟩ := hQ1071
            have Ou1082 : Old Z n0 T1071.heap := Ou1064.keep Ku1082 (allS g_b1052 all0)
            have g_b1074 : n0 ≤ b1074 := Nat.le_trans (own_z Ou1064) u1080
            have sz_b1074 : h0.size ≤ b1074 := Nat.le_trans (Nat.le_trans E1052.1 Ku1064.1) u1080
            have N1071 := Fr.app N1053 u1079
            obtain ⟨T1088, h1088, X1088, e1088, E1088, A1088, D1088, -, st1088⟩ := newO X1071 hx hZ hown (ww0 hw) (ww1 hw) (ww2 hw) rfl (g := (mkF m 138 #[vI p1, vI p2, vI p3, vI 2, vI 3, vI i1015, vI i1017, vI i1019, vI i1026, vI i1037, vI i1048, vR b1052, .unset, .unset, .unset, .unset] [])) rfl (hb hby at_138) (by decide) (by decide)
            obtain ⟨b1088, g1088⟩ : ∃ z, z = T1071.heap.size := ⟨_, rfl⟩
            rw [← g1088] at A1088 D1088 st1088
            have O1088 : Old Z n0 h1088 := Ou1082.ext E1088
            have bd_b1088 : T1071.heap.size ≤ b1088 := Nat.le_of_eq g1088.symm
            have g_b1088 : n0 ≤ b1088 := Nat.le_trans (own_z Ou1082) bd_b1088
            have sz_b1088 : h0.size ≤ b1088 := Nat.le_trans (Nat.le_trans (Nat.le_trans E1052.1 Ku1064.1) Ku1082.1) bd_b1088
            have lt_b1088 : b1088 < h1088.size := A1088.lt
            have D1088_31 : Fld Z h1088 b1088 C_0 "coder" "B" (.int 0) := D1088 (Or.inr (ww31 hw)) (ty := .byte) (by decide)
            have D1088_33 : Fld Z h1088 b1088 C_0 "value" "[B" .null := D1088 (Or.inr (ww33 hw)) (ty := (.array .byte)) (by decide)
            obtain ⟨_, T1089, L1089, X1089, hQ1089, st1089⟩ := own_cS X1088 hx hZ hown (ww3 hw) (ww4 hw) (ww5 hw) (ww6 hw) (rm1_55 l Z a0 hw i1026 i1037 i1048 h1088 n0 O1088) e1088 pd_0 hml (hb hby at_150) (Ls := #[vI p1, vI p2, vI p3, vI 2, vI 3, vI i1015, vI i1017, vI i1019, vI i1026, vI i1037, vI i1048, vR b1052, .unset, .unset, .unset, .unset]) (W := 2) (argsL := [(.int 3), (.int i1026), (.int i1037), (.int i1048)]) (rest := [(.ref b1088), (.ref b1088)])
            obtain ⟨i1090, i1091, i1092, b1093, k1094, u1095, u1096, u1097, rfl, u1099, u1100, u1101, Ku1102, u1103, u1104⟩ := hQ1089
            have Ou1102 : Old Z n0 T1089.heap := O1088.keep Ku1102 all0
            have g_b1093 : n0 ≤ b1093 := Nat.le_trans (own_z O1088) u1100
            have sz_b1093 : h0.size ≤ b1093 := Nat.le_trans (Nat.le_trans (Nat.le_trans (Nat.le_trans E1052.1 Ku1064.1) Ku1082.1) E1088.1) u1100
            have N1089 := Fr.app N1071 u1099
            have pre1105 : ∀ t, Steps p.tables e below (T1089.setTop (mkF m 153 #[vI p1, vI p2, vI p3, vI 2, vI 3, vI i1015, vI i1017, vI i1019, vI i1026, vI i1037, vI i1048, vR b1052, .unset, .unset, .unset, .unset] [(.ref b1093), (.ref b1088), (.ref b1088)])) t → Steps p.tables e below EN t := by
              intro t kt
              refine pre1067 t ?_
              refine st1071 _ (o_astore X1071 hx hby at_136 rfl (Ls' := #[vI p1, vI p2, vI p3, vI 2, vI 3, vI i1015, vI i1017, vI i1019, vI i1026, vI i1037, vI i1048, vR b1052, .unset, .unset, .unset, .unset]) rfl (st1088 _ (o_dup X1088 hx hby at_141 rfl (o_iload X1088 hx hby at_142 rfl (o_iload X1088 hx hby at_144 rfl (o_iload X1088 hx hby at_146 rfl (o_iload X1088 hx hby at_148 rfl (st1089 _ ?_))))))))
              exact kt
            obtain rfl : i1026 = i1092 := (u1095.trans (own_nar255 hp1027)).symm
            obtain rfl : i1037 = i1090 := (u1096.trans (own_nar255 hp1038)).symm
            obtain rfl : i1048 = i1091 := (u1097.trans (own_nar255 hp1049)).symm
            have f1106 : Exa Z T1089.heap b1088 C_0 := (A1088.keep Ku1102)
            have f1107 : Fld Z T1089.heap b1088 C_0 "coder" "B" (.int 0) := (D1088_31.keep Ku1102 nin0)
            have f1108 : Fld Z T1089.heap b1088 C_0 "value" "[B" .null := (D1088_33.keep Ku1102 nin0)
            obtain ⟨_, T1109, L1109, X1109, hQ1109, st1109⟩ := own_cI X1089 hx hZ hown (ww8 hw) (ww9 hw) (ww2 hw) (ww10 hw) (rm2_56 l Z a0 hw b1088 b1093 i1026 i1037 i1048 k1094 p62 T1089.heap n0 Ou1102 u1104 S_63 hk64 (own_lt255 hp1027) (own_lt255 hp1038) (own_lt255 hp1049) f1106 f1107 f1108 u1101 g_b1088 (own_t lt_b1088 Ku1102.1)) rfl pd_5 hml (hb hby at_153) (Ls := #[vI p1, vI p2, vI p3, vI 2, vI 3, vI i1015, vI i1017, vI i1019, vI i1026, vI i1037, vI i1048, vR b1052, .unset, .unset, .unset, .unset]) (W := 1) (argsL := [(.ref b1093)]) (rest := [(.ref b1088)]) (b := b1088)
            obtain ⟨i1110, i1111, i1112, b1113, k1114, u1115, u1116, u1117, rfl, u1119, u1120, u1121, Ku1122, u1123, u1124, u1125, u1126, u1127⟩ := hQ1109
            have Ou1122 : Old Z n0 T1109.heap := Ou1102.keep Ku1122 (allS g_b1088 all0)
            have g_b1113 : n0 ≤ b1113 := Nat.le_trans (own_z Ou1102) u1120
            have sz_b1113 : h0.size ≤ b1113 := Nat.le_trans (Nat.le_trans (Nat.le_trans (Nat.le_trans (Nat.le_trans E1052.1 Ku1064.1) Ku1082.1) E1088.1) Ku1102.1) u1120
            have N1109 := Fr.app N1089 u1119
            obtain ⟨T1128, h1128, X1128, e1128, E1128, A1128, D1128, -, st1128⟩ := newO X1109 hx hZ hown (ww34 hw) (ww35 hw) (ww36 hw) rfl (g := (mkF m 158 #[vI p1, vI p2, vI p3, vI 2, vI 3, vI i1015, vI i1017, vI i1019, vI i1026, vI i1037, vI i1048, vR b1052, vR b1088, .unset, .unset, .unset] [])) rfl (hb hby at_158) (by decide) (by decide)
            obtain ⟨b1128, g1128⟩ : ∃ z, z = T1109.heap.size := ⟨_, rfl⟩
            rw [← g1128] at A1128 D1128 st1128
            have O1128 : Old Z n0 h1128 := Ou1122.ext E1128
            have bd_b1128 : T1109.heap.size ≤ b1128 := Nat.le_of_eq g1128.symm
            have g_b1128 : n0 ≤ b1128 := Nat.le_trans (own_z Ou1122) bd_b1128
            have sz_b1128 : h0.size ≤ b1128 := Nat.le_trans (Nat.le_trans (Nat.le_trans (Nat.le_trans (Nat.le_trans (Nat.le_trans E1052.1 Ku1064.1) Ku1082.1) E1088.1) Ku1102.1) Ku1122.1) bd_b1128
            have lt_b1128 : b1128 < h1128.size := A1128.lt
            have D1128_92 : Fld Z h1128 b1128 C_1 "text" C_2 .null := D1128 (Or.inr (ww92 hw)) (ty := (.object "java/lang/String")) (by decide)
            have f1129 : Exa Z h1128 b1052 C_0 := (Exa.ext E1128 (((Exa.ext E1088 u1083).keep Ku1102).keep Ku1122))
            have f1130 : Fld Z h1128 b1052 C_0 "value" "[B" (.ref b1074) := (Fld.ext E1128 (((Fld.ext E1088 u1085).keep Ku1102 nin0).keep Ku1122 (ninS (own_n (own_t (own_t lt_b1052 Ku1064.1) Ku1082.1) bd_b1088) nin0)))
            have f1131 : Arv Z h1128 b1074 k1075 .byte (2 : Int32) [(.int i1073), (.int i1072)] (.int (0 : Int32)) := ((((u1087.ext E1088).keep Ku1102 nin0).keep Ku1122 (ninS (own_n u1081 bd_b1088) nin0)).ext E1128)
            have f1132 : Fld Z h1128 b1052 C_0 "coder" "B" (.int 0) := (Fld.ext E1128 (((Fld.ext E1088 u1084).keep Ku1102 nin0).keep Ku1122 (ninS (own_n (own_t (own_t lt_b1052 Ku1064.1) Ku1082.1) bd_b1088) nin0)))
            obtain ⟨_, T1133, L1133, X1133, hS1133, hZ1133, hown1133, hQ1133, st1133⟩ := own_cIW (s := s) (vm0 := s.vm) X1128 hx hZ hown hS0 (Nat.le_trans (Nat.le_trans (Nat.le_trans (Nat.le_trans (Nat.le_trans (Nat.le_trans (Nat.le_trans Y0 E1052.1) Ku1064.1) Ku1082.1) E1088.1) Ku1102.1) Ku1122.1) E1128.1) (ww37 hw) (ww38 hw) (ww36 hw) (ww39 hw) (rm8_36 l Z a0 hw b1128 b1052 b1074 i1073 i1072 k1075 p62 va116 h1128 n0 O1128 f1129 f1130 f1131 S_63 hk64 f1132 S_117 ir_va116 A1128 D1128_92 g_b1128) e1128 pd_17 hml (hb hby at_164) (Ls := #[vI p1, vI p2, vI p3, vI 2, vI 3, vI i1015, vI i1017, vI i1019, vI i1026, vI i1037, vI i1048, vR b1052, vR b1088, .unset, .unset, .unset]) (W := 1) (argsL := [(.ref b1052)]) (rest := [(.ref b1128)]) (b := b1128)
            obtain ⟨rfl, u1135, Ku1136, u1137, u1138⟩ := hQ1133
            have Ou1136 : Old Z n0 T1133.heap := O1128.keep Ku1136 (allS g_b1128 all0)
            have N1133 := Fr.app N1109 u1135
            obtain ⟨T1139, h1139, X1139, e1139, E1139, A1139, D1139, -, st1139⟩ := newO X1133 hx hZ1133 hown1133 (ww34 hw) (ww35 hw) (ww36 hw) rfl (g := (mkF m 169 #[vI p1, vI p2, vI p3, vI 2, vI 3, vI i1015, vI i1017, vI i1019, vI i1026, vI i1037, vI i1048, vR b1052, vR b1088, vR b1128, .unset, .unset] [])) rfl (hb hby at_169) (by decide) (by decide)
            obtain ⟨b1139, g1139⟩ : ∃ z, z = T1133.heap.size := ⟨_, rfl⟩
            rw [← g1139] at A1139 D1139 st1139
            have O1139 : Old Z n0 h1139 := Ou1136.ext E1139
            have bd_b1139 : T1133.heap.size ≤ b1139 := Nat.le_of_eq g1139.symm
            have g_b1139 : n0 ≤ b1139 := Nat.le_trans (own_z Ou1136) bd_b1139
            have sz_b1139 : h0.size ≤ b1139 := Nat.le_trans (Nat.le_trans (Nat.le_trans (Nat.le_trans (Nat.le_trans (Nat.le_trans (Nat.le_trans (Nat.le_trans E1052.1 Ku1064.1) Ku1082.1) E1088.1) Ku1102.1) Ku1122.1) E1128.1) Ku1136.1) bd_b1139
            have lt_b1139 : b1139 < h1139.size := A1139.lt
            have D1139_92 : Fld Z h1139 b1139 C_1 "text" C_2 .null := D1139 (Or.inr (ww92 hw)) (ty := (.object "java/lang/String")) (by decide)
            have f1140 : Exa Z h1139 b1088 C_0 := (Exa.ext E1139 ((Exa.ext E1128 u1123).keep Ku1136))
            have f1141 : Fld Z h1139 b1088 C_0 "value" "[B" (.ref b1113) := (Fld.ext E1139 ((Fld.ext E1128 u1125).keep Ku1136 (ninS (own_n (own_t (own_t lt_b1088 Ku1102.1) Ku1122.1) bd_b1128) nin0)))
            have f1142 : Arv Z h1139 b1113 k1114 .byte (3 : Int32) [(.int i1110), (.int i1111), (.int i1112)] (.int (0 : Int32)) := (((u1127.ext E1128).keep Ku1136 (ninS (own_n u1121 bd_b1128) nin0)).ext E1139)
            have f1143 : Fld Z h1139 b1088 C_0 "coder" "B" (.int 0) := (Fld.ext E1139 ((Fld.ext E1128 u1124).keep Ku1136 (ninS (own_n (own_t (own_t lt_b1088 Ku1102.1) Ku1122.1) bd_b1128) nin0)))
            obtain ⟨_, T1144, L1144, X1144, hS1144, hZ1144, hown1144, hQ1144, st1144⟩ := own_cIW (s := s) (vm0 := T1133.vm) X1139 hx hZ1133 hown1133 hS1133 (Nat.le_trans (Nat.le_refl _) E1139.1) (ww37 hw) (ww38 hw) (ww36 hw) (ww39 hw) (rm8_61 l Z a0 hw b1139 b1088 b1113 i1110 i1111 i1112 k1114 p62 va116 h1139 n0 O1139 f1140 f1141 f1142 S_63 hk64 f1143 S_117 ir_va116 A1139 D1139_92 g_b1139) e1139 pd_17 hml (hb hby at_175) (Ls := #[vI p1, vI p2, vI p3, vI 2, vI 3, vI i1015, vI i1017, vI i1019, vI i1026, vI i1037, vI i1048, vR b1052, vR b1088, vR b1128, .unset, .unset]) (W := 1) (argsL := [(.ref b1088)]) (rest := [(.ref b1139)]) (b := b1139)
            obtain ⟨rfl, u1146, Ku1147, u1148, u1149⟩ := hQ1144
            have Ou1147 : Old Z n0 T1144.heap := O1139.keep Ku1147 (allS g_b1139 all0)
            have N1144 := Fr.app N1133 u1146
            have f1150 : Fld Z T1144.heap b1128 C_1 "text" C_2 (.ref b1052) := ((Fld.ext E1139 u1138).keep Ku1147 (ninS (own_n (own_t lt_b1128 Ku1136.1) bd_b1139) nin0))
            have f1151 : Exa Z T1144.heap b1052 C_0 := ((Exa.ext E1139 (f1129.keep Ku1136)).keep Ku1147)
            have f1152 : Exa Z T1144.heap b1088 C_0 := (f1140.keep Ku1147)
            have ne1153 : b1052 ≠ b1128 := (own_n (own_t (own_t (own_t (own_t (own_t lt_b1052 Ku1064.1) Ku1082.1) E1088.1) Ku1102.1) Ku1122.1) bd_b1128)
            have ne1154 : b1052 ≠ b1139 := (own_n (own_t (own_t (own_t (own_t (own_t (own_t (own_t lt_b1052 Ku1064.1) Ku1082.1) E1088.1) Ku1102.1) Ku1122.1) E1128.1) Ku1136.1) bd_b1139)
            have f1155 : Fld Z T1144.heap b1052 C_0 "coder" "B" (.int 0) := ((Fld.ext E1139 (f1132.keep Ku1136 (ninS ne1153 nin0))).keep Ku1147 (ninS ne1154 nin0))
            have ne1156 : b1088 ≠ b1139 := (own_n (own_t (own_t (own_t (own_t lt_b1088 Ku1102.1) Ku1122.1) E1128.1) Ku1136.1) bd_b1139)
            have f1157 : Fld Z T1144.heap b1088 C_0 "coder" "B" (.int 0) := (f1143.keep Ku1147 (ninS ne1156 nin0))
            have f1158 : Fld Z T1144.heap b1052 C_0 "value" "[B" (.ref b1074) := ((Fld.ext E1139 (f1130.keep Ku1136 (ninS ne1153 nin0))).keep Ku1147 (ninS ne1154 nin0))
            have f1159 : Fld Z T1144.heap b1088 C_0 "value" "[B" (.ref b1113) := (f1141.keep Ku1147 (ninS ne1156 nin0))
            have ne1160 : b1074 ≠ b1128 := (own_n (own_t (own_t (own_t u1081 E1088.1) Ku1102.1) Ku1122.1) bd_b1128)
            have ne1161 : b1074 ≠ b1139 := (own_n (own_t (own_t (own_t (own_t (own_t u1081 E1088.1) Ku1102.1) Ku1122.1) E1128.1) Ku1136.1) bd_b1139)
            have f1162 : Arv Z T1144.heap b1074 k1075 .byte (2 : Int32) [(.int i1073), (.int i1072)] (.int (0 : Int32)) := (((f1131.keep Ku1136 (ninS ne1160 nin0)).ext E1139).keep Ku1147 (ninS ne1161 nin0))
            have f1163 : Arv Z T1144.heap b1113 k1114 .byte (3 : Int32) [(.int i1110), (.int i1111), (.int i1112)] (.int (0 : Int32)) := (f1142.keep Ku1147 (ninS (own_n (own_t (own_t u1121 E1128.1) Ku1136.1) bd_b1139) nin0))
            have f1165 : Exa Z T1144.heap b1128 C_1 := ((Exa.ext E1139 u1137).keep Ku1147)
            obtain ⟨_, T1164, L1164, X1164, hQ1164, st1164⟩ := own_cV X1144 hx hZ1144 hown1144 (ww93 hw) (ww94 hw) (notFace_of_selects (args := #[]) (mvT hZ1144 (ww96 hw))) (ww96 hw) (ww95 hw) (ww36 hw) (ww97 hw) f1165 (rm20_93 l Z a0 hw b1128 b1139 b1052 b1088 p62 b1074 b1113 i1073 i1072 k1075 i1110 i1111 i1112 k1114 T1144.heap n0 Ou1147 (own_n (own_t lt_b1128 Ku1136.1) bd_b1139) u1148 f1150 u1149 f1151 (own_n (own_t (own_t lt_b1052 Ku1064.1) Ku1082.1) bd_b1088) f1152 S_63 hk64 f1155 f1157 f1158 f1159 f1162 f1163) rfl pd_19 hml (hb hby at_228) (Ls := #[vI p1, vI p2, vI p3, vI 2, vI 3, vI i1015, vI i1017, vI i1019, vI i1026, vI i1037, vI i1048, vR b1052, vR b1088, vR b1128, vR b1139, vI 0]) (W := 0) (argsL := [(.ref b1139)]) (rest := [])
            obtain ⟨rfl, u1167, u1168⟩ := hQ1164
            have N1164 := Fr.app N1144 u1167
            obtain ⟨_, T1169, L1169, X1169, hQ1169, st1169⟩ := own_cV X1164 hx hZ1144 hown1144 (ww93 hw) (ww94 hw) (notFace_of_selects (args := #[]) (mvT hZ1144 (ww96 hw))) (ww96 hw) (ww95 hw) (ww36 hw) (ww97 hw) u1148 (rm20_96 l Z a0 hw b1139 b1128 b1088 b1052 p62 b1113 b1074 i1110 i1111 i1112 k1114 i1073 i1072 k1075 T1144.heap n0 Ou1147 (Ne.symm (own_n (own_t lt_b1128 Ku1136.1) bd_b1139)) f1165 u1149 f1150 f1152 (Ne.symm (own_n (own_t (own_t lt_b1052 Ku1064.1) Ku1082.1) bd_b1088)) f1151 S_63 hk64 f1157 f1155 f1159 f1158 f1163 f1162) u1168 pd_19 hml (hb hby at_240) (Ls := #[vI p1, vI p2, vI p3, vI 2, vI 3, vI i1015, vI i1017, vI i1019, vI i1026, vI i1037, vI i1048, vR b1052, vR b1088, vR b1128, vR b1139, vI 0]) (W := 0) (argsL := [(.ref b1128)]) (rest := [])
            obtain ⟨rfl, u1171, u1172⟩ := hQ1169
            have N1169 := Fr.app N1164 u1171
            obtain ⟨_, T1173, L1173, X1173, hQ1173, st1173⟩ := own_cV X1169 hx hZ1144 hown1144 (ww93 hw) (ww94 hw) (notFace_of_selects (args := #[]) (mvT hZ1144 (ww96 hw))) (ww96 hw) (ww95 hw) (ww36 hw) (ww97 hw) f1165 (rm20_24 l Z a0 hw b1128 T1144.heap n0 Ou1147) u1172 pd_19 hml (hb hby at_252) (Ls := #[vI p1, vI p2, vI p3, vI 2, vI 3, vI i1015, vI i1017, vI i1019, vI i1026, vI i1037, vI i1048, vR b1052, vR b1088, vR b1128, vR b1139, vI 0]) (W := 0) (argsL := [(.ref b1128)]) (rest := [])
            obtain ⟨rfl, u1175, u1176⟩ := hQ1173
            have N1173 := Fr.app N1169 u1175
            obtain ⟨_, T1177, L1177, X1177, hQ1177, st1177⟩ := own_cV X1173 hx hZ1144 hown1144 (ww93 hw) (ww94 hw) (notFace_of_selects (args := #[]) (mvT hZ1144 (ww96 hw))) (ww96 hw) (ww95 hw) (ww36 hw) (ww97 hw) f1165 (rm20_25 l Z a0 hw b1128 T1144.heap n0 Ou1147) u1176 pd_19 hml (hb hby at_261) (Ls := #[vI p1, vI p2, vI p3, vI 2, vI 3, vI i1015, vI i1017, vI i1019, vI i1026, vI i1037, vI i1048, vR b1052, vR b1088, vR b1128, vR b1139, vI 0]) (W := 0) (argsL := [.null]) (rest := [])
            obtain ⟨rfl, u1179, u1180⟩ := hQ1177
            have N1177 := Fr.app N1173 u1179
            obtain ⟨_, T1181, L1181, X1181, hQ1181, st1181⟩ := own_cV X1177 hx hZ1144 hown1144 (ww93 hw) (ww94 hw) (notFace_of_selects (args := #[]) (mvT hZ1144 (ww96 hw))) (ww96 hw) (ww95 hw) (ww36 hw) (ww97 hw) f1165 (rm20_26 l Z a0 hw b1128 b1052 T1144.heap n0 Ou1147 (Ne.symm ne1153) f1151) u1180 pd_19 hml (hb hby at_271) (Ls := #[vI p1, vI p2, vI p3, vI 2, vI 3, vI i1015, vI i1017, vI i1019, vI i1026, vI i1037, vI i1048, vR b1052, vR b1088, vR b1128, vR b1139, vI 0]) (W := 0) (argsL := [(.ref b1052)]) (rest := [])
            obtain ⟨rfl, u1183, u1184⟩ := hQ1181
            have N1181 := Fr.app N1177 u1183
            refine fin (some (.int 1)) _ _ _ _ T1144.vm _ X1181 hS1144 (by rw [u1184]; exact (Nat.le_refl _)) nofun (fun fs hr => pre1105 _ ?_) (own_atH u1184 ?_) (by decide) (by decide)
            · refine st1109 _ (o_astore X1109 hx hby at_156 rfl (Ls' := #[vI p1, vI p2, vI p3, vI 2, vI 3, vI i1015, vI i1017, vI i1019, vI i1026, vI i1037, vI i1048, vR b1052, vR b1088, .unset, .unset, .unset]) rfl (st1128 _ (o_dup X1128 hx hby at_161 rfl (o_aload X1128 hx hby at_162 rfl rfl (st1133 _ (o_astore X1133 hx hby at_167 rfl (Ls' := #[vI p1, vI p2, vI p3, vI 2, vI 3, vI i1015, vI i1017, vI i1019, vI i1026, vI i1037, vI i1048, vR b1052, vR b1088, vR b1128, .unset, .unset]) rfl (st1139 _ (o_dup X1139 hx hby at_172 rfl (o_aload X1139 hx hby at_173 rfl rfl (st1144 _ (o_astore X1144 hx hby at_178 rfl (Ls' := #[vI p1, vI p2, vI p3, vI 2, vI 3, vI i1015, vI i1017, vI i1019, vI i1026, vI i1037, vI i1048, vR b1052, vR b1088, vR b1128, vR b1139, .unset]) rfl (o_iloadN X1144 hx hby at_180 rfl (o_iload X1144 hx hby at_181 rfl (o_icmpY X1144 hx hby at_183 (pc := 183) (pc' := 221) (by decide +kernel) (by decide) (by decide) (o_iconst X1144 hx hby at_221 (x := 0) rfl (o_istore X1144 hx hby at_222 (Ls' := #[vI p1, vI p2, vI p3, vI 2, vI 3, vI i1015, vI i1017, vI i1019, vI i1026, vI i1037, vI i1048, vR b1052, vR b1088, vR b1128, vR b1139, vI 0]) rfl (o_aload X1144 hx hby at_224 rfl rfl (o_aload X1144 hx hby at_226 rfl rfl (st1164 _ (o_iload X1164 hx hby at_231 rfl (o_icmpN X1164 hx hby at_233 (by decide +kernel) (o_aload X1164 hx hby at_236 rfl rfl (o_aload X1164 hx hby at_238 rfl rfl (st1169 _ (o_iload X1169 hx hby at_243 rfl (o_icmpN X1169 hx hby at_245 (by decide +kernel) (o_aload X1169 hx hby at_248 rfl rfl (o_aload X1169 hx hby at_250 rfl rfl (st1173 _ (o_ifN X1173 hx hby at_255 (by decide +kernel) (o_aload X1173 hx hby at_258 rfl rfl (o_null X1173 hx hby at_260 (st1177 _ (o_ifN X1177 hx hby at_264 (by decide +kernel) (o_aload X1177 hx hby at_267 rfl rfl (o_aload X1177 hx hby at_269 rfl rfl (st1181 _ (o_ifN X1181 hx hby at_274 (by decide +kernel) (o_iconst X1181 hx hby at_277 (x := 1) rfl ?_)))))))))))))))))))))))))))))))))))))))
              refine o_goto X1181 hx hby at_278 (pc := 278) (pc' := 282) (by decide) (by decide) ?_
              exact retN X1181 hx (t := .boolean) hret (by simp) (hb hby at_282) hr
            · exact ⟨rfl, N1181⟩
          by_cases hc1185 : i1042 = (0 : Int32)
          · skip
            subst hc1185
            obtain ⟨i1186, hi1186⟩ : ∃ z, z = ((p2.toUInt32 >>> ((16 : Int32) &&& 31).toUInt32).toInt32) := ⟨_, rfl⟩
            obtain ⟨i1187, hi1187⟩ : ∃ z, z = (i1186 &&& (255 : Int32)) := ⟨_, rfl⟩
            have pre1188 : ∀ t, Steps p.tables e below (s₁.setTop (mkF m 117 #[vI p1, vI p2, vI p3, vI 2, vI 3, vI i1015, vI i1017, vI i1019, vI i1026, vI i1037, .unset, .unset, .unset, .unset, .unset, .unset] [(.int i1187)])) t → Steps p.tables e below EN t := by
              intro t kt
              refine pre1043 t ?_
              refine o_ifY X0 hx hby at_100 (pc := 100) (pc' := 108) (by decide +kernel) (by decide) (by decide) (o_iloadN X0 hx hby at_108 rfl (o_bipush X0 hx hby at_109 (x := 16) rfl (o_iushr X0 hx hby at_111 (z := i1186) hi1186.symm (o_sipush X0 hx hby at_112 (x := 255) rfl (o_iand X0 hx hby at_115 (z := i1187) hi1187.symm (o_i2c X0 hx hby at_116 (z := i1187) (own_i2c255 hi1187) ?_))))))
              exact kt
            exact join1047 i1187 ⟨_, hi1187⟩ pre1188
          · skip
            have pre1189 : ∀ t, Steps p.tables e below (s₁.setTop (mkF m 117 #[vI p1, vI p2, vI p3, vI 2, vI 3, vI i1015, vI i1017, vI i1019, vI i1026, vI i1037, .unset, .unset, .unset, .unset, .unset, .unset] [(.int i1019)])) t → Steps p.tables e below EN t := by
              intro t kt
              refine pre1043 t ?_
              refine o_ifN X0 hx hby at_100 ((if0 _ _).trans (feq hc1185).1) (o_iload X0 hx hby at_103 rfl (o_goto X0 hx hby at_105 (pc := 105) (pc' := 117) (by decide) (by decide) ?_))
              exact kt
            exact join1047 i1019 ⟨_, hi1019⟩ pre1189
        by_cases hc1190 : i1031 = (0 : Int32)
        · skip
          subst hc1190
          obtain ⟨i1191, hi1191⟩ : ∃ z, z = ((p2.toUInt32 >>> ((8 : Int32) &&& 31).toUInt32).toInt32) := ⟨_, rfl⟩
          obtain ⟨i1192, hi1192⟩ : ∃ z, z = (i1191 &&& (255 : Int32)) := ⟨_, rfl⟩
          have pre1193 : ∀ t, Steps p.tables e below (s₁.setTop (mkF m 92 #[vI p1, vI p2, vI p3, vI 2, vI 3, vI i1015, vI i1017, vI i1019, vI i1026, .unset, .unset, .unset, .unset, .unset, .unset, .unset] [(.int i1192)])) t → Steps p.tables e below EN t := by
            intro t kt
            refine pre1032 t ?_
            refine o_ifY X0 hx hby at_75 (pc := 75) (pc' := 83) (by decide +kernel) (by decide) (by decide) (o_iloadN X0 hx hby at_83 rfl (o_bipush X0 hx hby at_84 (x := 8) rfl (o_iushr X0 hx hby at_86 (z := i1191) hi1191.symm (o_sipush X0 hx hby at_87 (x := 255) rfl (o_iand X0 hx hby at_90 (z := i1192) hi1192.symm (o_i2c X0 hx hby at_91 (z := i1192) (own_i2c255 hi1192) ?_))))))
            exact kt
          exact join1036 i1192 ⟨_, hi1192⟩ pre1193
        · skip
          have pre1194 : ∀ t, Steps p.tables e below (s₁.setTop (mkF m 92 #[vI p1, vI p2, vI p3, vI 2, vI 3, vI i1015, vI i1017, vI i1019, vI i1026, .unset, .unset, .unset, .unset, .unset, .unset, .unset] [(.int i1017)])) t → Steps p.tables e below EN t := by
            intro t kt
            refine pre1032 t ?_
            refine o_ifN X0 hx hby at_75 ((if0 _ _).trans (feq hc1190).1) (o_iload X0 hx hby at_78 rfl (o_goto X0 hx hby at_80 (pc := 80) (pc' := 92) (by decide) (by decide) ?_))
            exact kt
          exact join1036 i1017 ⟨_, hi1017⟩ pre1194
      by_cases hc1195 : i1021 = (0 : Int32)
      · skip
        subst hc1195
        obtain ⟨i1196, hi1196⟩ : ∃ z, z = (p2 &&& (255 : Int32)) := ⟨_, rfl⟩
        have pre1197 : ∀ t, Steps p.tables e below (s₁.setTop (mkF m 68 #[vI p1, vI p2, vI p3, vI 2, vI 3, vI i1015, vI i1017, vI i1019, .unset, .unset, .unset, .unset, .unset, .unset, .unset, .unset] [(.int i1196)])) t → Steps p.tables e below EN t := by
          intro t kt
          refine pre1022 t ?_
          refine o_ifY X0 hx hby at_54 (pc := 54) (pc' := 62) (by decide +kernel) (by decide) (by decide) (o_iloadN X0 hx hby at_62 rfl (o_sipush X0 hx hby at_63 (x := 255) rfl (o_iand X0 hx hby at_66 (z := i1196) hi1196.symm (o_i2c X0 hx hby at_67 (z := i1196) (own_i2c255 hi1196) ?_))))
          exact kt
        exact join1025 i1196 ⟨_, hi1196⟩ pre1197
      · skip
        have pre1198 : ∀ t, Steps p.tables e below (s₁.setTop (mkF m 68 #[vI p1, vI p2, vI p3, vI 2, vI 3, vI i1015, vI i1017, vI i1019, .unset, .unset, .unset, .unset, .unset, .unset, .unset, .unset] [(.int i1015)])) t → Steps p.tables e below EN t := by
          intro t kt
          refine pre1022 t ?_
          refine o_ifN X0 hx hby at_54 ((if0 _ _).trans (feq hc1195).1) (o_iload X0 hx hby at_57 rfl (o_goto X0 hx hby at_59 (pc := 59) (pc' := 68) (by decide) (by decide) ?_))
          exact kt
        exact join1025 i1015 ⟨_, hi1015⟩ pre1198
  · skip
    obtain ⟨i1199, hi1199⟩ : ∃ z, z = ((p3.toUInt32 >>> ((2 : Int32) &&& 31).toUInt32).toInt32) := ⟨_, rfl⟩
    obtain ⟨i1200, hi1200⟩ : ∃ z, z = (i1199 &&& (3 : Int32)) := ⟨_, rfl⟩
    have pre1202 : ∀ t, Steps p.tables e below (s₁.setTop (mkF m 15 #[vI p1, vI p2, vI p3, vI 3, .unset, .unset, .unset, .unset, .unset, .unset, .unset, .unset, .unset, .unset, .unset, .unset] [(.int 3), (.int i1200), (.int 1)])) t → Steps p.tables e below EN t := by
      intro t kt
      refine pre6 t ?_
      refine o_irem X0 hx hby at_5 (by decide +kernel : ¬ ((3 : Int32) = (0 : Int32))) (z := (2 : Int32)) hq5 (o_iadd X0 hx hby at_6 (z := (3 : Int32)) (by decide +kernel) (o_istoreN X0 hx hby at_7 (Ls' := #[vI p1, vI p2, vI p3, vI 3, .unset, .unset, .unset, .unset, .unset, .unset, .unset, .unset, .unset, .unset, .unset, .unset]) rfl (o_iconst X0 hx hby at_8 (x := 1) rfl (o_iloadN X0 hx hby at_9 rfl (o_iconst X0 hx hby at_10 (x := 2) rfl (o_iushr X0 hx hby at_11 (z := i1199) hi1199.symm (o_iconst X0 hx hby at_12 (x := 3) rfl (o_iand X0 hx hby at_13 (z := i1200) hi1200.symm (o_iconst X0 hx hby at_14 (x := 3) rfl ?_)))))))))
      exact kt
    rcases (own_m3 hi1200) with hq1201 | hq1201 | hq1201
    · skip
      obtain ⟨i1203, hi1203⟩ : ∃ z, z = (p1 &&& (255 : Int32)) := ⟨_, rfl⟩
      obtain ⟨i1204, hi1204⟩ : ∃ z, z = ((p1.toUInt32 >>> ((8 : Int32) &&& 31).toUInt32).toInt32) := ⟨_, rfl⟩
      obtain ⟨i1205, hi1205⟩ : ∃ z, z = (i1204 &&& (255 : Int32)) := ⟨_, rfl⟩
      obtain ⟨i1206, hi1206⟩ : ∃ z, z = ((p1.toUInt32 >>> ((16 : Int32) &&& 31).toUInt32).toInt32) := ⟨_, rfl⟩
      obtain ⟨i1207, hi1207⟩ : ∃ z, z = (i1206 &&& (255 : Int32)) := ⟨_, rfl⟩
      obtain ⟨i1208, hi1208⟩ : ∃ z, z = ((p3.toUInt32 >>> ((4 : Int32) &&& 31).toUInt32).toInt32) := ⟨_, rfl⟩
      obtain ⟨i1209, hi1209⟩ : ∃ z, z = (i1208 &&& (1 : Int32)) := ⟨_, rfl⟩
      have pre1210 : ∀ t, Steps p.tables e below (s₁.setTop (mkF m 54 #[vI p1, vI p2, vI p3, vI 3, vI 1, vI i1203, vI i1205, vI i1207, .unset, .unset, .unset, .unset, .unset, .unset, .unset, .unset] [(.int i1209)])) t → Steps p.tables e below EN t := by
        intro t kt
        refine pre1202 t ?_
        refine o_irem X0 hx hby at_15 (by decide +kernel : ¬ ((3 : Int32) = (0 : Int32))) (z := (0 : Int32)) hq1201 (o_iadd X0 hx hby at_16 (z := (1 : Int32)) (by decide +kernel) (o_istore X0 hx hby at_17 (Ls' := #[vI p1, vI p2, vI p3, vI 3, vI 1, .unset, .unset, .unset, .unset, .unset, .unset, .unset, .unset, .unset, .unset, .unset]) rfl (o_iloadN X0 hx hby at_19 rfl (o_sipush X0 hx hby at_20 (x := 255) rfl (o_iand X0 hx hby at_23 (z := i1203) hi1203.symm (o_i2c X0 hx hby at_24 (z := i1203) (own_i2c255 hi1203) (o_istore X0 hx hby at_25 (Ls' := #[vI p1, vI p2, vI p3, vI 3, vI 1, vI i1203, .unset, .unset, .unset, .unset, .unset, .unset, .unset, .unset, .unset, .unset]) rfl (o_iloadN X0 hx hby at_27 rfl (o_bipush X0 hx hby at_28 (x := 8) rfl (o_iushr X0 hx hby at_30 (z := i1204) hi1204.symm (o_sipush X0 hx hby at_31 (x := 255) rfl (o_iand X0 hx hby at_34 (z := i1205) hi1205.symm (o_i2c X0 hx hby at_35 (z := i1205) (own_i2c255 hi1205) (o_istore X0 hx hby at_36 (Ls' := #[vI p1, vI p2, vI p3, vI 3, vI 1, vI i1203, vI i1205, .unset, .unset, .unset, .unset, .unset, .unset, .unset, .unset, .unset]) rfl (o_iloadN X0 hx hby at_38 rfl (o_bipush X0 hx hby at_39 (x := 16) rfl (o_iushr X0 hx hby at_41 (z := i1206) hi1206.symm (o_sipush X0 hx hby at_42 (x := 255) rfl (o_iand X0 hx hby at_45 (z := i1207) hi1207.symm (o_i2c X0 hx hby at_46 (z := i1207) (own_i2c255 hi1207) (o_istore X0 hx hby at_47 (Ls' := #[vI p1, vI p2, vI p3, vI 3, vI 1, vI i1203, vI i1205, vI i1207, .unset, .unset, .unset, .unset, .unset, .unset, .unset, .unset]) rfl (o_iloadN X0 hx hby at_49 rfl (o_iconst X0 hx hby at_50 (x := 4) rfl (o_iushr X0 hx hby at_51 (z := i1208) hi1208.symm (o_iconst X0 hx hby at_52 (x := 1) rfl (o_iand X0 hx hby at_53 (z := i1209) hi1209.symm ?_))))))))))))))))))))))))))
        exact kt
      have join1213 : ∀ (i1214 : Int32), (∃ y : Int32, i1214 = (y &&& (255 : Int32))) → (∀ t, Steps p.tables e below (s₁.setTop (mkF m 68 #[vI p1, vI p2, vI p3, vI 3, vI 1, vI i1203, vI i1205, vI i1207, .unset, .unset, .unset, .unset, .unset, .unset, .unset, .unset] [(.int i1214)])) t → Steps p.tables e below EN t) → False := by
        rintro i1214 ⟨x1216, hp1215⟩ pre1217
        obtain ⟨i1218, hi1218⟩ : ∃ z, z = ((p3.toUInt32 >>> ((5 : Int32) &&& 31).toUInt32).toInt32) := ⟨_, rfl⟩
        obtain ⟨i1219, hi1219⟩ : ∃ z, z = (i1218 &&& (1 : Int32)) := ⟨_, rfl⟩
        have pre1220 : ∀ t, Steps p.tables e below (s₁.setTop (mkF m 75 #[vI p1, vI p2, vI p3, vI 3, vI 1, vI i1203, vI i1205, vI i1207, vI i1214, .unset, .unset, .unset, .unset, .unset, .unset, .unset] [(.int i1219)])) t → Steps p.tables e below EN t := by
          intro t kt
          refine pre1217 t ?_
          refine o_istore X0 hx hby at_68 (Ls' := #[vI p1, vI p2, vI p3, vI 3, vI 1, vI i1203, vI i1205, vI i1207, vI i1214, .unset, .unset, .unset, .unset, .unset, .unset, .unset]) rfl (o_iloadN X0 hx hby at_70 rfl (o_iconst X0 hx hby at_71 (x := 5) rfl (o_iushr X0 hx hby at_72 (z := i1218) hi1218.symm (o_iconst X0 hx hby at_73 (x := 1) rfl (o_iand X0 hx hby at_74 (z := i1219) hi1219.symm ?_)))))
          exact kt
        have join1224 : ∀ (i1225 : Int32), (∃ y : Int32, i1225 = (y &&& (255 : Int32))) → (∀ t, Steps p.tables e below (s₁.setTop (mkF m 92 #[vI p1, vI p2, vI p3, vI 3, vI 1, vI i1203, vI i1205, vI i1207, vI i1214, .unset, .unset, .unset, .unset, .unset, .unset, .unset] [(.int i1225)])) t → Steps p.tables e below EN t) → False := by
          rintro i1225 ⟨x1227, hp1226⟩ pre1228
          obtain ⟨i1229, hi1229⟩ : ∃ z, z = ((p3.toUInt32 >>> ((6 : Int32) &&& 31).toUInt32).toInt32) := ⟨_, rfl⟩
          obtain ⟨i1230, hi1230⟩ : ∃ z, z = (i1229 &&& (1 : Int32)) := ⟨_, rfl⟩
          have pre1231 : ∀ t, Steps p.tables e below (s₁.setTop (mkF m 100 #[vI p1, vI p2, vI p3, vI 3, vI 1, vI i1203, vI i1205, vI i1207, vI i1214, vI i1225, .unset, .unset, .unset, .unset, .unset, .unset] [(.int i1230)])) t → Steps p.tables e below EN t := by
            intro t kt
            refine pre1228 t ?_
            refine o_istore X0 hx hby at_92 (Ls' := #[vI p1, vI p2, vI p3, vI 3, vI 1, vI i1203, vI i1205, vI i1207, vI i1214, vI i1225, .unset, .unset, .unset, .unset, .unset, .unset]) rfl (o_iloadN X0 hx hby at_94 rfl (o_bipush X0 hx hby at_95 (x := 6) rfl (o_iushr X0 hx hby at_97 (z := i1229) hi1229.symm (o_iconst X0 hx hby at_98 (x := 1) rfl (o_iand X0 hx hby at_99 (z := i1230) hi1230.symm ?_)))))
            exact kt
          have join1235 : ∀ (i1236 : Int32), (∃ y : Int32, i1236 = (y &&& (255 : Int32))) → (∀ t, Steps p.tables e below (s₁.setTop (mkF m 117 #[vI p1, vI p2, vI p3, vI 3, vI 1, vI i1203, vI i1205, vI i1207, vI i1214, vI i1225, .unset, .unset, .unset, .unset, .unset, .unset] [(.int i1236)])) t → Steps p.tables e below EN t) → False := by
            rintro i1236 ⟨x1238, hp1237⟩ pre1239
            obtain ⟨T1240, h1240, X1240, e1240, E1240, A1240, D1240, -, st1240⟩ := newO X0 hx hZ hown (ww0 hw) (ww1 hw) (ww2 hw) e0 (g := (mkF m 119 #[vI p1, vI p2, vI p3, vI 3, vI 1, vI i1203, vI i1205, vI i1207, vI i1214, vI i1225, vI i1236, .unset, .unset, .unset, .unset, .unset] [])) rfl (hb hby at_119) (by decide) (by decide)
            obtain ⟨b1240, g1240⟩ : ∃ z, z = h0.size := ⟨_, rfl⟩
            rw [← g1240] at A1240 D1240 st1240
            have O1240 : Old Z n0 h1240 := O0.ext E1240
            have bd_b1240 : h0.size ≤ b1240 := Nat.le_of_eq g1240.symm
            have g_b1240 : n0 ≤ b1240 := Nat.le_trans (own_z O0) bd_b1240
            have sz_b1240 : h0.size ≤ b1240 := Nat.le_trans (Nat.le_refl _) bd_b1240
            have lt_b1240 : b1240 < h1240.size := A1240.lt
            have D1240_31 : Fld Z h1240 b1240 C_0 "coder" "B" (.int 0) := D1240 (Or.inr (ww31 hw)) (ty := .byte) (by decide)
            have D1240_33 : Fld Z h1240 b1240 C_0 "value" "[B" .null := D1240 (Or.inr (ww33 hw)) (ty := (.array .byte)) (by decide)
            obtain ⟨_, T1241, L1241, X1241, hQ1241, st1241⟩ := own_cS X1240 hx hZ hown (ww3 hw) (ww4 hw) (ww5 hw) (ww6 hw) (rm1_55 l Z a0 hw i1203 i1205 i1207 h1240 n0 O1240) e1240 pd_0 hml (hb hby at_130) (Ls := #[vI p1, vI p2, vI p3, vI 3, vI 1, vI i1203, vI i1205, vI i1207, vI i1214, vI i1225, vI i1236, .unset, .unset, .unset, .unset, .unset]) (W := 2) (argsL := [(.int 3), (.int i1203), (.int i1205), (.int i1207)]) (rest := [(.ref b1240), (.ref b1240)])
            obtain ⟨i1242, i1243, i1244, b1245, k1246, u1247, u1248, u1249, rfl, u1251, u1252, u1253, Ku1254, u1255, u1256⟩ := hQ1241
            have Ou1254 : Old Z n0 T1241.heap := O1240.keep Ku1254 all0
            have g_b1245 : n0 ≤ b1245 := Nat.le_trans (own_z O1240) u1252
            have sz_b1245 : h0.size ≤ b1245 := Nat.le_trans E1240.1 u1252
            have N1241 := Fr.app N0 u1251
            have pre1257 : ∀ t, Steps p.tables e below (T1241.setTop (mkF m 133 #[vI p1, vI p2, vI p3, vI 3, vI 1, vI i1203, vI i1205, vI i1207, vI i1214, vI i1225, vI i1236, .unset, .unset, .unset, .unset, .unset] [(.ref b1245), (.ref b1240), (.ref b1240)])) t → Steps p.tables e below EN t := by
              intro t kt
              refine pre1239 t ?_
              refine o_istore X0 hx hby at_117 (Ls' := #[vI p1, vI p2, vI p3, vI 3, vI 1, vI i1203, vI i1205, vI i1207, vI i1214, vI i1225, vI i1236, .unset, .unset, .unset, .unset, .unset]) rfl (st1240 _ (o_dup X1240 hx hby at_122 rfl (o_iloadN X1240 hx hby at_123 rfl (o_iload X1240 hx hby at_124 rfl (o_iload X1240 hx hby at_126 rfl (o_iload X1240 hx hby at_128 rfl (st1241 _ ?_)))))))
              exact kt
            obtain rfl : i1203 = i1244 := (u1247.trans (own_nar255 hi1203)).symm
            obtain rfl : i1205 = i1242 := (u1248.trans (own_nar255 hi1205)).symm
            obtain rfl : i1207 = i1243 := (u1249.trans (own_nar255 hi1207)).symm
            have f1258 : Exa Z T1241.heap b1240 C_0 := (A1240.keep Ku1254)
            have f1259 : Fld Z T1241.heap b1240 C_0 "coder" "B" (.int 0) := (D1240_31.keep Ku1254 nin0)
            have f1260 : Fld Z T1241.heap b1240 C_0 "value" "[B" .null := (D1240_33.keep Ku1254 nin0)
            obtain ⟨_, T1261, L1261, X1261, hQ1261, st1261⟩ := own_cI X1241 hx hZ hown (ww8 hw) (ww9 hw) (ww2 hw) (ww10 hw) (rm2_56 l Z a0 hw b1240 b1245 i1203 i1205 i1207 k1246 p62 T1241.heap n0 Ou1254 u1256 S_63 hk64 (own_lt255 hi1203) (own_lt255 hi1205) (own_lt255 hi1207) f1258 f1259 f1260 u1253 g_b1240 (own_t lt_b1240 Ku1254.1)) rfl pd_5 hml (hb hby at_133) (Ls := #[vI p1, vI p2, vI p3, vI 3, vI 1, vI i1203, vI i1205, vI i1207, vI i1214, vI i1225, vI i1236, .unset, .unset, .unset, .unset, .unset]) (W := 1) (argsL := [(.ref b1245)]) (rest := [(.ref b1240)]) (b := b1240)
            obtain ⟨i1262, i1263, i1264, b1265, k1266, u1267, u1268, u1269, rfl, u1271, u1272, u1273, Ku1274, u1275, u1276, u1277, u1278, u1279⟩ := hQ1261
            have Ou1274 : Old Z n0 T1261.heap := Ou1254.keep Ku1274 (allS g_b1240 all0)
            have g_b1265 : n0 ≤ b1265 := Nat.le_trans (own_z Ou1254) u1272
            have sz_b1265 : h0.size ≤ b1265 := Nat.le_trans (Nat.le_trans E1240.1 Ku1254.1) u1272
            have N1261 := Fr.app N1241 u1271
            obtain ⟨T1280, h1280, X1280, e1280, E1280, A1280, D1280, -, st1280⟩ := newO X1261 hx hZ hown (ww0 hw) (ww1 hw) (ww2 hw) rfl (g := (mkF m 138 #[vI p1, vI p2, vI p3, vI 3, vI 1, vI i1203, vI i1205, vI i1207, vI i1214, vI i1225, vI i1236, vR b1240, .unset, .unset, .unset, .unset] [])) rfl (hb hby at_138) (by decide) (by decide)
            obtain ⟨b1280, g1280⟩ : ∃ z, z = T1261.heap.size := ⟨_, rfl⟩
            rw [← g1280] at A1280 D1280 st1280
            have O1280 : Old Z n0 h1280 := Ou1274.ext E1280
            have bd_b1280 : T1261.heap.size ≤ b1280 := Nat.le_of_eq g1280.symm
            have g_b1280 : n0 ≤ b1280 := Nat.le_trans (own_z Ou1274) bd_b1280
            have sz_b1280 : h0.size ≤ b1280 := Nat.le_trans (Nat.le_trans (Nat.le_trans E1240.1 Ku1254.1) Ku1274.1) bd_b1280
            have lt_b1280 : b1280 < h1280.size := A1280.lt
            have D1280_31 : Fld Z h1280 b1280 C_0 "coder" "B" (.int 0) := D1280 (Or.inr (ww31 hw)) (ty := .byte) (by decide)
            have D1280_33 : Fld Z h1280 b1280 C_0 "value" "[B" .null := D1280 (Or.inr (ww33 hw)) (ty := (.array .byte)) (by decide)
            obtain ⟨_, T1281, L1281, X1281, hQ1281, st1281⟩ := own_cS X1280 hx hZ hown (ww3 hw) (ww4 hw) (ww5 hw) (ww6 hw) (rm1_2 l Z a0 hw i1214 i1225 i1236 h1280 n0 O1280) e1280 pd_0 hml (hb hby at_150) (Ls := #[vI p1, vI p2, vI p3, vI 3, vI 1, vI i1203, vI i1205, vI i1207, vI i1214, vI i1225, vI i1236, vR b1240, .unset, .unset, .unset, .unset]) (W := 2) (argsL := [(.int 1), (.int i1214), (.int i1225), (.int i1236)]) (rest := [(.ref b1280), (.ref b1280)])
            obtain ⟨i1282, b1283, k1284, u1285, rfl, u1287, u1288, u1289, Ku1290, u1291, u1292⟩ := hQ1281
            have Ou1290 : Old Z n0 T1281.heap := O1280.keep Ku1290 all0
            have g_b1283 : n0 ≤ b1283 := Nat.le_trans (own_z O1280) u1288
            have sz_b1283 : h0.size ≤ b1283 := Nat.le_trans (Nat.le_trans (Nat.le_trans (Nat.le_trans E1240.1 Ku1254.1) Ku1274.1) E1280.1) u1288
            have N1281 := Fr.app N1261 u1287
            have pre1293 : ∀ t, Steps p.tables e below (T1281.setTop (mkF m 153 #[vI p1, vI p2, vI p3, vI 3, vI 1, vI i1203, vI i1205, vI i1207, vI i1214, vI i1225, vI i1236, vR b1240, .unset, .unset, .unset, .unset] [(.ref b1283), (.ref b1280), (.ref b1280)])) t → Steps p.tables e below EN t := by
              intro t kt
              refine pre1257 t ?_
              refine st1261 _ (o_astore X1261 hx hby at_136 rfl (Ls' := #[vI p1, vI p2, vI p3, vI 3, vI 1, vI i1203, vI i1205, vI i1207, vI i1214, vI i1225, vI i1236, vR b1240, .unset, .unset, .unset, .unset]) rfl (st1280 _ (o_dup X1280 hx hby at_141 rfl (o_iload X1280 hx hby at_142 rfl (o_iload X1280 hx hby at_144 rfl (o_iload X1280 hx hby at_146 rfl (o_iload X1280 hx hby at_148 rfl (st1281 _ ?_))))))))
              exact kt
            obtain rfl : i1214 = i1282 := (u1285.trans (own_nar255 hp1215)).symm
            have f1294 : Exa Z T1281.heap b1280 C_0 := (A1280.keep Ku1290)
            have f1295 : Fld Z T1281.heap b1280 C_0 "coder" "B" (.int 0) := (D1280_31.keep Ku1290 nin0)
            have f1296 : Fld Z T1281.heap b1280 C_0 "value" "[B" .null := (D1280_33.keep Ku1290 nin0)
            obtain ⟨_, T1297, L1297, X1297, hQ1297, st1297⟩ := own_cI X1281 hx hZ hown (ww8 hw) (ww9 hw) (ww2 hw) (ww10 hw) (rm2_3 l Z a0 hw b1280 b1283 i1214 k1284 p62 T1281.heap n0 Ou1290 u1292 S_63 hk64 (own_lt255 hp1215) f1294 f1295 f1296 g_b1280 (own_t lt_b1280 Ku1290.1)) rfl pd_5 hml (hb hby at_153) (Ls := #[vI p1, vI p2, vI p3, vI 3, vI 1, vI i1203, vI i1205, vI i1207, vI i1214, vI i1225, vI i1236, vR b1240, .unset, .unset, .unset, .unset]) (W := 1) (argsL := [(.ref b1283)]) (rest := [(.ref b1280)]) (b := b1280)
            obtain ⟨i1298, b1299, k1300, u1301, rfl, u1303, u1304, u1305, Ku1306, u1307, u1308, u1309, u1310, u1311⟩ := hQ1297
            have Ou1306 : Old Z n0 T1297.heap := Ou1290.keep Ku1306 (allS g_b1280 all0)
            have g_b1299 : n0 ≤ b1299 := Nat.le_trans (own_z Ou1290) u1304
            have sz_b1299 : h0.size ≤ b1299 := Nat.le_trans (Nat.le_trans (Nat.le_trans (Nat.le_trans (Nat.le_trans E1240.1 Ku1254.1) Ku1274.1) E1280.1) Ku1290.1) u1304
            have N1297 := Fr.app N1281 u1303
            obtain ⟨T1312, h1312, X1312, e1312, E1312, A1312, D1312, -, st1312⟩ := newO X1297 hx hZ hown (ww34 hw) (ww35 hw) (ww36 hw) rfl (g := (mkF m 158 #[vI p1, vI p2, vI p3, vI 3, vI 1, vI i1203, vI i1205, vI i1207, vI i1214, vI i1225, vI i1236, vR b1240, vR b1280, .unset, .unset, .unset] [])) rfl (hb hby at_158) (by decide) (by decide)
            obtain ⟨b1312, g1312⟩ : ∃ z, z = T1297.heap.size := ⟨_, rfl⟩
            rw [← g1312] at A1312 D1312 st1312
            have O1312 : Old Z n0 h1312 := Ou1306.ext E1312
            have bd_b1312 : T1297.heap.size ≤ b1312 := Nat.le_of_eq g1312.symm
            have g_b1312 : n0 ≤ b1312 := Nat.le_trans (own_z Ou1306) bd_b1312
            have sz_b1312 : h0.size ≤ b1312 := Nat.le_trans (Nat.le_trans (Nat.le_trans (Nat.le_trans (Nat.le_trans (Nat.le_trans E1240.1 Ku1254.1) Ku1274.1) E1280.1) Ku1290.1) Ku1306.1) bd_b1312
            have lt_b1312 : b1312 < h1312.size := A1312.lt
            have D1312_92 : Fld Z h1312 b1312 C_1 "text" C_2 .null := D1312 (Or.inr (ww92 hw)) (ty := (.object "java/lang/String")) (by decide)
            have f1313 : Exa Z h1312 b1240 C_0 := (Exa.ext E1312 (((Exa.ext E1280 u1275).keep Ku1290).keep Ku1306))
            have f1314 : Fld Z h1312 b1240 C_0 "value" "[B" (.ref b1265) := (Fld.ext E1312 (((Fld.ext E1280 u1277).keep Ku1290 nin0).keep Ku1306 (ninS (own_n (own_t (own_t lt_b1240 Ku1254.1) Ku1274.1) bd_b1280) nin0)))
            have f1315 : Arv Z h1312 b1265 k1266 .byte (3 : Int32) [(.int i1262), (.int i1263), (.int i1264)] (.int (0 : Int32)) := ((((u1279.ext E1280).keep Ku1290 nin0).keep Ku1306 (ninS (own_n u1273 bd_b1280) nin0)).ext E1312)
            have f1316 : Fld Z h1312 b1240 C_0 "coder" "B" (.int 0) := (Fld.ext E1312 (((Fld.ext E1280 u1276).keep Ku1290 nin0).keep Ku1306 (ninS (own_n (own_t (own_t lt_b1240 Ku1254.1) Ku1274.1) bd_b1280) nin0)))
            obtain ⟨_, T1317, L1317, X1317, hS1317, hZ1317, hown1317, hQ1317, st1317⟩ := own_cIW (s := s) (vm0 := s.vm) X1312 hx hZ hown hS0 (Nat.le_trans (Nat.le_trans (Nat.le_trans (Nat.le_trans (Nat.le_trans (Nat.le_trans (Nat.le_trans Y0 E1240.1) Ku1254.1) Ku1274.1) E1280.1) Ku1290.1) Ku1306.1) E1312.1) (ww37 hw) (ww38 hw) (ww36 hw) (ww39 hw) (rm8_61 l Z a0 hw b1312 b1240 b1265 i1262 i1263 i1264 k1266 p62 va116 h1312 n0 O1312 f1313 f1314 f1315 S_63 hk64 f1316 S_117 ir_va116 A1312 D1312_92 g_b1312) e1312 pd_17 hml (hb hby at_164) (Ls := #[vI p1, vI p2, vI p3, vI 3, vI 1, vI i1203, vI i1205, vI i1207, vI i1214, vI i1225, vI i1236, vR b1240, vR b1280, .unset, .unset, .unset]) (W := 1) (argsL := [(.ref b1240)]) (rest := [(.ref b1312)]) (b := b1312)
            obtain ⟨rfl, u1319, Ku1320, u1321, u1322⟩ := hQ1317
            have Ou1320 : Old Z n0 T1317.heap := O1312.keep Ku1320 (allS g_b1312 all0)
            have N1317 := Fr.app N1297 u1319
            obtain ⟨T1323, h1323, X1323, e1323, E1323, A1323, D1323, -, st1323⟩ := newO X1317 hx hZ1317 hown1317 (ww34 hw) (ww35 hw) (ww36 hw) rfl (g := (mkF m 169 #[vI p1, vI p2, vI p3, vI 3, vI 1, vI i1203, vI i1205, vI i1207, vI i1214, vI i1225, vI i1236, vR b1240, vR b1280, vR b1312, .unset, .unset] [])) rfl (hb hby at_169) (by decide) (by decide)
            obtain ⟨b1323, g1323⟩ : ∃ z, z = T1317.heap.size := ⟨_, rfl⟩
            rw [← g1323] at A1323 D1323 st1323
            have O1323 : Old Z n0 h1323 := Ou1320.ext E1323
            have bd_b1323 : T1317.heap.size ≤ b1323 := Nat.le_of_eq g1323.symm
            have g_b1323 : n0 ≤ b1323 := Nat.le_trans (own_z Ou1320) bd_b1323
            have sz_b1323 : h0.size ≤ b1323 := Nat.le_trans (Nat.le_trans (Nat.le_trans (Nat.le_trans (Nat.le_trans (Nat.le_trans (Nat.le_trans (Nat.le_trans E1240.1 Ku1254.1) Ku1274.1) E1280.1) Ku1290.1) Ku1306.1) E1312.1) Ku1320.1) bd_b1323
            have lt_b1323 : b1323 < h1323.size := A1323.lt
            have D1323_92 : Fld Z h1323 b1323 C_1 "text" C_2 .null := D1323 (Or.inr (ww92 hw)) (ty := (.object "java/lang/String")) (by decide)
            have f1324 : Exa Z h1323 b1280 C_0 := (Exa.ext E1323 ((Exa.ext E1312 u1307).keep Ku1320))
            have f1325 : Fld Z h1323 b1280 C_0 "value" "[B" (.ref b1299) := (Fld.ext E1323 ((Fld.ext E1312 u1309).keep Ku1320 (ninS (own_n (own_t (own_t lt_b1280 Ku1290.1) Ku1306.1) bd_b1312) nin0)))
            have f1326 : Arv Z h1323 b1299 k1300 .byte (1 : Int32) [(.int i1298)] (.int (0 : Int32)) := (((u1311.ext E1312).keep Ku1320 (ninS (own_n u1305 bd_b1312) nin0)).ext E1323)
            have f1327 : Fld Z h1323 b1280 C_0 "coder" "B" (.int 0) := (Fld.ext E1323 ((Fld.ext E1312 u1308).keep Ku1320 (ninS (own_n (own_t (own_t lt_b1280 Ku1290.1) Ku1306.1) bd_b1312) nin0)))
            obtain ⟨_, T1328, L1328, X1328, hS1328, hZ1328, hown1328, hQ1328, st1328⟩ := own_cIW (s := s) (vm0 := T1317.vm) X1323 hx hZ1317 hown1317 hS1317 (Nat.le_trans (Nat.le_refl _) E1323.1) (ww37 hw) (ww38 hw) (ww36 hw) (ww39 hw) (rm8_8 l Z a0 hw b1323 b1280 b1299 i1298 k1300 p62 va116 h1323 n0 O1323 f1324 f1325 f1326 S_63 hk64 f1327 S_117 ir_va116 A1323 D1323_92 g_b1323) e1323 pd_17 hml (hb hby at_175) (Ls := #[vI p1, vI p2, vI p3, vI 3, vI 1, vI i1203, vI i1205, vI i1207, vI i1214, vI i1225, vI i1236, vR b1240, vR b1280, vR b1312, .unset, .unset]) (W := 1) (argsL := [(.ref b1280)]) (rest := [(.ref b1323)]) (b := b1323)
            obtain ⟨rfl, u1330, Ku1331, u1332, u1333⟩ := hQ1328
            have Ou1331 : Old Z n0 T1328.heap := O1323.keep Ku1331 (allS g_b1323 all0)
            have N1328 := Fr.app N1317 u1330
            have f1334 : Fld Z T1328.heap b1312 C_1 "text" C_2 (.ref b1240) := ((Fld.ext E1323 u1322).keep Ku1331 (ninS (own_n (own_t lt_b1312 Ku1320.1) bd_b1323) nin0))
            have f1335 : Exa Z T1328.heap b1240 C_0 := ((Exa.ext E1323 (f1313.keep Ku1320)).keep Ku1331)
            have f1336 : Exa Z T1328.heap b1280 C_0 := (f1324.keep Ku1331)
            have ne1337 : b1240 ≠ b1312 := (own_n (own_t (own_t (own_t (own_t (own_t lt_b1240 Ku1254.1) Ku1274.1) E1280.1) Ku1290.1) Ku1306.1) bd_b1312)
            have ne1338 : b1240 ≠ b1323 := (own_n (own_t (own_t (own_t (own_t (own_t (own_t (own_t lt_b1240 Ku1254.1) Ku1274.1) E1280.1) Ku1290.1) Ku1306.1) E1312.1) Ku1320.1) bd_b1323)
            have f1339 : Fld Z T1328.heap b1240 C_0 "coder" "B" (.int 0) := ((Fld.ext E1323 (f1316.keep Ku1320 (ninS ne1337 nin0))).keep Ku1331 (ninS ne1338 nin0))
            have ne1340 : b1280 ≠ b1323 := (own_n (own_t (own_t (own_t (own_t lt_b1280 Ku1290.1) Ku1306.1) E1312.1) Ku1320.1) bd_b1323)
            have f1341 : Fld Z T1328.heap b1280 C_0 "coder" "B" (.int 0) := (f1327.keep Ku1331 (ninS ne1340 nin0))
            have f1342 : Fld Z T1328.heap b1240 C_0 "value" "[B" (.ref b1265) := ((Fld.ext E1323 (f1314.keep Ku1320 (ninS ne1337 nin0))).keep Ku1331 (ninS ne1338 nin0))
            have f1343 : Fld Z T1328.heap b1280 C_0 "value" "[B" (.ref b1299) := (f1325.keep Ku1331 (ninS ne1340 nin0))
            have ne1344 : b1265 ≠ b1312 := (own_n (own_t (own_t (own_t u1273 E1280.1) Ku1290.1) Ku1306.1) bd_b1312)
            have ne1345 : b1265 ≠ b1323 := (own_n (own_t (own_t (own_t (own_t (own_t u1273 E1280.1) Ku1290.1) Ku1306.1) E1312.1) Ku1320.1) bd_b1323)
            have f1346 : Arv Z T1328.heap b1265 k1266 .byte (3 : Int32) [(.int i1262), (.int i1263), (.int i1264)] (.int (0 : Int32)) := (((f1315.keep Ku1320 (ninS ne1344 nin0)).ext E1323).keep Ku1331 (ninS ne1345 nin0))
            have f1347 : Arv Z T1328.heap b1299 k1300 .byte (1 : Int32) [(.int i1298)] (.int (0 : Int32)) := (f1326.keep Ku1331 (ninS (own_n (own_t (own_t u1305 E1312.1) Ku1320.1) bd_b1323) nin0))
            have f1349 : Exa Z T1328.heap b1312 C_1 := ((Exa.ext E1323 u1321).keep Ku1331)
            obtain ⟨_, T1348, L1348, X1348, hQ1348, st1348⟩ := own_cV X1328 hx hZ1328 hown1328 (ww93 hw) (ww94 hw) (notFace_of_selects (args := #[]) (mvT hZ1328 (ww96 hw))) (ww96 hw) (ww95 hw) (ww36 hw) (ww97 hw) f1349 (rm20_81 l Z a0 hw b1312 b1323 b1240 b1280 p62 b1265 b1299 i1262 i1263 i1264 k1266 i1298 k1300 T1328.heap n0 Ou1331 (own_n (own_t lt_b1312 Ku1320.1) bd_b1323) u1332 f1334 u1333 f1335 (own_n (own_t (own_t lt_b1240 Ku1254.1) Ku1274.1) bd_b1280) f1336 S_63 hk64 f1339 f1341 f1342 f1343 f1346 f1347) rfl pd_19 hml (hb hby at_228) (Ls := #[vI p1, vI p2, vI p3, vI 3, vI 1, vI i1203, vI i1205, vI i1207, vI i1214, vI i1225, vI i1236, vR b1240, vR b1280, vR b1312, vR b1323, vI 0]) (W := 0) (argsL := [(.ref b1323)]) (rest := [])
            obtain ⟨rfl, u1351, u1352⟩ := hQ1348
            have N1348 := Fr.app N1328 u1351
            obtain ⟨_, T1353, L1353, X1353, hQ1353, st1353⟩ := own_cV X1348 hx hZ1328 hown1328 (ww93 hw) (ww94 hw) (notFace_of_selects (args := #[]) (mvT hZ1328 (ww96 hw))) (ww96 hw) (ww95 hw) (ww36 hw) (ww97 hw) u1332 (rm20_78 l Z a0 hw b1323 b1312 b1280 b1240 p62 b1299 b1265 i1298 k1300 i1262 i1263 i1264 k1266 T1328.heap n0 Ou1331 (Ne.symm (own_n (own_t lt_b1312 Ku1320.1) bd_b1323)) f1349 u1333 f1334 f1336 (Ne.symm (own_n (own_t (own_t lt_b1240 Ku1254.1) Ku1274.1) bd_b1280)) f1335 S_63 hk64 f1341 f1339 f1343 f1342 f1347 f1346) u1352 pd_19 hml (hb hby at_240) (Ls := #[vI p1, vI p2, vI p3, vI 3, vI 1, vI i1203, vI i1205, vI i1207, vI i1214, vI i1225, vI i1236, vR b1240, vR b1280, vR b1312, vR b1323, vI 0]) (W := 0) (argsL := [(.ref b1312)]) (rest := [])
            obtain ⟨rfl, u1355, u1356⟩ := hQ1353
            have N1353 := Fr.app N1348 u1355
            obtain ⟨_, T1357, L1357, X1357, hQ1357, st1357⟩ := own_cV X1353 hx hZ1328 hown1328 (ww93 hw) (ww94 hw) (notFace_of_selects (args := #[]) (mvT hZ1328 (ww96 hw))) (ww96 hw) (ww95 hw) (ww36 hw) (ww97 hw) f1349 (rm20_24 l Z a0 hw b1312 T1328.heap n0 Ou1331) u1356 pd_19 hml (hb hby at_252) (Ls := #[vI p1, vI p2, vI p3, vI 3, vI 1, vI i1203, vI i1205, vI i1207, vI i1214, vI i1225, vI i1236, vR b1240, vR b1280, vR b1312, vR b1323, vI 0]) (W := 0) (argsL := [(.ref b1312)]) (rest := [])
            obtain ⟨rfl, u1359, u1360⟩ := hQ1357
            have N1357 := Fr.app N1353 u1359
            obtain ⟨_, T1361, L1361, X1361, hQ1361, st1361⟩ := own_cV X1357 hx hZ1328 hown1328 (ww93 hw) (ww94 hw) (notFace_of_selects (args := #[]) (mvT hZ1328 (ww96 hw))) (ww96 hw) (ww95 hw) (ww36 hw) (ww97 hw) f1349 (rm20_25 l Z a0 hw b1312 T1328.heap n0 Ou1331) u1360 pd_19 hml (hb hby at_261) (Ls := #[vI p1, vI p2, vI p3, vI 3, vI 1, vI i1203, vI i1205, vI i1207, vI i1214, vI i1225, vI i1236, vR b1240, vR b1280, vR b1312, vR b1323, vI 0]) (W := 0) (argsL := [.null]) (rest := [])
            obtain ⟨rfl, u1363, u1364⟩ := hQ1361
            have N1361 := Fr.app N1357 u1363
            obtain ⟨_, T1365, L1365, X1365, hQ1365, st1365⟩ := own_cV X1361 hx hZ1328 hown1328 (ww93 hw) (ww94 hw) (notFace_of_selects (args := #[]) (mvT hZ1328 (ww96 hw))) (ww96 hw) (ww95 hw) (ww36 hw) (ww97 hw) f1349 (rm20_26 l Z a0 hw b1312 b1240 T1328.heap n0 Ou1331 (Ne.symm ne1337) f1335) u1364 pd_19 hml (hb hby at_271) (Ls := #[vI p1, vI p2, vI p3, vI 3, vI 1, vI i1203, vI i1205, vI i1207, vI i1214, vI i1225, vI i1236, vR b1240, vR b1280, vR b1312, vR b1323, vI 0]) (W := 0) (argsL := [(.ref b1240)]) (rest := [])
            obtain ⟨rfl, u1367, u1368⟩ := hQ1365
            have N1365 := Fr.app N1361 u1367
            refine fin (some (.int 1)) _ _ _ _ T1328.vm _ X1365 hS1328 (by rw [u1368]; exact (Nat.le_refl _)) nofun (fun fs hr => pre1293 _ ?_) (own_atH u1368 ?_) (by decide) (by decide)
            · refine st1297 _ (o_astore X1297 hx hby at_156 rfl (Ls' := #[vI p1, vI p2, vI p3, vI 3, vI 1, vI i1203, vI i1205, vI i1207, vI i1214, vI i1225, vI i1236, vR b1240, vR b1280, .unset, .unset, .unset]) rfl (st1312 _ (o_dup X1312 hx hby at_161 rfl (o_aload X1312 hx hby at_162 rfl rfl (st1317 _ (o_astore X1317 hx hby at_167 rfl (Ls' := #[vI p1, vI p2, vI p3, vI 3, vI 1, vI i1203, vI i1205, vI i1207, vI i1214, vI i1225, vI i1236, vR b1240, vR b1280, vR b1312, .unset, .unset]) rfl (st1323 _ (o_dup X1323 hx hby at_172 rfl (o_aload X1323 hx hby at_173 rfl rfl (st1328 _ (o_astore X1328 hx hby at_178 rfl (Ls' := #[vI p1, vI p2, vI p3, vI 3, vI 1, vI i1203, vI i1205, vI i1207, vI i1214, vI i1225, vI i1236, vR b1240, vR b1280, vR b1312, vR b1323, .unset]) rfl (o_iloadN X1328 hx hby at_180 rfl (o_iload X1328 hx hby at_181 rfl (o_icmpY X1328 hx hby at_183 (pc := 183) (pc' := 221) (by decide +kernel) (by decide) (by decide) (o_iconst X1328 hx hby at_221 (x := 0) rfl (o_istore X1328 hx hby at_222 (Ls' := #[vI p1, vI p2, vI p3, vI 3, vI 1, vI i1203, vI i1205, vI i1207, vI i1214, vI i1225, vI i1236, vR b1240, vR b1280, vR b1312, vR b1323, vI 0]) rfl (o_aload X1328 hx hby at_224 rfl rfl (o_aload X1328 hx hby at_226 rfl rfl (st1348 _ (o_iload X1348 hx hby at_231 rfl (o_icmpN X1348 hx hby at_233 (by decide +kernel) (o_aload X1348 hx hby at_236 rfl rfl (o_aload X1348 hx hby at_238 rfl rfl (st1353 _ (o_iload X1353 hx hby at_243 rfl (o_icmpN X1353 hx hby at_245 (by decide +kernel) (o_aload X1353 hx hby at_248 rfl rfl (o_aload X1353 hx hby at_250 rfl rfl (st1357 _ (o_ifN X1357 hx hby at_255 (by decide +kernel) (o_aload X1357 hx hby at_258 rfl rfl (o_null X1357 hx hby at_260 (st1361 _ (o_ifN X1361 hx hby at_264 (by decide +kernel) (o_aload X1361 hx hby at_267 rfl rfl (o_aload X1361 hx hby at_269 rfl rfl (st1365 _ (o_ifN X1365 hx hby at_274 (by decide +kernel) (o_iconst X1365 hx hby at_277 (x := 1) rfl ?_)))))))))))))))))))))))))))))))))))))))
              refine o_goto X1365 hx hby at_278 (pc := 278) (pc' := 282) (by decide) (by decide) ?_
              exact retN X1365 hx (t := .boolean) hret (by simp) (hb hby at_282) hr
            · exact ⟨rfl, N1365⟩
          by_cases hc1369 : i1230 = (0 : Int32)
          · skip
            subst hc1369
            obtain ⟨i1370, hi1370⟩ : ∃ z, z = ((p2.toUInt32 >>> ((16 : Int32) &&& 31).toUInt32).toInt32) := ⟨_, rfl⟩
            obtain ⟨i1371, hi1371⟩ : ∃ z, z = (i1370 &&& (255 : Int32)) := ⟨_, rfl⟩
            have pre1372 : ∀ t, Steps p.tables e below (s₁.setTop (mkF m 117 #[vI p1, vI p2, vI p3, vI 3, vI 1, vI i1203, vI i1205, vI i1207, vI i1214, vI i1225, .unset, .unset, .unset, .unset, .unset, .unset] [(.int i1371)])) t → Steps p.tables e below EN t := by
              intro t kt
              refine pre1231 t ?_
              refine o_ifY X0 hx hby at_100 (pc := 100) (pc' := 108) (by decide +kernel) (by decide) (by decide) (o_iloadN X0 hx hby at_108 rfl (o_bipush X0 hx hby at_109 (x := 16) rfl (o_iushr X0 hx hby at_111 (z := i1370) hi1370.symm (o_sipush X0 hx hby at_112 (x := 255) rfl (o_iand X0 hx hby at_115 (z := i1371) hi1371.symm (o_i2c X0 hx hby at_116 (z := i1371) (own_i2c255 hi1371) ?_))))))
              exact kt
            exact join1235 i1371 ⟨_, hi1371⟩ pre1372
          · skip
            have pre1373 : ∀ t, Steps p.tables e below (s₁.setTop (mkF m 117 #[vI p1, vI p2, vI p3, vI 3, vI 1, vI i1203, vI i1205, vI i1207, vI i1214, vI i1225, .unset, .unset, .unset, .unset, .unset, .unset] [(.int i1207)])) t → Steps p.tables e below EN t := by
              intro t kt
              refine pre1231 t ?_
              refine o_ifN X0 hx hby at_100 ((if0 _ _).trans (feq hc1369).1) (o_iload X0 hx hby at_103 rfl (o_goto X0 hx hby at_105 (pc := 105) (pc' := 117) (by decide) (by decide) ?_))
              exact kt
            exact join1235 i1207 ⟨_, hi1207⟩ pre1373
        by_cases hc1374 : i1219 = (0 : Int32)
        · skip
          subst hc1374
          obtain ⟨i1375, hi1375⟩ : ∃ z, z = ((p2.toUInt32 >>> ((8 : Int32) &&& 31).toUInt32).toInt32) := ⟨_, rfl⟩
          obtain ⟨i1376, hi1376⟩ : ∃ z, z = (i1375 &&& (255 : Int32)) := ⟨_, rfl⟩
          have pre1377 : ∀ t, Steps p.tables e below (s₁.setTop (mkF m 92 #[vI p1, vI p2, vI p3, vI 3, vI 1, vI i1203, vI i1205, vI i1207, vI i1214, .unset, .unset, .unset, .unset, .unset, .unset, .unset] [(.int i1376)])) t → Steps p.tables e below EN t := by
            intro t kt
            refine pre1220 t ?_
            refine o_ifY X0 hx hby at_75 (pc := 75) (pc' := 83) (by decide +kernel) (by decide) (by decide) (o_iloadN X0 hx hby at_83 rfl (o_bipush X0 hx hby at_84 (x := 8) rfl (o_iushr X0 hx hby at_86 (z := i1375) hi1375.symm (o_sipush X0 hx hby at_87 (x := 255) rfl (o_iand X0 hx hby at_90 (z := i1376) hi1376.symm (o_i2c X0 hx hby at_91 (z := i1376) (own_i2c255 hi1376) ?_))))))
            exact kt
          exact join1224 i1376 ⟨_, hi1376⟩ pre1377
        · skip
          have pre1378 : ∀ t, Steps p.tables e below (s₁.setTop (mkF m 92 #[vI p1, vI p2, vI p3, vI 3, vI 1, vI i1203, vI i1205, vI i1207, vI i1214, .unset, .unset, .unset, .unset, .unset, .unset, .unset] [(.int i1205)])) t → Steps p.tables e below EN t := by
            intro t kt
            refine pre1220 t ?_
            refine o_ifN X0 hx hby at_75 ((if0 _ _).trans (feq hc1374).1) (o_iload X0 hx hby at_78 rfl (o_goto X0 hx hby at_80 (pc := 80) (pc' := 92) (by decide) (by decide) ?_))
            exact kt
          exact join1224 i1205 ⟨_, hi1205⟩ pre1378
      by_cases hc1379 : i1209 = (0 : Int32)
      · skip
        subst hc1379
        obtain ⟨i1380, hi1380⟩ : ∃ z, z = (p2 &&& (255 : Int32)) := ⟨_, rfl⟩
        have pre1381 : ∀ t, Steps p.tables e below (s₁.setTop (mkF m 68 #[vI p1, vI p2, vI p3, vI 3, vI 1, vI i1203, vI i1205, vI i1207, .unset, .unset, .unset, .unset, .unset, .unset, .unset, .unset] [(.int i1380)])) t → Steps p.tables e below EN t := by
          intro t kt
          refine pre1210 t ?_
          refine o_ifY X0 hx hby at_54 (pc := 54) (pc' := 62) (by decide +kernel) (by decide) (by decide) (o_iloadN X0 hx hby at_62 rfl (o_sipush X0 hx hby at_63 (x := 255) rfl (o_iand X0 hx hby at_66 (z := i1380) hi1380.symm (o_i2c X0 hx hby at_67 (z := i1380) (own_i2c255 hi1380) ?_))))
          exact kt
        exact join1213 i1380 ⟨_, hi1380⟩ pre1381
      · skip
        have pre1382 : ∀ t, Steps p.tables e below (s₁.setTop (mkF m 68 #[vI p1, vI p2, vI p3, vI 3, vI 1, vI i1203, vI i1205, vI i1207, .unset, .unset, .unset, .unset, .unset, .unset, .unset, .unset] [(.int i1203)])) t → Steps p.tables e below EN t := by
          intro t kt
          refine pre1210 t ?_
          refine o_ifN X0 hx hby at_54 ((if0 _ _).trans (feq hc1379).1) (o_iload X0 hx hby at_57 rfl (o_goto X0 hx hby at_59 (pc := 59) (pc' := 68) (by decide) (by decide) ?_))
          exact kt
        exact join1213 i1203 ⟨_, hi1203⟩ pre1382
    · skip
      obtain ⟨i1383, hi1383⟩ : ∃ z, z = (p1 &&& (255 : Int32)) := ⟨_, rfl⟩
      obtain ⟨i1384, hi1384⟩ : ∃ z, z = ((p1.toUInt32 >>> ((8 : Int32) &&& 31).toUInt32).toInt32) := ⟨_, rfl⟩
      obtain ⟨i1385, hi1385⟩ : ∃ z, z = (i1384 &&& (255 : Int32)) := ⟨_, rfl⟩
      obtain ⟨i1386, hi1386⟩ : ∃ z, z = ((p1.toUInt32 >>> ((16 : Int32) &&& 31).toUInt32).toInt32) := ⟨_, rfl⟩
      obtain ⟨i1387, hi1387⟩ : ∃ z, z = (i1386 &&& (255 : Int32)) := ⟨_, rfl⟩
      obtain ⟨i1388, hi1388⟩ : ∃ z, z = ((p3.toUInt32 >>> ((4 : Int32) &&& 31).toUInt32).toInt32) := ⟨_, rfl⟩
      obtain ⟨i1389, hi1389⟩ : ∃ z, z = (i1388 &&& (1 : Int32)) := ⟨_, rfl⟩
      have pre1390 : ∀ t, Steps p.tables e below (s₁.setTop (mkF m 54 #[vI p1, vI p2, vI p3, vI 3, vI 2, vI i1383, vI i1385, vI i1387, .unset, .unset, .unset, .unset, .unset, .unset, .unset, .unset] [(.int i1389)])) t → Steps p.tables e below EN t := by
        intro t kt
        refine pre1202 t ?_
        refine o_irem X0 hx hby at_15 (by decide +kernel : ¬ ((3 : Int32) = (0 : Int32))) (z := (1 : Int32)) hq1201 (o_iadd X0 hx hby at_16 (z := (2 : Int32)) (by decide +kernel) (o_istore X0 hx hby at_17 (Ls' := #[vI p1, vI p2, vI p3, vI 3, vI 2, .unset, .unset, .unset, .unset, .unset, .unset, .unset, .unset, .unset, .unset, .unset]) rfl (o_iloadN X0 hx hby at_19 rfl (o_sipush X0 hx hby at_20 (x := 255) rfl (o_iand X0 hx hby at_23 (z := i1383) hi1383.symm (o_i2c X0 hx hby at_24 (z := i1383) (own_i2c255 hi1383) (o_istore X0 hx hby at_25 (Ls' := #[vI p1, vI p2, vI p3, vI 3, vI 2, vI i1383, .unset, .unset, .unset, .unset, .unset, .unset, .unset, .unset, .unset, .unset]) rfl (o_iloadN X0 hx hby at_27 rfl (o_bipush X0 hx hby at_28 (x := 8) rfl (o_iushr X0 hx hby at_30 (z := i1384) hi1384.symm (o_sipush X0 hx hby at_31 (x := 255) rfl (o_iand X0 hx hby at_34 (z := i1385) hi1385.symm (o_i2c X0 hx hby at_35 (z := i1385) (own_i2c255 hi1385) (o_istore X0 hx hby at_36 (Ls' := #[vI p1, vI p2, vI p3, vI 3, vI 2, vI i1383, vI i1385, .unset, .unset, .unset, .unset, .unset, .unset, .unset, .unset, .unset]) rfl (o_iloadN X0 hx hby at_38 rfl (o_bipush X0 hx hby at_39 (x := 16) rfl (o_iushr X0 hx hby at_41 (z := i1386) hi1386.symm (o_sipush X0 hx hby at_42 (x := 255) rfl (o_iand X0 hx hby at_45 (z := i1387) hi1387.symm (o_i2c X0 hx hby at_46 (z := i1387) (own_i2c255 hi1387) (o_istore X0 hx hby at_47 (Ls' := #[vI p1, vI p2, vI p3, vI 3, vI 2, vI i1383, vI i1385, vI i1387, .unset, .unset, .unset, .unset, .unset, .unset, .unset, .unset]) rfl (o_iloadN X0 hx hby at_49 rfl (o_iconst X0 hx hby at_50 (x := 4) rfl (o_iushr X0 hx hby at_51 (z := i1388) hi1388.symm (o_iconst X0 hx hby at_52 (x := 1) rfl (o_iand X0 hx hby at_53 (z := i1389) hi1389.symm ?_))))))))))))))))))))))))))
        exact kt
      have join1393 : ∀ (i1394 : Int32), (∃ y : Int32, i1394 = (y &&& (255 : Int32))) → (∀ t, Steps p.tables e below (s₁.setTop (mkF m 68 #[vI p1, vI p2, vI p3, vI 3, vI 2, vI i1383, vI i1385, vI i1387, .unset, .unset, .unset, .unset, .unset, .unset, .unset, .unset] [(.int i1394)])) t → Steps p.tables e below EN t) → False := by
        rintro i1394 ⟨x1396, hp1395⟩ pre1397
        obtain ⟨i1398, hi1398⟩ : ∃ z, z = ((p3.toUInt32 >>> ((5 : Int32) &&& 31).toUInt32).toInt32) := ⟨_, rfl⟩
        obtain ⟨i1399, hi1399⟩ : ∃ z, z = (i1398 &&& (1 : Int32)) := ⟨_, rfl⟩
        have pre1400 : ∀ t, Steps p.tables e below (s₁.setTop (mkF m 75 #[vI p1, vI p2, vI p3, vI 3, vI 2, vI i1383, vI i1385, vI i1387, vI i1394, .unset, .unset, .unset, .unset, .unset, .unset, .unset] [(.int i1399)])) t → Steps p.tables e below EN t := by
          intro t kt
          refine pre1397 t ?_
          refine o_istore X0 hx hby at_68 (Ls' := #[vI p1, vI p2, vI p3, vI 3, vI 2, vI i1383, vI i1385, vI i1387, vI i1394, .unset, .unset, .unset, .unset, .unset, .unset, .unset]) rfl (o_iloadN X0 hx hby at_70 rfl (o_iconst X0 hx hby at_71 (x := 5) rfl (o_iushr X0 hx hby at_72 (z := i1398) hi1398.symm (o_iconst X0 hx hby at_73 (x := 1) rfl (o_iand X0 hx hby at_74 (z := i1399) hi1399.symm ?_)))))
          exact kt
        have join1404 : ∀ (i1405 : Int32), (∃ y : Int32, i1405 = (y &&& (255 : Int32))) → (∀ t, Steps p.tables e below (s₁.setTop (mkF m 92 #[vI p1, vI p2, vI p3, vI 3, vI 2, vI i1383, vI i1385, vI i1387, vI i1394, .unset, .unset, .unset, .unset, .unset, .unset, .unset] [(.int i1405)])) t → Steps p.tables e below EN t) → False := by
          rintro i1405 ⟨x1407, hp1406⟩ pre1408
          obtain ⟨i1409, hi1409⟩ : ∃ z, z = ((p3.toUInt32 >>> ((6 : Int32) &&& 31).toUInt32).toInt32) := ⟨_, rfl⟩
          obtain ⟨i1410, hi1410⟩ : ∃ z, z = (i1409 &&& (1 : Int32)) := ⟨_, rfl⟩
          have pre1411 : ∀ t, Steps p.tables e below (s₁.setTop (mkF m 100 #[vI p1, vI p2, vI p3, vI 3, vI 2, vI i1383, vI i1385, vI i1387, vI i1394, vI i1405, .unset, .unset, .unset, .unset, .unset, .unset] [(.int i1410)])) t → Steps p.tables e below EN t := by
            intro t kt
            refine pre1408 t ?_
            refine o_istore X0 hx hby at_92 (Ls' := #[vI p1, vI p2, vI p3, vI 3, vI 2, vI i1383, vI i1385, vI i1387, vI i1394, vI i1405, .unset, .unset, .unset, .unset, .unset, .unset]) rfl (o_iloadN X0 hx hby at_94 rfl (o_bipush X0 hx hby at_95 (x := 6) rfl (o_iushr X0 hx hby at_97 (z := i1409) hi1409.symm (o_iconst X0 hx hby at_98 (x := 1) rfl (o_iand X0 hx hby at_99 (z := i1410) hi1410.symm ?_)))))
            exact kt
          have join1415 : ∀ (i1416 : Int32), (∃ y : Int32, i1416 = (y &&& (255 : Int32))) → (∀ t, Steps p.tables e below (s₁.setTop (mkF m 117 #[vI p1, vI p2, vI p3, vI 3, vI 2, vI i1383, vI i1385, vI i1387, vI i1394, vI i1405, .unset, .unset, .unset, .unset, .unset, .unset] [(.int i1416)])) t → Steps p.tables e below EN t) → False := by
            rintro i1416 ⟨x1418, hp1417⟩ pre1419
            obtain ⟨T1420, h1420, X1420, e1420, E1420, A1420, D1420, -, st1420⟩ := newO X0 hx hZ hown (ww0 hw) (ww1 hw) (ww2 hw) e0 (g := (mkF m 119 #[vI p1, vI p2, vI p3, vI 3, vI 2, vI i1383, vI i1385, vI i1387, vI i1394, vI i1405, vI i1416, .unset, .unset, .unset, .unset, .unset] [])) rfl (hb hby at_119) (by decide) (by decide)
            obtain ⟨b1420, g1420⟩ : ∃ z, z = h0.size := ⟨_, rfl⟩
            rw [← g1420] at A1420 D1420 st1420
            have O1420 : Old Z n0 h1420 := O0.ext E1420
            have bd_b1420 : h0.size ≤ b1420 := Nat.le_of_eq g1420.symm
            have g_b1420 : n0 ≤ b1420 := Nat.le_trans (own_z O0) bd_b1420
            have sz_b1420 : h0.size ≤ b1420 := Nat.le_trans (Nat.le_refl _) bd_b1420
            have lt_b1420 : b1420 < h1420.size := A1420.lt
            have D1420_31 : Fld Z h1420 b1420 C_0 "coder" "B" (.int 0) := D1420 (Or.inr (ww31 hw)) (ty := .byte) (by decide)
            have D1420_33 : Fld Z h1420 b1420 C_0 "value" "[B" .null := D1420 (Or.inr (ww33 hw)) (ty := (.array .byte)) (by decide)
            obtain ⟨_, T1421, L1421, X1421, hQ1421, st1421⟩ := own_cS X1420 hx hZ hown (ww3 hw) (ww4 hw) (ww5 hw) (ww6 hw) (rm1_55 l Z a0 hw i1383 i1385 i1387 h1420 n0 O1420) e1420 pd_0 hml (hb hby at_130) (Ls := #[vI p1, vI p2, vI p3, vI 3, vI 2, vI i1383, vI i1385, vI i1387, vI i1394, vI i1405, vI i1416, .unset, .unset, .unset, .unset, .unset]) (W := 2) (argsL := [(.int 3), (.int i1383), (.int i1385), (.int i1387)]) (rest := [(.ref b1420), (.ref b1420)])
            obtain ⟨i1422, i1423, i1424, b1425, k1426, u1427, u1428, u1429, rfl, u1431, u1432, u1433, Ku1434, u1435, u1436⟩ := hQ1421
            have Ou1434 : Old Z n0 T1421.heap := O1420.keep Ku1434 all0
            have g_b1425 : n0 ≤ b1425 := Nat.le_trans (own_z O1420) u1432
            have sz_b1425 : h0.size ≤ b1425 := Nat.le_trans E1420.1 u1432
            have N1421 := Fr.app N0 u1431
            have pre1437 : ∀ t, Steps p.tables e below (T1421.setTop (mkF m 133 #[vI p1, vI p2, vI p3, vI 3, vI 2, vI i1383, vI i1385, vI i1387, vI i1394, vI i1405, vI i1416, .unset, .unset, .unset, .unset, .unset] [(.ref b1425), (.ref b1420), (.ref b1420)])) t → Steps p.tables e below EN t := by
              intro t kt
              refine pre1419 t ?_
              refine o_istore X0 hx hby at_117 (Ls' := #[vI p1, vI p2, vI p3, vI 3, vI 2, vI i1383, vI i1385, vI i1387, vI i1394, vI i1405, vI i1416, .unset, .unset, .unset, .unset, .unset]) rfl (st1420 _ (o_dup X1420 hx hby at_122 rfl (o_iloadN X1420 hx hby at_123 rfl (o_iload X1420 hx hby at_124 rfl (o_iload X1420 hx hby at_126 rfl (o_iload X1420 hx hby at_128 rfl (st1421 _ ?_)))))))
              exact kt
            obtain rfl : i1383 = i1424 := (u1427.trans (own_nar255 hi1383)).symm
            obtain rfl : i1385 = i1422 := (u1428.trans (own_nar255 hi1385)).symm
            obtain rfl : i1387 = i1423 := (u1429.trans (own_nar255 hi1387)).symm
            have f1438 : Exa Z T1421.heap b1420 C_0 := (A1420.keep Ku1434)
            have f1439 : Fld Z T1421.heap b1420 C_0 "coder" "B" (.int 0) := (D1420_31.keep Ku1434 nin0)
            have f1440 : Fld Z T1421.heap b1420 C_0 "value" "[B" .null := (D1420_33.keep Ku1434 nin0)
            obtain ⟨_, T1441, L1441, X1441, hQ1441, st1441⟩ := own_cI X1421 hx hZ hown (ww8 hw) (ww9 hw) (ww2 hw) (ww10 hw) (rm2_56 l Z a0 hw b1420 b1425 i1383 i1385 i1387 k1426 p62 T1421.heap n0 Ou1434 u1436 S_63 hk64 (own_lt255 hi1383) (own_lt255 hi1385) (own_lt255 hi1387) f1438 f1439 f1440 u1433 g_b1420 (own_t lt_b1420 Ku1434.1)) rfl pd_5 hml (hb hby at_133) (Ls := #[vI p1, vI p2, vI p3, vI 3, vI 2, vI i1383, vI i1385, vI i1387, vI i1394, vI i1405, vI i1416, .unset, .unset, .unset, .unset, .unset]) (W := 1) (argsL := [(.ref b1425)]) (rest := [(.ref b1420)]) (b := b1420)
            obtain ⟨i1442, i1443, i1444, b1445, k1446, u1447, u1448, u1449, rfl, u1451, u1452, u1453, Ku1454, u1455, u1456, u1457, u1458, u1459⟩ := hQ1441
            have Ou1454 : Old Z n0 T1441.heap := Ou1434.keep Ku1454 (allS g_b1420 all0)
            have g_b1445 : n0 ≤ b1445 := Nat.le_trans (own_z Ou1434) u1452
            have sz_b1445 : h0.size ≤ b1445 := Nat.le_trans (Nat.le_trans E1420.1 Ku1434.1) u1452
            have N1441 := Fr.app N1421 u1451
            obtain ⟨T1460, h1460, X1460, e1460, E1460, A1460, D1460, -, st1460⟩ := newO X1441 hx hZ hown (ww0 hw) (ww1 hw) (ww2 hw) rfl (g := (mkF m 138 #[vI p1, vI p2, vI p3, vI 3, vI 2, vI i1383, vI i1385, vI i1387, vI i1394, vI i1405, vI i1416, vR b1420, .unset, .unset, .unset, .unset] [])) rfl (hb hby at_138) (by decide) (by decide)
            obtain ⟨b1460, g1460⟩ : ∃ z, z = T1441.heap.size := ⟨_, rfl⟩
            rw [← g1460] at A1460 D1460 st1460
            have O1460 : Old Z n0 h1460 := Ou1454.ext E1460
            have bd_b1460 : T1441.heap.size ≤ b1460 := Nat.le_of_eq g1460.symm
            have g_b1460 : n0 ≤ b1460 := Nat.le_trans (own_z Ou1454) bd_b1460
            have sz_b1460 : h0.size ≤ b1460 := Nat.le_trans (Nat.le_trans (Nat.le_trans E1420.1 Ku1434.1) Ku1454.1) bd_b1460
            have lt_b1460 : b1460 < h1460.size := A1460.lt
            have D1460_31 : Fld Z h1460 b1460 C_0 "coder" "B" (.int 0) := D1460 (Or.inr (ww31 hw)) (ty := .byte) (by decide)
            have D1460_33 : Fld Z h1460 b1460 C_0 "value" "[B" .null := D1460 (Or.inr (ww33 hw)) (ty := (.array .byte)) (by decide)
            obtain ⟨_, T1461, L1461, X1461, hQ1461, st1461⟩ := own_cS X1460 hx hZ hown (ww3 hw) (ww4 hw) (ww5 hw) (ww6 hw) (rm1_30 l Z a0 hw i1394 i1405 i1416 h1460 n0 O1460) e1460 pd_0 hml (hb hby at_150) (Ls := #[vI p1, vI p2, vI p3, vI 3, vI 2, vI i1383, vI i1385, vI i1387, vI i1394, vI i1405, vI i1416, vR b1420, .unset, .unset, .unset, .unset]) (W := 2) (argsL := [(.int 2), (.int i1394), (.int i1405), (.int i1416)]) (rest := [(.ref b1460), (.ref b1460)])
            obtain ⟨i1462, i1463, b1464, k1465, u1466, u1467, rfl, u1469, u1470, u1471, Ku1472, u1473, u1474⟩ := hQ1461
            have Ou1472 : Old Z n0 T1461.heap := O1460.keep Ku1472 all0
            have g_b1464 : n0 ≤ b1464 := Nat.le_trans (own_z O1460) u1470
            have sz_b1464 : h0.size ≤ b1464 := Nat.le_trans (Nat.le_trans (Nat.le_trans (Nat.le_trans E1420.1 Ku1434.1) Ku1454.1) E1460.1) u1470
            have N1461 := Fr.app N1441 u1469
            have pre1475 : ∀ t, Steps p.tables e below (T1461.setTop (mkF m 153 #[vI p1, vI p2, vI p3, vI 3, vI 2, vI i1383, vI i1385, vI i1387, vI i1394, vI i1405, vI i1416, vR b1420, .unset, .unset, .unset, .unset] [(.ref b1464), (.ref b1460), (.ref b1460)])) t → Steps p.tables e below EN t := by
              intro t kt
              refine pre1437 t ?_
              refine st1441 _ (o_astore X1441 hx hby at_136 rfl (Ls' := #[vI p1, vI p2, vI p3, vI 3, vI 2, vI i1383, vI i1385, vI i1387, vI i1394, vI i1405, vI i1416, vR b1420, .unset, .unset, .unset, .unset]) rfl (st1460 _ (o_dup X1460 hx hby at_141 rfl (o_iload X1460 hx hby at_142 rfl (o_iload X1460 hx hby at_144 rfl (o_iload X1460 hx hby at_146 rfl (o_iload X1460 hx hby at_148 rfl (st1461 _ ?_))))))))
              exact kt
            obtain rfl : i1394 = i1463 := (u1466.trans (own_nar255 hp1395)).symm
            obtain rfl : i1405 = i1462 := (u1467.trans (own_nar255 hp1406)).symm
            have f1476 : Exa Z T1461.heap b1460 C_0 := (A1460.keep Ku1472)
            have f1477 : Fld Z T1461.heap b1460 C_0 "coder" "B" (.int 0) := (D1460_31.keep Ku1472 nin0)
            have f1478 : Fld Z T1461.heap b1460 C_0 "value" "[B" .null := (D1460_33.keep Ku1472 nin0)
            obtain ⟨_, T1479, L1479, X1479, hQ1479, st1479⟩ := own_cI X1461 hx hZ hown (ww8 hw) (ww9 hw) (ww2 hw) (ww10 hw) (rm2_31 l Z a0 hw b1460 b1464 i1394 i1405 k1465 p62 T1461.heap n0 Ou1472 u1474 S_63 hk64 (own_lt255 hp1395) (own_lt255 hp1406) f1476 f1477 f1478 u1471 g_b1460 (own_t lt_b1460 Ku1472.1)) rfl pd_5 hml (hb hby at_153) (Ls := #[vI p1, vI p2, vI p3, vI 3, vI 2, vI i1383, vI i1385, vI i1387, vI i1394, vI i1405, vI i1416, vR b1420, .unset, .unset, .unset, .unset]) (W := 1) (argsL := [(.ref b1464)]) (rest := [(.ref b1460)]) (b := b1460)
            obtain ⟨i1480, i1481, b1482, k1483, u1484, u1485, rfl, u1487, u1488, u1489, Ku1490, u1491, u1492, u1493, u1494, u1495⟩ := hQ1479
            have Ou1490 : Old Z n0 T1479.heap := Ou1472.keep Ku1490 (allS g_b1460 all0)
            have g_b1482 : n0 ≤ b1482 := Nat.le_trans (own_z Ou1472) u1488
            have sz_b1482 : h0.size ≤ b1482 := Nat.le_trans (Nat.le_trans (Nat.le_trans (Nat.le_trans (Nat.le_trans E1420.1 Ku1434.1) Ku1454.1) E1460.1) Ku1472.1) u1488
            have N1479 := Fr.app N1461 u1487
            obtain ⟨T1496, h1496, X1496, e1496, E1496, A1496, D1496, -, st1496⟩ := newO X1479 hx hZ hown (ww34 hw) (ww35 hw) (ww36 hw) rfl (g := (mkF m 158 #[vI p1, vI p2, vI p3, vI 3, vI 2, vI i1383, vI i1385, vI i1387, vI i1394, vI i1405, vI i1416, vR b1420, vR b1460, .unset, .unset, .unset] [])) rfl (hb hby at_158) (by decide) (by decide)
            obtain ⟨b1496, g1496⟩ : ∃ z, z = T1479.heap.size := ⟨_, rfl⟩
            rw [← g1496] at A1496 D1496 st1496
            have O1496 : Old Z n0 h1496 := Ou1490.ext E1496
            have bd_b1496 : T1479.heap.size ≤ b1496 := Nat.le_of_eq g1496.symm
            have g_b1496 : n0 ≤ b1496 := Nat.le_trans (own_z Ou1490) bd_b1496
            have sz_b1496 : h0.size ≤ b1496 := Nat.le_trans (Nat.le_trans (Nat.le_trans (Nat.le_trans (Nat.le_trans (Nat.le_trans E1420.1 Ku1434.1) Ku1454.1) E1460.1) Ku1472.1) Ku1490.1) bd_b1496
            have lt_b1496 : b1496 < h1496.size := A1496.lt
            have D1496_92 : Fld Z h1496 b1496 C_1 "text" C_2 .null := D1496 (Or.inr (ww92 hw)) (ty := (.object "java/lang/String")) (by decide)
            have f1497 : Exa Z h1496 b1420 C_0 := (Exa.ext E1496 (((Exa.ext E1460 u1455).keep Ku1472).keep Ku1490))
            have f1498 : Fld Z h1496 b1420 C_0 "value" "[B" (.ref b1445) := (Fld.ext E1496 (((Fld.ext E1460 u1457).keep Ku1472 nin0).keep Ku1490 (ninS (own_n (own_t (own_t lt_b1420 Ku1434.1) Ku1454.1) bd_b1460) nin0)))
            have f1499 : Arv Z h1496 b1445 k1446 .byte (3 : Int32) [(.int i1442), (.int i1443), (.int i1444)] (.int (0 : Int32)) := ((((u1459.ext E1460).keep Ku1472 nin0).keep Ku1490 (ninS (own_n u1453 bd_b1460) nin0)).ext E1496)
            have f1500 : Fld Z h1496 b1420 C_0 "coder" "B" (.int 0) := (Fld.ext E1496 (((Fld.ext E1460 u1456).keep Ku1472 nin0).keep Ku1490 (ninS (own_n (own_t (own_t lt_b1420 Ku1434.1) Ku1454.1) bd_b1460) nin0)))
            obtain ⟨_, T1501, L1501, X1501, hS1501, hZ1501, hown1501, hQ1501, st1501⟩ := own_cIW (s := s) (vm0 := s.vm) X1496 hx hZ hown hS0 (Nat.le_trans (Nat.le_trans (Nat.le_trans (Nat.le_trans (Nat.le_trans (Nat.le_trans (Nat.le_trans Y0 E1420.1) Ku1434.1) Ku1454.1) E1460.1) Ku1472.1) Ku1490.1) E1496.1) (ww37 hw) (ww38 hw) (ww36 hw) (ww39 hw) (rm8_61 l Z a0 hw b1496 b1420 b1445 i1442 i1443 i1444 k1446 p62 va116 h1496 n0 O1496 f1497 f1498 f1499 S_63 hk64 f1500 S_117 ir_va116 A1496 D1496_92 g_b1496) e1496 pd_17 hml (hb hby at_164) (Ls := #[vI p1, vI p2, vI p3, vI 3, vI 2, vI i1383, vI i1385, vI i1387, vI i1394, vI i1405, vI i1416, vR b1420, vR b1460, .unset, .unset, .unset]) (W := 1) (argsL := [(.ref b1420)]) (rest := [(.ref b1496)]) (b := b1496)
            obtain ⟨rfl, u1503, Ku1504, u1505, u1506⟩ := hQ1501
            have Ou1504 : Old Z n0 T1501.heap := O1496.keep Ku1504 (allS g_b1496 all0)
            have N1501 := Fr.app N1479 u1503
            obtain ⟨T1507, h1507, X1507, e1507, E1507, A1507, D1507, -, st1507⟩ := newO X1501 hx hZ1501 hown1501 (ww34 hw) (ww35 hw) (ww36 hw) rfl (g := (mkF m 169 #[vI p1, vI p2, vI p3, vI 3, vI 2, vI i1383, vI i1385, vI i1387, vI i1394, vI i1405, vI i1416, vR b1420, vR b1460, vR b1496, .unset, .unset] [])) rfl (hb hby at_169) (by decide) (by decide)
            obtain ⟨b1507, g1507⟩ : ∃ z, z = T1501.heap.size := ⟨_, rfl⟩
            rw [← g1507] at A1507 D1507 st1507
            have O1507 : Old Z n0 h1507 := Ou1504.ext E1507
            have bd_b1507 : T1501.heap.size ≤ b1507 := Nat.le_of_eq g1507.symm
            have g_b1507 : n0 ≤ b1507 := Nat.le_trans (own_z Ou1504) bd_b1507
            have sz_b1507 : h0.size ≤ b1507 := Nat.le_trans (Nat.le_trans (Nat.le_trans (Nat.le_trans (Nat.le_trans (Nat.le_trans (Nat.le_trans (Nat.le_trans E1420.1 Ku1434.1) Ku1454.1) E1460.1) Ku1472.1) Ku1490.1) E1496.1) Ku1504.1) bd_b1507
            have lt_b1507 : b1507 < h1507.size := A1507.lt
            have D1507_92 : Fld Z h1507 b1507 C_1 "text" C_2 .null := D1507 (Or.inr (ww92 hw)) (ty := (.object "java/lang/String")) (by decide)
            have f1508 : Exa Z h1507 b1460 C_0 := (Exa.ext E1507 ((Exa.ext E1496 u1491).keep Ku1504))
            have f1509 : Fld Z h1507 b1460 C_0 "value" "[B" (.ref b1482) := (Fld.ext E1507 ((Fld.ext E1496 u1493).keep Ku1504 (ninS (own_n (own_t (own_t lt_b1460 Ku1472.1) Ku1490.1) bd_b1496) nin0)))
            have f1510 : Arv Z h1507 b1482 k1483 .byte (2 : Int32) [(.int i1481), (.int i1480)] (.int (0 : Int32)) := (((u1495.ext E1496).keep Ku1504 (ninS (own_n u1489 bd_b1496) nin0)).ext E1507)
            have f1511 : Fld Z h1507 b1460 C_0 "coder" "B" (.int 0) := (Fld.ext E1507 ((Fld.ext E1496 u1492).keep Ku1504 (ninS (own_n (own_t (own_t lt_b1460 Ku1472.1) Ku1490.1) bd_b1496) nin0)))
            obtain ⟨_, T1512, L1512, X1512, hS1512, hZ1512, hown1512, hQ1512, st1512⟩ := own_cIW (s := s) (vm0 := T1501.vm) X1507 hx hZ1501 hown1501 hS1501 (Nat.le_trans (Nat.le_refl _) E1507.1) (ww37 hw) (ww38 hw) (ww36 hw) (ww39 hw) (rm8_36 l Z a0 hw b1507 b1460 b1482 i1481 i1480 k1483 p62 va116 h1507 n0 O1507 f1508 f1509 f1510 S_63 hk64 f1511 S_117 ir_va116 A1507 D1507_92 g_b1507) e1507 pd_17 hml (hb hby at_175) (Ls := #[vI p1, vI p2, vI p3, vI 3, vI 2, vI i1383, vI i1385, vI i1387, vI i1394, vI i1405, vI i1416, vR b1420, vR b1460, vR b1496, .unset, .unset]) (W := 1) (argsL := [(.ref b1460)]) (rest := [(.ref b1507)]) (b := b1507)
            obtain ⟨rfl, u1514, Ku1515, u1516, u1517⟩ := hQ1512
            have Ou1515 : Old Z n0 T1512.heap := O1507.keep Ku1515 (allS g_b1507 all0)
            have N1512 := Fr.app N1501 u1514
            have f1518 : Fld Z T1512.heap b1496 C_1 "text" C_2 (.ref b1420) := ((Fld.ext E1507 u1506).keep Ku1515 (ninS (own_n (own_t lt_b1496 Ku1504.1) bd_b1507) nin0))
            have f1519 : Exa Z T1512.heap b1420 C_0 := ((Exa.ext E1507 (f1497.keep Ku1504)).keep Ku1515)
            have f1520 : Exa Z T1512.heap b1460 C_0 := (f1508.keep Ku1515)
            have ne1521 : b1420 ≠ b1496 := (own_n (own_t (own_t (own_t (own_t (own_t lt_b1420 Ku1434.1) Ku1454.1) E1460.1) Ku1472.1) Ku1490.1) bd_b1496)
            have ne1522 : b1420 ≠ b1507 := (own_n (own_t (own_t (own_t (own_t (own_t (own_t (own_t lt_b1420 Ku1434.1) Ku1454.1) E1460.1) Ku1472.1) Ku1490.1) E1496.1) Ku1504.1) bd_b1507)
            have f1523 : Fld Z T1512.heap b1420 C_0 "coder" "B" (.int 0) := ((Fld.ext E1507 (f1500.keep Ku1504 (ninS ne1521 nin0))).keep Ku1515 (ninS ne1522 nin0))
            have ne1524 : b1460 ≠ b1507 := (own_n (own_t (own_t (own_t (own_t lt_b1460 Ku1472.1) Ku1490.1) E1496.1) Ku1504.1) bd_b1507)
            have f1525 : Fld Z T1512.heap b1460 C_0 "coder" "B" (.int 0) := (f1511.keep Ku1515 (ninS ne1524 nin0))
            have f1526 : Fld Z T1512.heap b1420 C_0 "value" "[B" (.ref b1445) := ((Fld.ext E1507 (f1498.keep Ku1504 (ninS ne1521 nin0))).keep Ku1515 (ninS ne1522 nin0))
            have f1527 : Fld Z T1512.heap b1460 C_0 "value" "[B" (.ref b1482) := (f1509.keep Ku1515 (ninS ne1524 nin0))
            have ne1528 : b1445 ≠ b1496 := (own_n (own_t (own_t (own_t u1453 E1460.1) Ku1472.1) Ku1490.1) bd_b1496)
            have ne1529 : b1445 ≠ b1507 := (own_n (own_t (own_t (own_t (own_t (own_t u1453 E1460.1) Ku1472.1) Ku1490.1) E1496.1) Ku1504.1) bd_b1507)
            have f1530 : Arv Z T1512.heap b1445 k1446 .byte (3 : Int32) [(.int i1442), (.int i1443), (.int i1444)] (.int (0 : Int32)) := (((f1499.keep Ku1504 (ninS ne1528 nin0)).ext E1507).keep Ku1515 (ninS ne1529 nin0))
            have f1531 : Arv Z T1512.heap b1482 k1483 .byte (2 : Int32) [(.int i1481), (.int i1480)] (.int (0 : Int32)) := (f1510.keep Ku1515 (ninS (own_n (own_t (own_t u1489 E1496.1) Ku1504.1) bd_b1507) nin0))
            have f1533 : Exa Z T1512.heap b1496 C_1 := ((Exa.ext E1507 u1505).keep Ku1515)
            obtain ⟨_, T1532, L1532, X1532, hQ1532, st1532⟩ := own_cV X1512 hx hZ1512 hown1512 (ww93 hw) (ww94 hw) (notFace_of_selects (args := #[]) (mvT hZ1512 (ww96 hw))) (ww96 hw) (ww95 hw) (ww36 hw) (ww97 hw) f1533 (rm20_96 l Z a0 hw b1496 b1507 b1420 b1460 p62 b1445 b1482 i1442 i1443 i1444 k1446 i1481 i1480 k1483 T1512.heap n0 Ou1515 (own_n (own_t lt_b1496 Ku1504.1) bd_b1507) u1516 f1518 u1517 f1519 (own_n (own_t (own_t lt_b1420 Ku1434.1) Ku1454.1) bd_b1460) f1520 S_63 hk64 f1523 f1525 f1526 f1527 f1530 f1531) rfl pd_19 hml (hb hby at_228) (Ls := #[vI p1, vI p2, vI p3, vI 3, vI 2, vI i1383, vI i1385, vI i1387, vI i1394, vI i1405, vI i1416, vR b1420, vR b1460, vR b1496, vR b1507, vI 0]) (W := 0) (argsL := [(.ref b1507)]) (rest := [])
            obtain ⟨rfl, u1535, u1536⟩ := hQ1532
            have N1532 := Fr.app N1512 u1535
            obtain ⟨_, T1537, L1537, X1537, hQ1537, st1537⟩ := own_cV X1532 hx hZ1512 hown1512 (ww93 hw) (ww94 hw) (notFace_of_selects (args := #[]) (mvT hZ1512 (ww96 hw))) (ww96 hw) (ww95 hw) (ww36 hw) (ww97 hw) u1516 (rm20_93 l Z a0 hw b1507 b1496 b1460 b1420 p62 b1482 b1445 i1481 i1480 k1483 i1442 i1443 i1444 k1446 T1512.heap n0 Ou1515 (Ne.symm (own_n (own_t lt_b1496 Ku1504.1) bd_b1507)) f1533 u1517 f1518 f1520 (Ne.symm (own_n (own_t (own_t lt_b1420 Ku1434.1) Ku1454.1) bd_b1460)) f1519 S_63 hk64 f1525 f1523 f1527 f1526 f1531 f1530) u1536 pd_19 hml (hb hby at_240) (Ls := #[vI p1, vI p2, vI p3, vI 3, vI 2, vI i1383, vI i1385, vI i1387, vI i1394, vI i1405, vI i1416, vR b1420, vR b1460, vR b1496, vR b1507, vI 0]) (W := 0) (argsL := [(.ref b1496)]) (rest := [])
            obtain ⟨rfl, u1539, u1540⟩ := hQ1537
            have N1537 := Fr.app N1532 u1539
            obtain ⟨_, T1541, L1541, X1541, hQ1541, st1541⟩ := own_cV X1537 hx hZ1512 hown1512 (ww93 hw) (ww94 hw) (notFace_of_selects (args := #[]) (mvT hZ1512 (ww96 hw))) (ww96 hw) (ww95 hw) (ww36 hw) (ww97 hw) f1533 (rm20_24 l Z a0 hw b1496 T1512.heap n0 Ou1515) u1540 pd_19 hml (hb hby at_252) (Ls := #[vI p1, vI p2, vI p3, vI 3, vI 2, vI i1383, vI i1385, vI i1387, vI i1394, vI i1405, vI i1416, vR b1420, vR b1460, vR b1496, vR b1507, vI 0]) (W := 0) (argsL := [(.ref b1496)]) (rest := [])
            obtain ⟨rfl, u1543, u1544⟩ := hQ1541
            have N1541 := Fr.app N1537 u1543
            obtain ⟨_, T1545, L1545, X1545, hQ1545, st1545⟩ := own_cV X1541 hx hZ1512 hown1512 (ww93 hw) (ww94 hw) (notFace_of_selects (args := #[]) (mvT hZ1512 (ww96 hw))) (ww96 hw) (ww95 hw) (ww36 hw) (ww97 hw) f1533 (rm20_25 l Z a0 hw b1496 T1512.heap n0 Ou1515) u1544 pd_19 hml (hb hby at_261) (Ls := #[vI p1, vI p2, vI p3, vI 3, vI 2, vI i1383, vI i1385, vI i1387, vI i1394, vI i1405, vI i1416, vR b1420, vR b1460, vR b1496, vR b1507, vI 0]) (W := 0) (argsL := [.null]) (rest := [])
            obtain ⟨rfl, u1547, u1548⟩ := hQ1545
            have N1545 := Fr.app N1541 u1547
            obtain ⟨_, T1549, L1549, X1549, hQ1549, st1549⟩ := own_cV X1545 hx hZ1512 hown1512 (ww93 hw) (ww94 hw) (notFace_of_selects (args := #[]) (mvT hZ1512 (ww96 hw))) (ww96 hw) (ww95 hw) (ww36 hw) (ww97 hw) f1533 (rm20_26 l Z a0 hw b1496 b1420 T1512.heap n0 Ou1515 (Ne.symm ne1521) f1519) u1548 pd_19 hml (hb hby at_271) (Ls := #[vI p1, vI p2, vI p3, vI 3, vI 2, vI i1383, vI i1385, vI i1387, vI i1394, vI i1405, vI i1416, vR b1420, vR b1460, vR b1496, vR b1507, vI 0]) (W := 0) (argsL := [(.ref b1420)]) (rest := [])
            obtain ⟨rfl, u1551, u1552⟩ := hQ1549
            have N1549 := Fr.app N1545 u1551
            refine fin (some (.int 1)) _ _ _ _ T1512.vm _ X1549 hS1512 (by rw [u1552]; exact (Nat.le_refl _)) nofun (fun fs hr => pre1475 _ ?_) (own_atH u1552 ?_) (by decide) (by decide)
            · refine st1479 _ (o_astore X1479 hx hby at_156 rfl (Ls' := #[vI p1, vI p2, vI p3, vI 3, vI 2, vI i1383, vI i1385, vI i1387, vI i1394, vI i1405, vI i1416, vR b1420, vR b1460, .unset, .unset, .unset]) rfl (st1496 _ (o_dup X1496 hx hby at_161 rfl (o_aload X1496 hx hby at_162 rfl rfl (st1501 _ (o_astore X1501 hx hby at_167 rfl (Ls' := #[vI p1, vI p2, vI p3, vI 3, vI 2, vI i1383, vI i1385, vI i1387, vI i1394, vI i1405, vI i1416, vR b1420, vR b1460, vR b1496, .unset, .unset]) rfl (st1507 _ (o_dup X1507 hx hby at_172 rfl (o_aload X1507 hx hby at_173 rfl rfl (st1512 _ (o_astore X1512 hx hby at_178 rfl (Ls' := #[vI p1, vI p2, vI p3, vI 3, vI 2, vI i1383, vI i1385, vI i1387, vI i1394, vI i1405, vI i1416, vR b1420, vR b1460, vR b1496, vR b1507, .unset]) rfl (o_iloadN X1512 hx hby at_180 rfl (o_iload X1512 hx hby at_181 rfl (o_icmpY X1512 hx hby at_183 (pc := 183) (pc' := 221) (by decide +kernel) (by decide) (by decide) (o_iconst X1512 hx hby at_221 (x := 0) rfl (o_istore X1512 hx hby at_222 (Ls' := #[vI p1, vI p2, vI p3, vI 3, vI 2, vI i1383, vI i1385, vI i1387, vI i1394, vI i1405, vI i1416, vR b1420, vR b1460, vR b1496, vR b1507, vI 0]) rfl (o_aload X1512 hx hby at_224 rfl rfl (o_aload X1512 hx hby at_226 rfl rfl (st1532 _ (o_iload X1532 hx hby at_231 rfl (o_icmpN X1532 hx hby at_233 (by decide +kernel) (o_aload X1532 hx hby at_236 rfl rfl (o_aload X1532 hx hby at_238 rfl rfl (st1537 _ (o_iload X1537 hx hby at_243 rfl (o_icmpN X1537 hx hby at_245 (by decide +kernel) (o_aload X1537 hx hby at_248 rfl rfl (o_aload X1537 hx hby at_250 rfl rfl (st1541 _ (o_ifN X1541 hx hby at_255 (by decide +kernel) (o_aload X1541 hx hby at_258 rfl rfl (o_null X1541 hx hby at_260 (st1545 _ (o_ifN X1545 hx hby at_264 (by decide +kernel) (o_aload X1545 hx hby at_267 rfl rfl (o_aload X1545 hx hby at_269 rfl rfl (st1549 _ (o_ifN X1549 hx hby at_274 (by decide +kernel) (o_iconst X1549 hx hby at_277 (x := 1) rfl ?_)))))))))))))))))))))))))))))))))))))))
              refine o_goto X1549 hx hby at_278 (pc := 278) (pc' := 282) (by decide) (by decide) ?_
              exact retN X1549 hx (t := .boolean) hret (by simp) (hb hby at_282) hr
            · exact ⟨rfl, N1549⟩
          by_cases hc1553 : i1410 = (0 : Int32)
          · skip
            subst hc1553
            obtain ⟨i1554, hi1554⟩ : ∃ z, z = ((p2.toUInt32 >>> ((16 : Int32) &&& 31).toUInt32).toInt32) := ⟨_, rfl⟩
            obtain ⟨i1555, hi1555⟩ : ∃ z, z = (i1554 &&& (255 : Int32)) := ⟨_, rfl⟩
            have pre1556 : ∀ t, Steps p.tables e below (s₁.setTop (mkF m 117 #[vI p1, vI p2, vI p3, vI 3, vI 2, vI i1383, vI i1385, vI i1387, vI i1394, vI i1405, .unset, .unset, .unset, .unset, .unset, .unset] [(.int i1555)])) t → Steps p.tables e below EN t := by
              intro t kt
              refine pre1411 t ?_
              refine o_ifY X0 hx hby at_100 (pc := 100) (pc' := 108) (by decide +kernel) (by decide) (by decide) (o_iloadN X0 hx hby at_108 rfl (o_bipush X0 hx hby at_109 (x := 16) rfl (o_iushr X0 hx hby at_111 (z := i1554) hi1554.symm (o_sipush X0 hx hby at_112 (x := 255) rfl (o_iand X0 hx hby at_115 (z := i1555) hi1555.symm (o_i2c X0 hx hby at_116 (z := i1555) (own_i2c255 hi1555) ?_))))))
              exact kt
            exact join1415 i1555 ⟨_, hi1555⟩ pre1556
          · skip
            have pre1557 : ∀ t, Steps p.tables e below (s₁.setTop (mkF m 117 #[vI p1, vI p2, vI p3, vI 3, vI 2, vI i1383, vI i1385, vI i1387, vI i1394, vI i1405, .unset, .unset, .unset, .unset, .unset, .unset] [(.int i1387)])) t → Steps p.tables e below EN t := by
              intro t kt
              refine pre1411 t ?_
              refine o_ifN X0 hx hby at_100 ((if0 _ _).trans (feq hc1553).1) (o_iload X0 hx hby at_103 rfl (o_goto X0 hx hby at_105 (pc := 105) (pc' := 117) (by decide) (by decide) ?_))
              exact kt
            exact join1415 i1387 ⟨_, hi1387⟩ pre1557
        by_cases hc1558 : i1399 = (0 : Int32)
        · skip
          subst hc1558
          obtain ⟨i1559, hi1559⟩ : ∃ z, z = ((p2.toUInt32 >>> ((8 : Int32) &&& 31).toUInt32).toInt32) := ⟨_, rfl⟩
          obtain ⟨i1560, hi1560⟩ : ∃ z, z = (i1559 &&& (255 : Int32)) := ⟨_, rfl⟩
          have pre1561 : ∀ t, Steps p.tables e below (s₁.setTop (mkF m 92 #[vI p1, vI p2, vI p3, vI 3, vI 2, vI i1383, vI i1385, vI i1387, vI i1394, .unset, .unset, .unset, .unset, .unset, .unset, .unset] [(.int i1560)])) t → Steps p.tables e below EN t := by
            intro t kt
            refine pre1400 t ?_
            refine o_ifY X0 hx hby at_75 (pc := 75) (pc' := 83) (by decide +kernel) (by decide) (by decide) (o_iloadN X0 hx hby at_83 rfl (o_bipush X0 hx hby at_84 (x := 8) rfl (o_iushr X0 hx hby at_86 (z := i1559) hi1559.symm (o_sipush X0 hx hby at_87 (x := 255) rfl (o_iand X0 hx hby at_90 (z := i1560) hi1560.symm (o_i2c X0 hx hby at_91 (z := i1560) (own_i2c255 hi1560) ?_))))))
            exact kt
          exact join1404 i1560 ⟨_, hi1560⟩ pre1561
        · skip
          have pre1562 : ∀ t, Steps p.tables e below (s₁.setTop (mkF m 92 #[vI p1, vI p2, vI p3, vI 3, vI 2, vI i1383, vI i1385, vI i1387, vI i1394, .unset, .unset, .unset, .unset, .unset, .unset, .unset] [(.int i1385)])) t → Steps p.tables e below EN t := by
            intro t kt
            refine pre1400 t ?_
            refine o_ifN X0 hx hby at_75 ((if0 _ _).trans (feq hc1558).1) (o_iload X0 hx hby at_78 rfl (o_goto X0 hx hby at_80 (pc := 80) (pc' := 92) (by decide) (by decide) ?_))
            exact kt
          exact join1404 i1385 ⟨_, hi1385⟩ pre1562
      by_cases hc1563 : i1389 = (0 : Int32)
      · skip
        subst hc1563
        obtain ⟨i1564, hi1564⟩ : ∃ z, z = (p2 &&& (255 : Int32)) := ⟨_, rfl⟩
        have pre1565 : ∀ t, Steps p.tables e below (s₁.setTop (mkF m 68 #[vI p1, vI p2, vI p3, vI 3, vI 2, vI i1383, vI i1385, vI i1387, .unset, .unset, .unset, .unset, .unset, .unset, .unset, .unset] [(.int i1564)])) t → Steps p.tables e below EN t := by
          intro t kt
          refine pre1390 t ?_
          refine o_ifY X0 hx hby at_54 (pc := 54) (pc' := 62) (by decide +kernel) (by decide) (by decide) (o_iloadN X0 hx hby at_62 rfl (o_sipush X0 hx hby at_63 (x := 255) rfl (o_iand X0 hx hby at_66 (z := i1564) hi1564.symm (o_i2c X0 hx hby at_67 (z := i1564) (own_i2c255 hi1564) ?_))))
          exact kt
        exact join1393 i1564 ⟨_, hi1564⟩ pre1565
      · skip
        have pre1566 : ∀ t, Steps p.tables e below (s₁.setTop (mkF m 68 #[vI p1, vI p2, vI p3, vI 3, vI 2, vI i1383, vI i1385, vI i1387, .unset, .unset, .unset, .unset, .unset, .unset, .unset, .unset] [(.int i1383)])) t → Steps p.tables e below EN t := by
          intro t kt
          refine pre1390 t ?_
          refine o_ifN X0 hx hby at_54 ((if0 _ _).trans (feq hc1563).1) (o_iload X0 hx hby at_57 rfl (o_goto X0 hx hby at_59 (pc := 59) (pc' := 68) (by decide) (by decide) ?_))
          exact kt
        exact join1393 i1383 ⟨_, hi1383⟩ pre1566
    · skip
      obtain ⟨i1567, hi1567⟩ : ∃ z, z = (p1 &&& (255 : Int32)) := ⟨_, rfl⟩
      obtain ⟨i1568, hi1568⟩ : ∃ z, z = ((p1.toUInt32 >>> ((8 : Int32) &&& 31).toUInt32).toInt32) := ⟨_, rfl⟩
      obtain ⟨i1569, hi1569⟩ : ∃ z, z = (i1568 &&& (255 : Int32)) := ⟨_, rfl⟩
      obtain ⟨i1570, hi1570⟩ : ∃ z, z = ((p1.toUInt32 >>> ((16 : Int32) &&& 31).toUInt32).toInt32) := ⟨_, rfl⟩
      obtain ⟨i1571, hi1571⟩ : ∃ z, z = (i1570 &&& (255 : Int32)) := ⟨_, rfl⟩
      obtain ⟨i1572, hi1572⟩ : ∃ z, z = ((p3.toUInt32 >>> ((4 : Int32) &&& 31).toUInt32).toInt32) := ⟨_, rfl⟩
      obtain ⟨i1573, hi1573⟩ : ∃ z, z = (i1572 &&& (1 : Int32)) := ⟨_, rfl⟩
      have pre1574 : ∀ t, Steps p.tables e below (s₁.setTop (mkF m 54 #[vI p1, vI p2, vI p3, vI 3, vI 3, vI i1567, vI i1569, vI i1571, .unset, .unset, .unset, .unset, .unset, .unset, .unset, .unset] [(.int i1573)])) t → Steps p.tables e below EN t := by
        intro t kt
        refine pre1202 t ?_
        refine o_irem X0 hx hby at_15 (by decide +kernel : ¬ ((3 : Int32) = (0 : Int32))) (z := (2 : Int32)) hq1201 (o_iadd X0 hx hby at_16 (z := (3 : Int32)) (by decide +kernel) (o_istore X0 hx hby at_17 (Ls' := #[vI p1, vI p2, vI p3, vI 3, vI 3, .unset, .unset, .unset, .unset, .unset, .unset, .unset, .unset, .unset, .unset, .unset]) rfl (o_iloadN X0 hx hby at_19 rfl (o_sipush X0 hx hby at_20 (x := 255) rfl (o_iand X0 hx hby at_23 (z := i1567) hi1567.symm (o_i2c X0 hx hby at_24 (z := i1567) (own_i2c255 hi1567) (o_istore X0 hx hby at_25 (Ls' := #[vI p1, vI p2, vI p3, vI 3, vI 3, vI i1567, .unset, .unset, .unset, .unset, .unset, .unset, .unset, .unset, .unset, .unset]) rfl (o_iloadN X0 hx hby at_27 rfl (o_bipush X0 hx hby at_28 (x := 8) rfl (o_iushr X0 hx hby at_30 (z := i1568) hi1568.symm (o_sipush X0 hx hby at_31 (x := 255) rfl (o_iand X0 hx hby at_34 (z := i1569) hi1569.symm (o_i2c X0 hx hby at_35 (z := i1569) (own_i2c255 hi1569) (o_istore X0 hx hby at_36 (Ls' := #[vI p1, vI p2, vI p3, vI 3, vI 3, vI i1567, vI i1569, .unset, .unset, .unset, .unset, .unset, .unset, .unset, .unset, .unset]) rfl (o_iloadN X0 hx hby at_38 rfl (o_bipush X0 hx hby at_39 (x := 16) rfl (o_iushr X0 hx hby at_41 (z := i1570) hi1570.symm (o_sipush X0 hx hby at_42 (x := 255) rfl (o_iand X0 hx hby at_45 (z := i1571) hi1571.symm (o_i2c X0 hx hby at_46 (z := i1571) (own_i2c255 hi1571) (o_istore X0 hx hby at_47 (Ls' := #[vI p1, vI p2, vI p3, vI 3, vI 3, vI i1567, vI i1569, vI i1571, .unset, .unset, .unset, .unset, .unset, .unset, .unset, .unset]) rfl (o_iloadN X0 hx hby at_49 rfl (o_iconst X0 hx hby at_50 (x := 4) rfl (o_iushr X0 hx hby at_51 (z := i1572) hi1572.symm (o_iconst X0 hx hby at_52 (x := 1) rfl (o_iand X0 hx hby at_53 (z := i1573) hi1573.symm ?_))))))))))))))))))))))))))
        exact kt
      have join1577 : ∀ (i1578 : Int32), (∃ y : Int32, i1578 = (y &&& (255 : Int32))) → (∀ t, Steps p.tables e below (s₁.setTop (mkF m 68 #[vI p1, vI p2, vI p3, vI 3, vI 3, vI i1567, vI i1569, vI i1571, .unset, .unset, .unset, .unset, .unset, .unset, .unset, .unset] [(.int i1578)])) t → Steps p.tables e below EN t) → False := by
        rintro i1578 ⟨x1580, hp1579⟩ pre1581
        obtain ⟨i1582, hi1582⟩ : ∃ z, z = ((p3.toUInt32 >>> ((5 : Int32) &&& 31).toUInt32).toInt32) := ⟨_, rfl⟩
        obtain ⟨i1583, hi1583⟩ : ∃ z, z = (i1582 &&& (1 : Int32)) := ⟨_, rfl⟩
        have pre1584 : ∀ t, Steps p.tables e below (s₁.setTop (mkF m 75 #[vI p1, vI p2, vI p3, vI 3, vI 3, vI i1567, vI i1569, vI i1571, vI i1578, .unset, .unset, .unset, .unset, .unset, .unset, .unset] [(.int i1583)])) t → Steps p.tables e below EN t := by
          intro t kt
          refine pre1581 t ?_
          refine o_istore X0 hx hby at_68 (Ls' := #[vI p1, vI p2, vI p3, vI 3, vI 3, vI i1567, vI i1569, vI i1571, vI i1578, .unset, .unset, .unset, .unset, .unset, .unset, .unset]) rfl (o_iloadN X0 hx hby at_70 rfl (o_iconst X0 hx hby at_71 (x := 5) rfl (o_iushr X0 hx hby at_72 (z := i1582) hi1582.symm (o_iconst X0 hx hby at_73 (x := 1) rfl (o_iand X0 hx hby at_74 (z := i1583) hi1583.symm ?_)))))
          exact kt
        have join1588 : ∀ (i1589 : Int32), (∃ y : Int32, i1589 = (y &&& (255 : Int32))) → (∀ t, Steps p.tables e below (s₁.setTop (mkF m 92 #[vI p1, vI p2, vI p3, vI 3, vI 3, vI i1567, vI i1569, vI i1571, vI i1578, .unset, .unset, .unset, .unset, .unset, .unset, .unset] [(.int i1589)])) t → Steps p.tables e below EN t) → False := by
          rintro i1589 ⟨x1591, hp1590⟩ pre1592
          obtain ⟨i1593, hi1593⟩ : ∃ z, z = ((p3.toUInt32 >>> ((6 : Int32) &&& 31).toUInt32).toInt32) := ⟨_, rfl⟩
          obtain ⟨i1594, hi1594⟩ : ∃ z, z = (i1593 &&& (1 : Int32)) := ⟨_, rfl⟩
          have pre1595 : ∀ t, Steps p.tables e below (s₁.setTop (mkF m 100 #[vI p1, vI p2, vI p3, vI 3, vI 3, vI i1567, vI i1569, vI i1571, vI i1578, vI i1589, .unset, .unset, .unset, .unset, .unset, .unset] [(.int i1594)])) t → Steps p.tables e below EN t := by
            intro t kt
            refine pre1592 t ?_
            refine o_istore X0 hx hby at_92 (Ls' := #[vI p1, vI p2, vI p3, vI 3, vI 3, vI i1567, vI i1569, vI i1571, vI i1578, vI i1589, .unset, .unset, .unset, .unset, .unset, .unset]) rfl (o_iloadN X0 hx hby at_94 rfl (o_bipush X0 hx hby at_95 (x := 6) rfl (o_iushr X0 hx hby at_97 (z := i1593) hi1593.symm (o_iconst X0 hx hby at_98 (x := 1) rfl (o_iand X0 hx hby at_99 (z := i1594) hi1594.symm ?_)))))
            exact kt
          have join1599 : ∀ (i1600 : Int32), (∃ y : Int32, i1600 = (y &&& (255 : Int32))) → (∀ t, Steps p.tables e below (s₁.setTop (mkF m 117 #[vI p1, vI p2, vI p3, vI 3, vI 3, vI i1567, vI i1569, vI i1571, vI i1578, vI i1589, .unset, .unset, .unset, .unset, .unset, .unset] [(.int i1600)])) t → Steps p.tables e below EN t) → False := by
            rintro i1600 ⟨x1602, hp1601⟩ pre1603
            obtain ⟨T1604, h1604, X1604, e1604, E1604, A1604, D1604, -, st1604⟩ := newO X0 hx hZ hown (ww0 hw) (ww1 hw) (ww2 hw) e0 (g := (mkF m 119 #[vI p1, vI p2, vI p3, vI 3, vI 3, vI i1567, vI i1569, vI i1571, vI i1578, vI i1589, vI i1600, .unset, .unset, .unset, .unset, .unset] [])) rfl (hb hby at_119) (by decide) (by decide)
            obtain ⟨b1604, g1604⟩ : ∃ z, z = h0.size := ⟨_, rfl⟩
            rw [← g1604] at A1604 D1604 st1604
            have O1604 : Old Z n0 h1604 := O0.ext E1604
            have bd_b1604 : h0.size ≤ b1604 := Nat.le_of_eq g1604.symm
            have g_b1604 : n0 ≤ b1604 := Nat.le_trans (own_z O0) bd_b1604
            have sz_b1604 : h0.size ≤ b1604 := Nat.le_trans (Nat.le_refl _) bd_b1604
            have lt_b1604 : b1604 < h1604.size := A1604.lt
            have D1604_31 : Fld Z h1604 b1604 C_0 "coder" "B" (.int 0) := D1604 (Or.inr (ww31 hw)) (ty := .byte) (by decide)
            have D1604_33 : Fld Z h1604 b1604 C_0 "value" "[B" .null := D1604 (Or.inr (ww33 hw)) (ty := (.array .byte)) (by decide)
            obtain ⟨_, T1605, L1605, X1605, hQ1605, st1605⟩ := own_cS X1604 hx hZ hown (ww3 hw) (ww4 hw) (ww5 hw) (ww6 hw) (rm1_55 l Z a0 hw i1567 i1569 i1571 h1604 n0 O1604) e1604 pd_0 hml (hb hby at_130) (Ls := #[vI p1, vI p2, vI p3, vI 3, vI 3, vI i1567, vI i1569, vI i1571, vI i1578, vI i1589, vI i1600, .unset, .unset, .unset, .unset, .unset]) (W := 2) (argsL := [(.int 3), (.int i1567), (.int i1569), (.int i1571)]) (rest := [(.ref b1604), (.ref b1604)])
            obtain ⟨i1606, i1607, i1608, b1609, k1610, u1611, u1612, u1613, rfl, u1615, u1616, u1617, Ku1618, u1619, u1620⟩ := hQ1605
            have Ou1618 : Old Z n0 T1605.heap := O1604.keep Ku1618 all0
            have g_b1609 : n0 ≤ b1609 := Nat.le_trans (own_z O1604) u1616
            have sz_b1609 : h0.size ≤ b1609 := Nat.le_trans E1604.1 u1616
            have N1605 := Fr.app N0 u1615
            have pre1621 : ∀ t, Steps p.tables e below (T1605.setTop (mkF m 133 #[vI p1, vI p2, vI p3, vI 3, vI 3, vI i1567, vI i1569, vI i1571, vI i1578, vI i1589, vI i1600, .unset, .unset, .unset, .unset, .unset] [(.ref b1609), (.ref b1604), (.ref b1604)])) t → Steps p.tables e below EN t := by
              intro t kt
              refine pre1603 t ?_
              refine o_istore X0 hx hby at_117 (Ls' := #[vI p1, vI p2, vI p3, vI 3, vI 3, vI i1567, vI i1569, vI i1571, vI i1578, vI i1589, vI i1600, .unset, .unset, .unset, .unset, .unset]) rfl (st1604 _ (o_dup X1604 hx hby at_122 rfl (o_iloadN X1604 hx hby at_123 rfl (o_iload X1604 hx hby at_124 rfl (o_iload X1604 hx hby at_126 rfl (o_iload X1604 hx hby at_128 rfl (st1605 _ ?_)))))))
              exact kt
            obtain rfl : i1567 = i1608 := (u1611.trans (own_nar255 hi1567)).symm
            obtain rfl : i1569 = i1606 := (u1612.trans (own_nar255 hi1569)).symm
            obtain rfl : i1571 = i1607 := (u1613.trans (own_nar255 hi1571)).symm
            have f1622 : Exa Z T1605.heap b1604 C_0 := (A1604.keep Ku1618)
            have f1623 : Fld Z T1605.heap b1604 C_0 "coder" "B" (.int 0) := (D1604_31.keep Ku1618 nin0)
            have f1624 : Fld Z T1605.heap b1604 C_0 "value" "[B" .null := (D1604_33.keep Ku1618 nin0)
            obtain ⟨_, T1625, L1625, X1625, hQ1625, st1625⟩ := own_cI X1605 hx hZ hown (ww8 hw) (ww9 hw) (ww2 hw) (ww10 hw) (rm2_56 l Z a0 hw b1604 b1609 i1567 i1569 i1571 k1610 p62 T1605.heap n0 Ou1618 u1620 S_63 hk64 (own_lt255 hi1567) (own_lt255 hi1569) (own_lt255 hi1571) f1622 f1623 f1624 u1617 g_b1604 (own_t lt_b1604 Ku1618.1)) rfl pd_5 hml (hb hby at_133) (Ls := #[vI p1, vI p2, vI p3, vI 3, vI 3, vI i1567, vI i1569, vI i1571, vI i1578, vI i1589, vI i1600, .unset, .unset, .unset, .unset, .unset]) (W := 1) (argsL := [(.ref b1609)]) (rest := [(.ref b1604)]) (b := b1604)
            obtain ⟨i1626, i1627, i1628, b1629, k1630, u1631, u1632, u1633, rfl, u1635, u1636, u1637, Ku1638, u1639, u1640, u1641, u1642, u1643⟩ := hQ1625
            have Ou1638 : Old Z n0 T1625.heap := Ou1618.keep Ku1638 (allS g_b1604 all0)
            have g_b1629 : n0 ≤ b1629 := Nat.le_trans (own_z Ou1618) u1636
            have sz_b1629 : h0.size ≤ b1629 := Nat.le_trans (Nat.le_trans E1604.1 Ku1618.1) u1636
            have N1625 := Fr.app N1605 u1635
            obtain ⟨T1644, h1644, X1644, e1644, E1644, A1644, D1644, -, st1644⟩ := newO X1625 hx hZ hown (ww0 hw) (ww1 hw) (ww2 hw) rfl (g := (mkF m 138 #[vI p1, vI p2, vI p3, vI 3, vI 3, vI i1567, vI i1569, vI i1571, vI i1578, vI i1589, vI i1600, vR b1604, .unset, .unset, .unset, .unset] [])) rfl (hb hby at_138) (by decide) (by decide)
            obtain ⟨b1644, g1644⟩ : ∃ z, z = T1625.heap.size := ⟨_, rfl⟩
            rw [← g1644] at A1644 D1644 st1644
            have O1644 : Old Z n0 h1644 := Ou1638.ext E1644
            have bd_b1644 : T1625.heap.size ≤ b1644 := Nat.le_of_eq g1644.symm
            have g_b1644 : n0 ≤ b1644 := Nat.le_trans (own_z Ou1638) bd_b1644
            have sz_b1644 : h0.size ≤ b1644 := Nat.le_trans (Nat.le_trans (Nat.le_trans E1604.1 Ku1618.1) Ku1638.1) bd_b1644
            have lt_b1644 : b1644 < h1644.size := A1644.lt
            have D1644_31 : Fld Z h1644 b1644 C_0 "coder" "B" (.int 0) := D1644 (Or.inr (ww31 hw)) (ty := .byte) (by decide)
            have D1644_33 : Fld Z h1644 b1644 C_0 "value" "[B" .null := D1644 (Or.inr (ww33 hw)) (ty := (.array .byte)) (by decide)
            obtain ⟨_, T1645, L1645, X1645, hQ1645, st1645⟩ := own_cS X1644 hx hZ hown (ww3 hw) (ww4 hw) (ww5 hw) (ww6 hw) (rm1_55 l Z a0 hw i1578 i1589 i1600 h1644 n0 O1644) e1644 pd_0 hml (hb hby at_150) (Ls := #[vI p1, vI p2, vI p3, vI 3, vI 3, vI i1567, vI i1569, vI i1571, vI i1578, vI i1589, vI i1600, vR b1604, .unset, .unset, .unset, .unset]) (W := 2) (argsL := [(.int 3), (.int i1578), (.int i1589), (.int i1600)]) (rest := [(.ref b1644), (.ref b1644)])
            obtain ⟨i1646, i1647, i1648, b1649, k1650, u1651, u1652, u1653, rfl, u1655, u1656, u1657, Ku1658, u1659, u1660⟩ := hQ1645
            have Ou1658 : Old Z n0 T1645.heap := O1644.keep Ku1658 all0
            have g_b1649 : n0 ≤ b1649 := Nat.le_trans (own_z O1644) u1656
            have sz_b1649 : h0.size ≤ b1649 := Nat.le_trans (Nat.le_trans (Nat.le_trans (Nat.le_trans E1604.1 Ku1618.1) Ku1638.1) E1644.1) u1656
            have N1645 := Fr.app N1625 u1655
            have pre1661 : ∀ t, Steps p.tables e below (T1645.setTop (mkF m 153 #[vI p1, vI p2, vI p3, vI 3, vI 3, vI i1567, vI i1569, vI i1571, vI i1578, vI i1589, vI i1600, vR b1604, .unset, .unset, .unset, .unset] [(.ref b1649), (.ref b1644), (.ref b1644)])) t → Steps p.tables e below EN t := by
              intro t kt
              refine pre1621 t ?_
              refine st1625 _ (o_astore X1625 hx hby at_136 rfl (Ls' := #[vI p1, vI p2, vI p3, vI 3, vI 3, vI i1567, vI i1569, vI i1571, vI i1578, vI i1589, vI i1600, vR b1604, .unset, .unset, .unset, .unset]) rfl (st1644 _ (o_dup X1644 hx hby at_141 rfl (o_iload X1644 hx hby at_142 rfl (o_iload X1644 hx hby at_144 rfl (o_iload X1644 hx hby at_146 rfl (o_iload X1644 hx hby at_148 rfl (st1645 _ ?_))))))))
              exact kt
            obtain rfl : i1578 = i1648 := (u1651.trans (own_nar255 hp1579)).symm
            obtain rfl : i1589 = i1646 := (u1652.trans (own_nar255 hp1590)).symm
            obtain rfl : i1600 = i1647 := (u1653.trans (own_nar255 hp1601)).symm
            have f1662 : Exa Z T1645.heap b1644 C_0 := (A1644.keep Ku1658)
            have f1663 : Fld Z T1645.heap b1644 C_0 "coder" "B" (.int 0) := (D1644_31.keep Ku1658 nin0)
            have f1664 : Fld Z T1645.heap b1644 C_0 "value" "[B" .null := (D1644_33.keep Ku1658 nin0)
            obtain ⟨_, T1665, L1665, X1665, hQ1665, st1665⟩ := own_cI X1645 hx hZ hown (ww8 hw) (ww9 hw) (ww2 hw) (ww10 hw) (rm2_56 l Z a0 hw b1644 b1649 i1578 i1589 i1600 k1650 p62 T1645.heap n0 Ou1658 u1660 S_63 hk64 (own_lt255 hp1579) (own_lt255 hp1590) (own_lt255 hp1601) f1662 f1663 f1664 u1657 g_b1644 (own_t lt_b1644 Ku1658.1)) rfl pd_5 hml (hb hby at_153) (Ls := #[vI p1, vI p2, vI p3, vI 3, vI 3, vI i1567, vI i1569, vI i1571, vI i1578, vI i1589, vI i1600, vR b1604, .unset, .unset, .unset, .unset]) (W := 1) (argsL := [(.ref b1649)]) (rest := [(.ref b1644)]) (b := b1644)
            obtain ⟨i1666, i1667, i1668, b1669, k1670, u1671, u1672, u1673, rfl, u1675, u1676, u1677, Ku1678, u1679, u1680, u1681, u1682, u1683⟩ := hQ1665
            have Ou1678 : Old Z n0 T1665.heap := Ou1658.keep Ku1678 (allS g_b1644 all0)
            have g_b1669 : n0 ≤ b1669 := Nat.le_trans (own_z Ou1658) u1676
            have sz_b1669 : h0.size ≤ b1669 := Nat.le_trans (Nat.le_trans (Nat.le_trans (Nat.le_trans (Nat.le_trans E1604.1 Ku1618.1) Ku1638.1) E1644.1) Ku1658.1) u1676
            have N1665 := Fr.app N1645 u1675
            obtain ⟨T1684, h1684, X1684, e1684, E1684, A1684, D1684, -, st1684⟩ := newO X1665 hx hZ hown (ww34 hw) (ww35 hw) (ww36 hw) rfl (g := (mkF m 158 #[vI p1, vI p2, vI p3, vI 3, vI 3, vI i1567, vI i1569, vI i1571, vI i1578, vI i1589, vI i1600, vR b1604, vR b1644, .unset, .unset, .unset] [])) rfl (hb hby at_158) (by decide) (by decide)
            obtain ⟨b1684, g1684⟩ : ∃ z, z = T1665.heap.size := ⟨_, rfl⟩
            rw [← g1684] at A1684 D1684 st1684
            have O1684 : Old Z n0 h1684 := Ou1678.ext E1684
            have bd_b1684 : T1665.heap.size ≤ b1684 := Nat.le_of_eq g1684.symm
            have g_b1684 : n0 ≤ b1684 := Nat.le_trans (own_z Ou1678) bd_b1684
            have sz_b1684 : h0.size ≤ b1684 := Nat.le_trans (Nat.le_trans (Nat.le_trans (Nat.le_trans (Nat.le_trans (Nat.le_trans E1604.1 Ku1618.1) Ku1638.1) E1644.1) Ku1658.1) Ku1678.1) bd_b1684
            have lt_b1684 : b1684 < h1684.size := A1684.lt
            have D1684_92 : Fld Z h1684 b1684 C_1 "text" C_2 .null := D1684 (Or.inr (ww92 hw)) (ty := (.object "java/lang/String")) (by decide)
            have f1685 : Exa Z h1684 b1604 C_0 := (Exa.ext E1684 (((Exa.ext E1644 u1639).keep Ku1658).keep Ku1678))
            have f1686 : Fld Z h1684 b1604 C_0 "value" "[B" (.ref b1629) := (Fld.ext E1684 (((Fld.ext E1644 u1641).keep Ku1658 nin0).keep Ku1678 (ninS (own_n (own_t (own_t lt_b1604 Ku1618.1) Ku1638.1) bd_b1644) nin0)))
            have f1687 : Arv Z h1684 b1629 k1630 .byte (3 : Int32) [(.int i1626), (.int i1627), (.int i1628)] (.int (0 : Int32)) := ((((u1643.ext E1644).keep Ku1658 nin0).keep Ku1678 (ninS (own_n u1637 bd_b1644) nin0)).ext E1684)
            have f1688 : Fld Z h1684 b1604 C_0 "coder" "B" (.int 0) := (Fld.ext E1684 (((Fld.ext E1644 u1640).keep Ku1658 nin0).keep Ku1678 (ninS (own_n (own_t (own_t lt_b1604 Ku1618.1) Ku1638.1) bd_b1644) nin0)))
            obtain ⟨_, T1689, L1689, X1689, hS1689, hZ1689, hown1689, hQ1689, st1689⟩ := own_cIW (s := s) (vm0 := s.vm) X1684 hx hZ hown hS0 (Nat.le_trans (Nat.le_trans (Nat.le_trans (Nat.le_trans (Nat.le_trans (Nat.le_trans (Nat.le_trans Y0 E1604.1) Ku1618.1) Ku1638.1) E1644.1) Ku1658.1) Ku1678.1) E1684.1) (ww37 hw) (ww38 hw) (ww36 hw) (ww39 hw) (rm8_61 l Z a0 hw b1684 b1604 b1629 i1626 i1627 i1628 k1630 p62 va116 h1684 n0 O1684 f1685 f1686 f1687 S_63 hk64 f1688 S_117 ir_va116 A1684 D1684_92 g_b1684) e1684 pd_17 hml (hb hby at_164) (Ls := #[vI p1, vI p2, vI p3, vI 3, vI 3, vI i1567, vI i1569, vI i1571, vI i1578, vI i1589, vI i1600, vR b1604, vR b1644, .unset, .unset, .unset]) (W := 1) (argsL := [(.ref b1604)]) (rest := [(.ref b1684)]) (b := b1684)
            obtain ⟨rfl, u1691, Ku1692, u1693, u1694⟩ := hQ1689
            have Ou1692 : Old Z n0 T1689.heap := O1684.keep Ku1692 (allS g_b1684 all0)
            have N1689 := Fr.app N1665 u1691
            obtain ⟨T1695, h1695, X1695, e1695, E1695, A1695, D1695, -, st1695⟩ := newO X1689 hx hZ1689 hown1689 (ww34 hw) (ww35 hw) (ww36 hw) rfl (g := (mkF m 169 #[vI p1, vI p2, vI p3, vI 3, vI 3, vI i1567, vI i1569, vI i1571, vI i1578, vI i1589, vI i1600, vR b1604, vR b1644, vR b1684, .unset, .unset] [])) rfl (hb hby at_169) (by decide) (by decide)
            obtain ⟨b1695, g1695⟩ : ∃ z, z = T1689.heap.size := ⟨_, rfl⟩
            rw [← g1695] at A1695 D1695 st1695
            have O1695 : Old Z n0 h1695 := Ou1692.ext E1695
            have bd_b1695 : T1689.heap.size ≤ b1695 := Nat.le_of_eq g1695.symm
            have g_b1695 : n0 ≤ b1695 := Nat.le_trans (own_z Ou1692) bd_b1695
            have sz_b1695 : h0.size ≤ b1695 := Nat.le_trans (Nat.le_trans (Nat.le_trans (Nat.le_trans (Nat.le_trans (Nat.le_trans (Nat.le_trans (Nat.le_trans E1604.1 Ku1618.1) Ku1638.1) E1644.1) Ku1658.1) Ku1678.1) E1684.1) Ku1692.1) bd_b1695
            have lt_b1695 : b1695 < h1695.size := A1695.lt
            have D1695_92 : Fld Z h1695 b1695 C_1 "text" C_2 .null := D1695 (Or.inr (ww92 hw)) (ty := (.object "java/lang/String")) (by decide)
            have f1696 : Exa Z h1695 b1644 C_0 := (Exa.ext E1695 ((Exa.ext E1684 u1679).keep Ku1692))
            have f1697 : Fld Z h1695 b1644 C_0 "value" "[B" (.ref b1669) := (Fld.ext E1695 ((Fld.ext E1684 u1681).keep Ku1692 (ninS (own_n (own_t (own_t lt_b1644 Ku1658.1) Ku1678.1) bd_b1684) nin0)))
            have f1698 : Arv Z h1695 b1669 k1670 .byte (3 : Int32) [(.int i1666), (.int i1667), (.int i1668)] (.int (0 : Int32)) := (((u1683.ext E1684).keep Ku1692 (ninS (own_n u1677 bd_b1684) nin0)).ext E1695)
            have f1699 : Fld Z h1695 b1644 C_0 "coder" "B" (.int 0) := (Fld.ext E1695 ((Fld.ext E1684 u1680).keep Ku1692 (ninS (own_n (own_t (own_t lt_b1644 Ku1658.1) Ku1678.1) bd_b1684) nin0)))
            obtain ⟨_, T1700, L1700, X1700, hS1700, hZ1700, hown1700, hQ1700, st1700⟩ := own_cIW (s := s) (vm0 := T1689.vm) X1695 hx hZ1689 hown1689 hS1689 (Nat.le_trans (Nat.le_refl _) E1695.1) (ww37 hw) (ww38 hw) (ww36 hw) (ww39 hw) (rm8_61 l Z a0 hw b1695 b1644 b1669 i1666 i1667 i1668 k1670 p62 va116 h1695 n0 O1695 f1696 f1697 f1698 S_63 hk64 f1699 S_117 ir_va116 A1695 D1695_92 g_b1695) e1695 pd_17 hml (hb hby at_175) (Ls := #[vI p1, vI p2, vI p3, vI 3, vI 3, vI i1567, vI i1569, vI i1571, vI i1578, vI i1589, vI i1600, vR b1604, vR b1644, vR b1684, .unset, .unset]) (W := 1) (argsL := [(.ref b1644)]) (rest := [(.ref b1695)]) (b := b1695)
            obtain ⟨rfl, u1702, Ku1703, u1704, u1705⟩ := hQ1700
            have Ou1703 : Old Z n0 T1700.heap := O1695.keep Ku1703 (allS g_b1695 all0)
            have N1700 := Fr.app N1689 u1702
            have pre1706 : ∀ t, Steps p.tables e below (T1700.setTop (mkF m 190 #[vI p1, vI p2, vI p3, vI 3, vI 3, vI i1567, vI i1569, vI i1571, vI i1578, vI i1589, vI i1600, vR b1604, vR b1644, vR b1684, vR b1695, .unset] [(.int i1578), (.int i1567)])) t → Steps p.tables e below EN t := by
              intro t kt
              refine pre1661 t ?_
              refine st1665 _ (o_astore X1665 hx hby at_156 rfl (Ls' := #[vI p1, vI p2, vI p3, vI 3, vI 3, vI i1567, vI i1569, vI i1571, vI i1578, vI i1589, vI i1600, vR b1604, vR b1644, .unset, .unset, .unset]) rfl (st1684 _ (o_dup X1684 hx hby at_161 rfl (o_aload X1684 hx hby at_162 rfl rfl (st1689 _ (o_astore X1689 hx hby at_167 rfl (Ls' := #[vI p1, vI p2, vI p3, vI 3, vI 3, vI i1567, vI i1569, vI i1571, vI i1578, vI i1589, vI i1600, vR b1604, vR b1644, vR b1684, .unset, .unset]) rfl (st1695 _ (o_dup X1695 hx hby at_172 rfl (o_aload X1695 hx hby at_173 rfl rfl (st1700 _ (o_astore X1700 hx hby at_178 rfl (Ls' := #[vI p1, vI p2, vI p3, vI 3, vI 3, vI i1567, vI i1569, vI i1571, vI i1578, vI i1589, vI i1600, vR b1604, vR b1644, vR b1684, vR b1695, .unset]) rfl (o_iloadN X1700 hx hby at_180 rfl (o_iload X1700 hx hby at_181 rfl (o_icmpN X1700 hx hby at_183 (by decide +kernel) (o_iload X1700 hx hby at_186 rfl (o_iload X1700 hx hby at_188 rfl ?_))))))))))))))))
              exact kt
            by_cases hc1707 : i1567 = i1578
            · skip
              have pre1708 : ∀ t, Steps p.tables e below (T1700.setTop (mkF m 202 #[vI p1, vI p2, vI p3, vI 3, vI 3, vI i1567, vI i1569, vI i1571, vI i1578, vI i1589, vI i1600, vR b1604, vR b1644, vR b1684, vR b1695, .unset] [(.int i1589), (.int i1569)])) t → Steps p.tables e below EN t := by
                intro t kt
                refine pre1706 t ?_
                refine o_icmpN X1700 hx hby at_190 (teq hc1707).2 (o_iloadN X1700 hx hby at_193 rfl (o_iconst X1700 hx hby at_194 (x := 2) rfl (o_icmpN X1700 hx hby at_195 (by decide +kernel) (o_iload X1700 hx hby at_198 rfl (o_iload X1700 hx hby at_200 rfl ?_)))))
                exact kt
              by_cases hc1709 : i1569 = i1589
              · skip
                have pre1710 : ∀ t, Steps p.tables e below (T1700.setTop (mkF m 214 #[vI p1, vI p2, vI p3, vI 3, vI 3, vI i1567, vI i1569, vI i1571, vI i1578, vI i1589, vI i1600, vR b1604, vR b1644, vR b1684, vR b1695, .unset] [(.int i1600), (.int i1571)])) t → Steps p.tables e below EN t := by
                  intro t kt
                  refine pre1708 t ?_
                  refine o_icmpN X1700 hx hby at_202 (teq hc1709).2 (o_iloadN X1700 hx hby at_205 rfl (o_iconst X1700 hx hby at_206 (x := 3) rfl (o_icmpN X1700 hx hby at_207 (by decide +kernel) (o_iload X1700 hx hby at_210 rfl (o_iload X1700 hx hby at_212 rfl ?_)))))
                  exact kt
                by_cases hc1711 : i1571 = i1600
                · skip
                  have f1712 : Fld Z T1700.heap b1684 C_1 "text" C_2 (.ref b1604) := ((Fld.ext E1695 u1694).keep Ku1703 (ninS (own_n (own_t lt_b1684 Ku1692.1) bd_b1695) nin0))
                  have f1713 : Exa Z T1700.heap b1604 C_0 := ((Exa.ext E1695 (f1685.keep Ku1692)).keep Ku1703)
                  have f1714 : Exa Z T1700.heap b1644 C_0 := (f1696.keep Ku1703)
                  have ne1715 : b1604 ≠ b1684 := (own_n (own_t (own_t (own_t (own_t (own_t lt_b1604 Ku1618.1) Ku1638.1) E1644.1) Ku1658.1) Ku1678.1) bd_b1684)
                  have ne1716 : b1604 ≠ b1695 := (own_n (own_t (own_t (own_t (own_t (own_t (own_t (own_t lt_b1604 Ku1618.1) Ku1638.1) E1644.1) Ku1658.1) Ku1678.1) E1684.1) Ku1692.1) bd_b1695)
                  have f1717 : Fld Z T1700.heap b1604 C_0 "coder" "B" (.int 0) := ((Fld.ext E1695 (f1688.keep Ku1692 (ninS ne1715 nin0))).keep Ku1703 (ninS ne1716 nin0))
                  have ne1718 : b1644 ≠ b1695 := (own_n (own_t (own_t (own_t (own_t lt_b1644 Ku1658.1) Ku1678.1) E1684.1) Ku1692.1) bd_b1695)
                  have f1719 : Fld Z T1700.heap b1644 C_0 "coder" "B" (.int 0) := (f1699.keep Ku1703 (ninS ne1718 nin0))
                  have f1720 : Fld Z T1700.heap b1604 C_0 "value" "[B" (.ref b1629) := ((Fld.ext E1695 (f1686.keep Ku1692 (ninS ne1715 nin0))).keep Ku1703 (ninS ne1716 nin0))
                  have f1721 : Fld Z T1700.heap b1644 C_0 "value" "[B" (.ref b1669) := (f1697.keep Ku1703 (ninS ne1718 nin0))
                  have ne1722 : b1629 ≠ b1684 := (own_n (own_t (own_t (own_t u1637 E1644.1) Ku1658.1) Ku1678.1) bd_b1684)
                  have ne1723 : b1629 ≠ b1695 := (own_n (own_t (own_t (own_t (own_t (own_t u1637 E1644.1) Ku1658.1) Ku1678.1) E1684.1) Ku1692.1) bd_b1695)
                  have f1724 : Arv Z T1700.heap b1629 k1630 .byte (3 : Int32) [(.int i1626), (.int i1627), (.int i1628)] (.int (0 : Int32)) := (((f1687.keep Ku1692 (ninS ne1722 nin0)).ext E1695).keep Ku1703 (ninS ne1723 nin0))
                  have f1725 : Arv Z T1700.heap b1669 k1670 .byte (3 : Int32) [(.int i1666), (.int i1667), (.int i1668)] (.int (0 : Int32)) := (f1698.keep Ku1703 (ninS (own_n (own_t (own_t u1677 E1684.1) Ku1692.1) bd_b1695) nin0))
                  have f1727 : Exa Z T1700.heap b1684 C_1 := ((Exa.ext E1695 u1693).keep Ku1703)
                  obtain ⟨_, T1726, L1726, X1726, hQ1726, st1726⟩ := own_cV X1700 hx hZ1700 hown1700 (ww93 hw) (ww94 hw) (notFace_of_selects (args := #[]) (mvT hZ1700 (ww96 hw))) (ww96 hw) (ww95 hw) (ww36 hw) (ww97 hw) f1727 (rm20_99 l Z a0 hw b1684 b1695 b1604 b1644 p62 b1629 b1669 i1626 i1627 i1628 k1630 i1666 i1667 i1668 k1670 T1700.heap n0 Ou1703 (own_n (own_t lt_b1684 Ku1692.1) bd_b1695) u1704 f1712 u1705 f1713 (own_n (own_t (own_t lt_b1604 Ku1618.1) Ku1638.1) bd_b1644) f1714 S_63 hk64 f1717 f1719 f1720 f1721 f1724 f1725 (own_beq (u := 0) (v := 0) u1631 u1671 hc1707) (own_beq (u := 0) (v := 0) u1632 u1672 hc1709) (own_beq (u := 0) (v := 0) u1633 u1673 hc1711)) rfl pd_19 hml (hb hby at_228) (Ls := #[vI p1, vI p2, vI p3, vI 3, vI 3, vI i1567, vI i1569, vI i1571, vI i1578, vI i1589, vI i1600, vR b1604, vR b1644, vR b1684, vR b1695, vI 1]) (W := 0) (argsL := [(.ref b1695)]) (rest := [])
                  obtain ⟨rfl, u1729, u1730⟩ := hQ1726
                  have N1726 := Fr.app N1700 u1729
                  obtain ⟨_, T1731, L1731, X1731, hQ1731, st1731⟩ := own_cV X1726 hx hZ1700 hown1700 (ww93 hw) (ww94 hw) (notFace_of_selects (args := #[]) (mvT hZ1700 (ww96 hw))) (ww96 hw) (ww95 hw) (ww36 hw) (ww97 hw) u1704 (rm20_99 l Z a0 hw b1695 b1684 b1644 b1604 p62 b1669 b1629 i1666 i1667 i1668 k1670 i1626 i1627 i1628 k1630 T1700.heap n0 Ou1703 (Ne.symm (own_n (own_t lt_b1684 Ku1692.1) bd_b1695)) f1727 u1705 f1712 f1714 (Ne.symm (own_n (own_t (own_t lt_b1604 Ku1618.1) Ku1638.1) bd_b1644)) f1713 S_63 hk64 f1719 f1717 f1721 f1720 f1725 f1724 (own_beq (u := 0) (v := 0) u1671 u1631 hc1707.symm) (own_beq (u := 0) (v := 0) u1672 u1632 hc1709.symm) (own_beq (u := 0) (v := 0) u1673 u1633 hc1711.symm)) u1730 pd_19 hml (hb hby at_240) (Ls := #[vI p1, vI p2, vI p3, vI 3, vI 3, vI i1567, vI i1569, vI i1571, vI i1578, vI i1589, vI i1600, vR b1604, vR b1644, vR b1684, vR b1695, vI 1]) (W := 0) (argsL := [(.ref b1684)]) (rest := [])
                  obtain ⟨rfl, u1733, u1734⟩ := hQ1731
                  have N1731 := Fr.app N1726 u1733
                  obtain ⟨_, T1735, L1735, X1735, hQ1735, st1735⟩ := own_cV X1731 hx hZ1700 hown1700 (ww93 hw) (ww94 hw) (notFace_of_selects (args := #[]) (mvT hZ1700 (ww96 hw))) (ww96 hw) (ww95 hw) (ww36 hw) (ww97 hw) f1727 (rm20_24 l Z a0 hw b1684 T1700.heap n0 Ou1703) u1734 pd_19 hml (hb hby at_252) (Ls := #[vI p1, vI p2, vI p3, vI 3, vI 3, vI i1567, vI i1569, vI i1571, vI i1578, vI i1589, vI i1600, vR b1604, vR b1644, vR b1684, vR b1695, vI 1]) (W := 0) (argsL := [(.ref b1684)]) (rest := [])
                  obtain ⟨rfl, u1737, u1738⟩ := hQ1735
                  have N1735 := Fr.app N1731 u1737
                  obtain ⟨_, T1739, L1739, X1739, hQ1739, st1739⟩ := own_cV X1735 hx hZ1700 hown1700 (ww93 hw) (ww94 hw) (notFace_of_selects (args := #[]) (mvT hZ1700 (ww96 hw))) (ww96 hw) (ww95 hw) (ww36 hw) (ww97 hw) f1727 (rm20_25 l Z a0 hw b1684 T1700.heap n0 Ou1703) u1738 pd_19 hml (hb hby at_261) (Ls := #[vI p1, vI p2, vI p3, vI 3, vI 3, vI i1567, vI i1569, vI i1571, vI i1578, vI i1589, vI i1600, vR b1604, vR b1644, vR b1684, vR b1695, vI 1]) (W := 0) (argsL := [.null]) (rest := [])
                  obtain ⟨rfl, u1741, u1742⟩ := hQ1739
                  have N1739 := Fr.app N1735 u1741
                  obtain ⟨_, T1743, L1743, X1743, hQ1743, st1743⟩ := own_cV X1739 hx hZ1700 hown1700 (ww93 hw) (ww94 hw) (notFace_of_selects (args := #[]) (mvT hZ1700 (ww96 hw))) (ww96 hw) (ww95 hw) (ww36 hw) (ww97 hw) f1727 (rm20_26 l Z a0 hw b1684 b1604 T1700.heap n0 Ou1703 (Ne.symm ne1715) f1713) u1742 pd_19 hml (hb hby at_271) (Ls := #[vI p1, vI p2, vI p3, vI 3, vI 3, vI i1567, vI i1569, vI i1571, vI i1578, vI i1589, vI i1600, vR b1604, vR b1644, vR b1684, vR b1695, vI 1]) (W := 0) (argsL := [(.ref b1604)]) (rest := [])
                  obtain ⟨rfl, u1745, u1746⟩ := hQ1743
                  have N1743 := Fr.app N1739 u1745
                  refine fin (some (.int 1)) _ _ _ _ T1700.vm _ X1743 hS1700 (by rw [u1746]; exact (Nat.le_refl _)) nofun (fun fs hr => pre1710 _ ?_) (own_atH u1746 ?_) (by decide) (by decide)
                  · refine o_icmpN X1700 hx hby at_214 (teq hc1711).2 (o_iconst X1700 hx hby at_217 (x := 1) rfl (o_goto X1700 hx hby at_218 (pc := 218) (pc' := 222) (by decide) (by decide) (o_istore X1700 hx hby at_222 (Ls' := #[vI p1, vI p2, vI p3, vI 3, vI 3, vI i1567, vI i1569, vI i1571, vI i1578, vI i1589, vI i1600, vR b1604, vR b1644, vR b1684, vR b1695, vI 1]) rfl (o_aload X1700 hx hby at_224 rfl rfl (o_aload X1700 hx hby at_226 rfl rfl (st1726 _ (o_iload X1726 hx hby at_231 rfl (o_icmpN X1726 hx hby at_233 (by decide +kernel) (o_aload X1726 hx hby at_236 rfl rfl (o_aload X1726 hx hby at_238 rfl rfl (st1731 _ (o_iload X1731 hx hby at_243 rfl (o_icmpN X1731 hx hby at_245 (by decide +kernel) (o_aload X1731 hx hby at_248 rfl rfl (o_aload X1731 hx hby at_250 rfl rfl (st1735 _ (o_ifN X1735 hx hby at_255 (by decide +kernel) (o_aload X1735 hx hby at_258 rfl rfl (o_null X1735 hx hby at_260 (st1739 _ (o_ifN X1739 hx hby at_264 (by decide +kernel) (o_aload X1739 hx hby at_267 rfl rfl (o_aload X1739 hx hby at_269 rfl rfl (st1743 _ (o_ifN X1743 hx hby at_274 (by decide +kernel) (o_iconst X1743 hx hby at_277 (x := 1) rfl (o_goto X1743 hx hby at_278 (pc := 278) (pc' := 282) (by decide) (by decide) ?_)))))))))))))))))))))))))))
                    exact retN X1743 hx (t := .boolean) hret (by simp) (hb hby at_282) hr
                  · exact ⟨rfl, N1743⟩
                · skip
                  have f1747 : Fld Z T1700.heap b1684 C_1 "text" C_2 (.ref b1604) := ((Fld.ext E1695 u1694).keep Ku1703 (ninS (own_n (own_t lt_b1684 Ku1692.1) bd_b1695) nin0))
                  have f1748 : Exa Z T1700.heap b1604 C_0 := ((Exa.ext E1695 (f1685.keep Ku1692)).keep Ku1703)
                  have f1749 : Exa Z T1700.heap b1644 C_0 := (f1696.keep Ku1703)
                  have ne1750 : b1604 ≠ b1684 := (own_n (own_t (own_t (own_t (own_t (own_t lt_b1604 Ku1618.1) Ku1638.1) E1644.1) Ku1658.1) Ku1678.1) bd_b1684)
                  have ne1751 : b1604 ≠ b1695 := (own_n (own_t (own_t (own_t (own_t (own_t (own_t (own_t lt_b1604 Ku1618.1) Ku1638.1) E1644.1) Ku1658.1) Ku1678.1) E1684.1) Ku1692.1) bd_b1695)
                  have f1752 : Fld Z T1700.heap b1604 C_0 "coder" "B" (.int 0) := ((Fld.ext E1695 (f1688.keep Ku1692 (ninS ne1750 nin0))).keep Ku1703 (ninS ne1751 nin0))
                  have ne1753 : b1644 ≠ b1695 := (own_n (own_t (own_t (own_t (own_t lt_b1644 Ku1658.1) Ku1678.1) E1684.1) Ku1692.1) bd_b1695)
                  have f1754 : Fld Z T1700.heap b1644 C_0 "coder" "B" (.int 0) := (f1699.keep Ku1703 (ninS ne1753 nin0))
                  have f1755 : Fld Z T1700.heap b1604 C_0 "value" "[B" (.ref b1629) := ((Fld.ext E1695 (f1686.keep Ku1692 (ninS ne1750 nin0))).keep Ku1703 (ninS ne1751 nin0))
                  have f1756 : Fld Z T1700.heap b1644 C_0 "value" "[B" (.ref b1669) := (f1697.keep Ku1703 (ninS ne1753 nin0))
                  have ne1757 : b1629 ≠ b1684 := (own_n (own_t (own_t (own_t u1637 E1644.1) Ku1658.1) Ku1678.1) bd_b1684)
                  have ne1758 : b1629 ≠ b1695 := (own_n (own_t (own_t (own_t (own_t (own_t u1637 E1644.1) Ku1658.1) Ku1678.1) E1684.1) Ku1692.1) bd_b1695)
                  have f1759 : Arv Z T1700.heap b1629 k1630 .byte (3 : Int32) [(.int i1626), (.int i1627), (.int i1628)] (.int (0 : Int32)) := (((f1687.keep Ku1692 (ninS ne1757 nin0)).ext E1695).keep Ku1703 (ninS ne1758 nin0))
                  have f1760 : Arv Z T1700.heap b1669 k1670 .byte (3 : Int32) [(.int i1666), (.int i1667), (.int i1668)] (.int (0 : Int32)) := (f1698.keep Ku1703 (ninS (own_n (own_t (own_t u1677 E1684.1) Ku1692.1) bd_b1695) nin0))
                  have f1762 : Exa Z T1700.heap b1684 C_1 := ((Exa.ext E1695 u1693).keep Ku1703)
                  obtain ⟨_, T1761, L1761, X1761, hQ1761, st1761⟩ := own_cV X1700 hx hZ1700 hown1700 (ww93 hw) (ww94 hw) (notFace_of_selects (args := #[]) (mvT hZ1700 (ww96 hw))) (ww96 hw) (ww95 hw) (ww36 hw) (ww97 hw) f1762 (rm20_102 l Z a0 hw b1684 b1695 b1604 b1644 p62 b1629 b1669 i1626 i1627 i1628 k1630 i1666 i1667 i1668 k1670 T1700.heap n0 Ou1703 (own_n (own_t lt_b1684 Ku1692.1) bd_b1695) u1704 f1747 u1705 f1748 (own_n (own_t (own_t lt_b1604 Ku1618.1) Ku1638.1) bd_b1644) f1749 S_63 hk64 f1752 f1754 f1755 f1756 f1759 f1760 (own_beq (u := 0) (v := 0) u1631 u1671 hc1707) (own_beq (u := 0) (v := 0) u1632 u1672 hc1709) (own_bne u1633 u1673 hi1571 hp1601 hc1711)) rfl pd_19 hml (hb hby at_228) (Ls := #[vI p1, vI p2, vI p3, vI 3, vI 3, vI i1567, vI i1569, vI i1571, vI i1578, vI i1589, vI i1600, vR b1604, vR b1644, vR b1684, vR b1695, vI 0]) (W := 0) (argsL := [(.ref b1695)]) (rest := [])
                  obtain ⟨rfl, u1764, u1765⟩ := hQ1761
                  have N1761 := Fr.app N1700 u1764
                  obtain ⟨_, T1766, L1766, X1766, hQ1766, st1766⟩ := own_cV X1761 hx hZ1700 hown1700 (ww93 hw) (ww94 hw) (notFace_of_selects (args := #[]) (mvT hZ1700 (ww96 hw))) (ww96 hw) (ww95 hw) (ww36 hw) (ww97 hw) u1704 (rm20_102 l Z a0 hw b1695 b1684 b1644 b1604 p62 b1669 b1629 i1666 i1667 i1668 k1670 i1626 i1627 i1628 k1630 T1700.heap n0 Ou1703 (Ne.symm (own_n (own_t lt_b1684 Ku1692.1) bd_b1695)) f1762 u1705 f1747 f1749 (Ne.symm (own_n (own_t (own_t lt_b1604 Ku1618.1) Ku1638.1) bd_b1644)) f1748 S_63 hk64 f1754 f1752 f1756 f1755 f1760 f1759 (own_beq (u := 0) (v := 0) u1671 u1631 hc1707.symm) (own_beq (u := 0) (v := 0) u1672 u1632 hc1709.symm) (own_bne u1673 u1633 hp1601 hi1571 (fun q => hc1711 q.symm))) u1765 pd_19 hml (hb hby at_240) (Ls := #[vI p1, vI p2, vI p3, vI 3, vI 3, vI i1567, vI i1569, vI i1571, vI i1578, vI i1589, vI i1600, vR b1604, vR b1644, vR b1684, vR b1695, vI 0]) (W := 0) (argsL := [(.ref b1684)]) (rest := [])
                  obtain ⟨rfl, u1768, u1769⟩ := hQ1766
                  have N1766 := Fr.app N1761 u1768
                  obtain ⟨_, T1770, L1770, X1770, hQ1770, st1770⟩ := own_cV X1766 hx hZ1700 hown1700 (ww93 hw) (ww94 hw) (notFace_of_selects (args := #[]) (mvT hZ1700 (ww96 hw))) (ww96 hw) (ww95 hw) (ww36 hw) (ww97 hw) f1762 (rm20_24 l Z a0 hw b1684 T1700.heap n0 Ou1703) u1769 pd_19 hml (hb hby at_252) (Ls := #[vI p1, vI p2, vI p3, vI 3, vI 3, vI i1567, vI i1569, vI i1571, vI i1578, vI i1589, vI i1600, vR b1604, vR b1644, vR b1684, vR b1695, vI 0]) (W := 0) (argsL := [(.ref b1684)]) (rest := [])
                  obtain ⟨rfl, u1772, u1773⟩ := hQ1770
                  have N1770 := Fr.app N1766 u1772
                  obtain ⟨_, T1774, L1774, X1774, hQ1774, st1774⟩ := own_cV X1770 hx hZ1700 hown1700 (ww93 hw) (ww94 hw) (notFace_of_selects (args := #[]) (mvT hZ1700 (ww96 hw))) (ww96 hw) (ww95 hw) (ww36 hw) (ww97 hw) f1762 (rm20_25 l Z a0 hw b1684 T1700.heap n0 Ou1703) u1773 pd_19 hml (hb hby at_261) (Ls := #[vI p1, vI p2, vI p3, vI 3, vI 3, vI i1567, vI i1569, vI i1571, vI i1578, vI i1589, vI i1600, vR b1604, vR b1644, vR b1684, vR b1695, vI 0]) (W := 0) (argsL := [.null]) (rest := [])
                  obtain ⟨rfl, u1776, u1777⟩ := hQ1774
                  have N1774 := Fr.app N1770 u1776
                  obtain ⟨_, T1778, L1778, X1778, hQ1778, st1778⟩ := own_cV X1774 hx hZ1700 hown1700 (ww93 hw) (ww94 hw) (notFace_of_selects (args := #[]) (mvT hZ1700 (ww96 hw))) (ww96 hw) (ww95 hw) (ww36 hw) (ww97 hw) f1762 (rm20_26 l Z a0 hw b1684 b1604 T1700.heap n0 Ou1703 (Ne.symm ne1750) f1748) u1777 pd_19 hml (hb hby at_271) (Ls := #[vI p1, vI p2, vI p3, vI 3, vI 3, vI i1567, vI i1569, vI i1571, vI i1578, vI i1589, vI i1600, vR b1604, vR b1644, vR b1684, vR b1695, vI 0]) (W := 0) (argsL := [(.ref b1604)]) (rest := [])
                  obtain ⟨rfl, u1780, u1781⟩ := hQ1778
                  have N1778 := Fr.app N1774 u1780
                  refine fin (some (.int 1)) _ _ _ _ T1700.vm _ X1778 hS1700 (by rw [u1781]; exact (Nat.le_refl _)) nofun (fun fs hr => pre1710 _ ?_) (own_atH u1781 ?_) (by decide) (by decide)
                  · refine o_icmpY X1700 hx hby at_214 (pc := 214) (pc' := 221) (feq hc1711).2 (by decide) (by decide) (o_iconst X1700 hx hby at_221 (x := 0) rfl (o_istore X1700 hx hby at_222 (Ls' := #[vI p1, vI p2, vI p3, vI 3, vI 3, vI i1567, vI i1569, vI i1571, vI i1578, vI i1589, vI i1600, vR b1604, vR b1644, vR b1684, vR b1695, vI 0]) rfl (o_aload X1700 hx hby at_224 rfl rfl (o_aload X1700 hx hby at_226 rfl rfl (st1761 _ (o_iload X1761 hx hby at_231 rfl (o_icmpN X1761 hx hby at_233 (by decide +kernel) (o_aload X1761 hx hby at_236 rfl rfl (o_aload X1761 hx hby at_238 rfl rfl (st1766 _ (o_iload X1766 hx hby at_243 rfl (o_icmpN X1766 hx hby at_245 (by decide +kernel) (o_aload X1766 hx hby at_248 rfl rfl (o_aload X1766 hx hby at_250 rfl rfl (st1770 _ (o_ifN X1770 hx hby at_255 (by decide +kernel) (o_aload X1770 hx hby at_258 rfl rfl (o_null X1770 hx hby at_260 (st1774 _ (o_ifN X1774 hx hby at_264 (by decide +kernel) (o_aload X1774 hx hby at_267 rfl rfl (o_aload X1774 hx hby at_269 rfl rfl (st1778 _ (o_ifN X1778 hx hby at_274 (by decide +kernel) (o_iconst X1778 hx hby at_277 (x := 1) rfl (o_goto X1778 hx hby at_278 (pc := 278) (pc' := 282) (by decide) (by decide) ?_))))))))))))))))))))))))))
                    exact retN X1778 hx (t := .boolean) hret (by simp) (hb hby at_282) hr
                  · exact ⟨rfl, N1778⟩
              · skip
                have f1782 : Fld Z T1700.heap b1684 C_1 "text" C_2 (.ref b1604) := ((Fld.ext E1695 u1694).keep Ku1703 (ninS (own_n (own_t lt_b1684 Ku1692.1) bd_b1695) nin0))
                have f1783 : Exa Z T1700.heap b1604 C_0 := ((Exa.ext E1695 (f1685.keep Ku1692)).keep Ku1703)
                have f1784 : Exa Z T1700.heap b1644 C_0 := (f1696.keep Ku1703)
                have ne1785 : b1604 ≠ b1684 := (own_n (own_t (own_t (own_t (own_t (own_t lt_b1604 Ku1618.1) Ku1638.1) E1644.1) Ku1658.1) Ku1678.1) bd_b1684)
                have ne1786 : b1604 ≠ b1695 := (own_n (own_t (own_t (own_t (own_t (own_t (own_t (own_t lt_b1604 Ku1618.1) Ku1638.1) E1644.1) Ku1658.1) Ku1678.1) E1684.1) Ku1692.1) bd_b1695)
                have f1787 : Fld Z T1700.heap b1604 C_0 "coder" "B" (.int 0) := ((Fld.ext E1695 (f1688.keep Ku1692 (ninS ne1785 nin0))).keep Ku1703 (ninS ne1786 nin0))
                have ne1788 : b1644 ≠ b1695 := (own_n (own_t (own_t (own_t (own_t lt_b1644 Ku1658.1) Ku1678.1) E1684.1) Ku1692.1) bd_b1695)
                have f1789 : Fld Z T1700.heap b1644 C_0 "coder" "B" (.int 0) := (f1699.keep Ku1703 (ninS ne1788 nin0))
                have f1790 : Fld Z T1700.heap b1604 C_0 "value" "[B" (.ref b1629) := ((Fld.ext E1695 (f1686.keep Ku1692 (ninS ne1785 nin0))).keep Ku1703 (ninS ne1786 nin0))
                have f1791 : Fld Z T1700.heap b1644 C_0 "value" "[B" (.ref b1669) := (f1697.keep Ku1703 (ninS ne1788 nin0))
                have ne1792 : b1629 ≠ b1684 := (own_n (own_t (own_t (own_t u1637 E1644.1) Ku1658.1) Ku1678.1) bd_b1684)
                have ne1793 : b1629 ≠ b1695 := (own_n (own_t (own_t (own_t (own_t (own_t u1637 E1644.1) Ku1658.1) Ku1678.1) E1684.1) Ku1692.1) bd_b1695)
                have f1794 : Arv Z T1700.heap b1629 k1630 .byte (3 : Int32) [(.int i1626), (.int i1627), (.int i1628)] (.int (0 : Int32)) := (((f1687.keep Ku1692 (ninS ne1792 nin0)).ext E1695).keep Ku1703 (ninS ne1793 nin0))
                have f1795 : Arv Z T1700.heap b1669 k1670 .byte (3 : Int32) [(.int i1666), (.int i1667), (.int i1668)] (.int (0 : Int32)) := (f1698.keep Ku1703 (ninS (own_n (own_t (own_t u1677 E1684.1) Ku1692.1) bd_b1695) nin0))
                have f1797 : Exa Z T1700.heap b1684 C_1 := ((Exa.ext E1695 u1693).keep Ku1703)
                obtain ⟨_, T1796, L1796, X1796, hQ1796, st1796⟩ := own_cV X1700 hx hZ1700 hown1700 (ww93 hw) (ww94 hw) (notFace_of_selects (args := #[]) (mvT hZ1700 (ww96 hw))) (ww96 hw) (ww95 hw) (ww36 hw) (ww97 hw) f1797 (rm20_105 l Z a0 hw b1684 b1695 b1604 b1644 p62 b1629 b1669 i1626 i1627 i1628 k1630 i1666 i1667 i1668 k1670 T1700.heap n0 Ou1703 (own_n (own_t lt_b1684 Ku1692.1) bd_b1695) u1704 f1782 u1705 f1783 (own_n (own_t (own_t lt_b1604 Ku1618.1) Ku1638.1) bd_b1644) f1784 S_63 hk64 f1787 f1789 f1790 f1791 f1794 f1795 (own_beq (u := 0) (v := 0) u1631 u1671 hc1707) (own_bne u1632 u1672 hi1569 hp1590 hc1709)) rfl pd_19 hml (hb hby at_228) (Ls := #[vI p1, vI p2, vI p3, vI 3, vI 3, vI i1567, vI i1569, vI i1571, vI i1578, vI i1589, vI i1600, vR b1604, vR b1644, vR b1684, vR b1695, vI 0]) (W := 0) (argsL := [(.ref b1695)]) (rest := [])
                obtain ⟨rfl, u1799, u1800⟩ := hQ1796
                have N1796 := Fr.app N1700 u1799
                obtain ⟨_, T1801, L1801, X1801, hQ1801, st1801⟩ := own_cV X1796 hx hZ1700 hown1700 (ww93 hw) (ww94 hw) (notFace_of_selects (args := #[]) (mvT hZ1700 (ww96 hw))) (ww96 hw) (ww95 hw) (ww36 hw) (ww97 hw) u1704 (rm20_105 l Z a0 hw b1695 b1684 b1644 b1604 p62 b1669 b1629 i1666 i1667 i1668 k1670 i1626 i1627 i1628 k1630 T1700.heap n0 Ou1703 (Ne.symm (own_n (own_t lt_b1684 Ku1692.1) bd_b1695)) f1797 u1705 f1782 f1784 (Ne.symm (own_n (own_t (own_t lt_b1604 Ku1618.1) Ku1638.1) bd_b1644)) f1783 S_63 hk64 f1789 f1787 f1791 f1790 f1795 f1794 (own_beq (u := 0) (v := 0) u1671 u1631 hc1707.symm) (own_bne u1672 u1632 hp1590 hi1569 (fun q => hc1709 q.symm))) u1800 pd_19 hml (hb hby at_240) (Ls := #[vI p1, vI p2, vI p3, vI 3, vI 3, vI i1567, vI i1569, vI i1571, vI i1578, vI i1589, vI i1600, vR b1604, vR b1644, vR b1684, vR b1695, vI 0]) (W := 0) (argsL := [(.ref b1684)]) (rest := [])
                obtain ⟨rfl, u1803, u1804⟩ := hQ1801
                have N1801 := Fr.app N1796 u1803
                obtain ⟨_, T1805, L1805, X1805, hQ1805, st1805⟩ := own_cV X1801 hx hZ1700 hown1700 (ww93 hw) (ww94 hw) (notFace_of_selects (args := #[]) (mvT hZ1700 (ww96 hw))) (ww96 hw) (ww95 hw) (ww36 hw) (ww97 hw) f1797 (rm20_24 l Z a0 hw b1684 T1700.heap n0 Ou1703) u1804 pd_19 hml (hb hby at_252) (Ls := #[vI p1, vI p2, vI p3, vI 3, vI 3, vI i1567, vI i1569, vI i1571, vI i1578, vI i1589, vI i1600, vR b1604, vR b1644, vR b1684, vR b1695, vI 0]) (W := 0) (argsL := [(.ref b1684)]) (rest := [])
                obtain ⟨rfl, u1807, u1808⟩ := hQ1805
                have N1805 := Fr.app N1801 u1807
                obtain ⟨_, T1809, L1809, X1809, hQ1809, st1809⟩ := own_cV X1805 hx hZ1700 hown1700 (ww93 hw) (ww94 hw) (notFace_of_selects (args := #[]) (mvT hZ1700 (ww96 hw))) (ww96 hw) (ww95 hw) (ww36 hw) (ww97 hw) f1797 (rm20_25 l Z a0 hw b1684 T1700.heap n0 Ou1703) u1808 pd_19 hml (hb hby at_261) (Ls := #[vI p1, vI p2, vI p3, vI 3, vI 3, vI i1567, vI i1569, vI i1571, vI i1578, vI i1589, vI i1600, vR b1604, vR b1644, vR b1684, vR b1695, vI 0]) (W := 0) (argsL := [.null]) (rest := [])
                obtain ⟨rfl, u1811, u1812⟩ := hQ1809
                have N1809 := Fr.app N1805 u1811
                obtain ⟨_, T1813, L1813, X1813, hQ1813, st1813⟩ := own_cV X1809 hx hZ1700 hown1700 (ww93 hw) (ww94 hw) (notFace_of_selects (args := #[]) (mvT hZ1700 (ww96 hw))) (ww96 hw) (ww95 hw) (ww36 hw) (ww97 hw) f1797 (rm20_26 l Z a0 hw b1684 b1604 T1700.heap n0 Ou1703 (Ne.symm ne1785) f1783) u1812 pd_19 hml (hb hby at_271) (Ls := #[vI p1, vI p2, vI p3, vI 3, vI 3, vI i1567, vI i1569, vI i1571, vI i1578, vI i1589, vI i1600, vR b1604, vR b1644, vR b1684, vR b1695, vI 0]) (W := 0) (argsL := [(.ref b1604)]) (rest := [])
                obtain ⟨rfl, u1815, u1816⟩ := hQ1813
                have N1813 := Fr.app N1809 u1815
                refine fin (some (.int 1)) _ _ _ _ T1700.vm _ X1813 hS1700 (by rw [u1816]; exact (Nat.le_refl _)) nofun (fun fs hr => pre1708 _ ?_) (own_atH u1816 ?_) (by decide) (by decide)
                · refine o_icmpY X1700 hx hby at_202 (pc := 202) (pc' := 221) (feq hc1709).2 (by decide) (by decide) (o_iconst X1700 hx hby at_221 (x := 0) rfl (o_istore X1700 hx hby at_222 (Ls' := #[vI p1, vI p2, vI p3, vI 3, vI 3, vI i1567, vI i1569, vI i1571, vI i1578, vI i1589, vI i1600, vR b1604, vR b1644, vR b1684, vR b1695, vI 0]) rfl (o_aload X1700 hx hby at_224 rfl rfl (o_aload X1700 hx hby at_226 rfl rfl (st1796 _ (o_iload X1796 hx hby at_231 rfl (o_icmpN X1796 hx hby at_233 (by decide +kernel) (o_aload X1796 hx hby at_236 rfl rfl (o_aload X1796 hx hby at_238 rfl rfl (st1801 _ (o_iload X1801 hx hby at_243 rfl (o_icmpN X1801 hx hby at_245 (by decide +kernel) (o_aload X1801 hx hby at_248 rfl rfl (o_aload X1801 hx hby at_250 rfl rfl (st1805 _ (o_ifN X1805 hx hby at_255 (by decide +kernel) (o_aload X1805 hx hby at_258 rfl rfl (o_null X1805 hx hby at_260 (st1809 _ (o_ifN X1809 hx hby at_264 (by decide +kernel) (o_aload X1809 hx hby at_267 rfl rfl (o_aload X1809 hx hby at_269 rfl rfl (st1813 _ (o_ifN X1813 hx hby at_274 (by decide +kernel) (o_iconst X1813 hx hby at_277 (x := 1) rfl (o_goto X1813 hx hby at_278 (pc := 278) (pc' := 282) (by decide) (by decide) ?_))))))))))))))))))))))))))
                  exact retN X1813 hx (t := .boolean) hret (by simp) (hb hby at_282) hr
                · exact ⟨rfl, N1813⟩
            · skip
              have f1817 : Fld Z T1700.heap b1684 C_1 "text" C_2 (.ref b1604) := ((Fld.ext E1695 u1694).keep Ku1703 (ninS (own_n (own_t lt_b1684 Ku1692.1) bd_b1695) nin0))
              have f1818 : Exa Z T1700.heap b1604 C_0 := ((Exa.ext E1695 (f1685.keep Ku1692)).keep Ku1703)
              have f1819 : Exa Z T1700.heap b1644 C_0 := (f1696.keep Ku1703)
              have ne1820 : b1604 ≠ b1684 := (own_n (own_t (own_t (own_t (own_t (own_t lt_b1604 Ku1618.1) Ku1638.1) E1644.1) Ku1658.1) Ku1678.1) bd_b1684)
              have ne1821 : b1604 ≠ b1695 := (own_n (own_t (own_t (own_t (own_t (own_t (own_t (own_t lt_b1604 Ku1618.1) Ku1638.1) E1644.1) Ku1658.1) Ku1678.1) E1684.1) Ku1692.1) bd_b1695)
              have f1822 : Fld Z T1700.heap b1604 C_0 "coder" "B" (.int 0) := ((Fld.ext E1695 (f1688.keep Ku1692 (ninS ne1820 nin0))).keep Ku1703 (ninS ne1821 nin0))
              have ne1823 : b1644 ≠ b1695 := (own_n (own_t (own_t (own_t (own_t lt_b1644 Ku1658.1) Ku1678.1) E1684.1) Ku1692.1) bd_b1695)
              have f1824 : Fld Z T1700.heap b1644 C_0 "coder" "B" (.int 0) := (f1699.keep Ku1703 (ninS ne1823 nin0))
              have f1825 : Fld Z T1700.heap b1604 C_0 "value" "[B" (.ref b1629) := ((Fld.ext E1695 (f1686.keep Ku1692 (ninS ne1820 nin0))).keep Ku1703 (ninS ne1821 nin0))
              have f1826 : Fld Z T1700.heap b1644 C_0 "value" "[B" (.ref b1669) := (f1697.keep Ku1703 (ninS ne1823 nin0))
              have ne1827 : b1629 ≠ b1684 := (own_n (own_t (own_t (own_t u1637 E1644.1) Ku1658.1) Ku1678.1) bd_b1684)
              have ne1828 : b1629 ≠ b1695 := (own_n (own_t (own_t (own_t (own_t (own_t u1637 E1644.1) Ku1658.1) Ku1678.1) E1684.1) Ku1692.1) bd_b1695)
              have f1829 : Arv Z T1700.heap b1629 k1630 .byte (3 : Int32) [(.int i1626), (.int i1627), (.int i1628)] (.int (0 : Int32)) := (((f1687.keep Ku1692 (ninS ne1827 nin0)).ext E1695).keep Ku1703 (ninS ne1828 nin0))
              have f1830 : Arv Z T1700.heap b1669 k1670 .byte (3 : Int32) [(.int i1666), (.int i1667), (.int i1668)] (.int (0 : Int32)) := (f1698.keep Ku1703 (ninS (own_n (own_t (own_t u1677 E1684.1) Ku1692.1) bd_b1695) nin0))
              have f1832 : Exa Z T1700.heap b1684 C_1 := ((Exa.ext E1695 u1693).keep Ku1703)
              obtain ⟨_, T1831, L1831, X1831, hQ1831, st1831⟩ := own_cV X1700 hx hZ1700 hown1700 (ww93 hw) (ww94 hw) (notFace_of_selects (args := #[]) (mvT hZ1700 (ww96 hw))) (ww96 hw) (ww95 hw) (ww36 hw) (ww97 hw) f1832 (rm20_108 l Z a0 hw b1684 b1695 b1604 b1644 p62 b1629 b1669 i1626 i1627 i1628 k1630 i1666 i1667 i1668 k1670 T1700.heap n0 Ou1703 (own_n (own_t lt_b1684 Ku1692.1) bd_b1695) u1704 f1817 u1705 f1818 (own_n (own_t (own_t lt_b1604 Ku1618.1) Ku1638.1) bd_b1644) f1819 S_63 hk64 f1822 f1824 f1825 f1826 f1829 f1830 (own_bne u1631 u1671 hi1567 hp1579 hc1707)) rfl pd_19 hml (hb hby at_228) (Ls := #[vI p1, vI p2, vI p3, vI 3, vI 3, vI i1567, vI i1569, vI i1571, vI i1578, vI i1589, vI i1600, vR b1604, vR b1644, vR b1684, vR b1695, vI 0]) (W := 0) (argsL := [(.ref b1695)]) (rest := [])
              obtain ⟨rfl, u1834, u1835⟩ := hQ1831
              have N1831 := Fr.app N1700 u1834
              obtain ⟨_, T1836, L1836, X1836, hQ1836, st1836⟩ := own_cV X1831 hx hZ1700 hown1700 (ww93 hw) (ww94 hw) (notFace_of_selects (args := #[]) (mvT hZ1700 (ww96 hw))) (ww96 hw) (ww95 hw) (ww36 hw) (ww97 hw) u1704 (rm20_108 l Z a0 hw b1695 b1684 b1644 b1604 p62 b1669 b1629 i1666 i1667 i1668 k1670 i1626 i1627 i1628 k1630 T1700.heap n0 Ou1703 (Ne.symm (own_n (own_t lt_b1684 Ku1692.1) bd_b1695)) f1832 u1705 f1817 f1819 (Ne.symm (own_n (own_t (own_t lt_b1604 Ku1618.1) Ku1638.1) bd_b1644)) f1818 S_63 hk64 f1824 f1822 f1826 f1825 f1830 f1829 (own_bne u1671 u1631 hp1579 hi1567 (fun q => hc1707 q.symm))) u1835 pd_19 hml (hb hby at_240) (Ls := #[vI p1, vI p2, vI p3, vI 3, vI 3, vI i1567, vI i1569, vI i1571, vI i1578, vI i1589, vI i1600, vR b1604, vR b1644, vR b1684, vR b1695, vI 0]) (W := 0) (argsL := [(.ref b1684)]) (rest := [])
              obtain ⟨rfl, u1838, u1839⟩ := hQ1836
              have N1836 := Fr.app N1831 u1838
              obtain ⟨_, T1840, L1840, X1840, hQ1840, st1840⟩ := own_cV X1836 hx hZ1700 hown1700 (ww93 hw) (ww94 hw) (notFace_of_selects (args := #[]) (mvT hZ1700 (ww96 hw))) (ww96 hw) (ww95 hw) (ww36 hw) (ww97 hw) f1832 (rm20_24 l Z a0 hw b1684 T1700.heap n0 Ou1703) u1839 pd_19 hml (hb hby at_252) (Ls := #[vI p1, vI p2, vI p3, vI 3, vI 3, vI i1567, vI i1569, vI i1571, vI i1578, vI i1589, vI i1600, vR b1604, vR b1644, vR b1684, vR b1695, vI 0]) (W := 0) (argsL := [(.ref b1684)]) (rest := [])
              obtain ⟨rfl, u1842, u1843⟩ := hQ1840
              have N1840 := Fr.app N1836 u1842
              obtain ⟨_, T1844, L1844, X1844, hQ1844, st1844⟩ := own_cV X1840 hx hZ1700 hown1700 (ww93 hw) (ww94 hw) (notFace_of_selects (args := #[]) (mvT hZ1700 (ww96 hw))) (ww96 hw) (ww95 hw) (ww36 hw) (ww97 hw) f1832 (rm20_25 l Z a0 hw b1684 T1700.heap n0 Ou1703) u1843 pd_19 hml (hb hby at_261) (Ls := #[vI p1, vI p2, vI p3, vI 3, vI 3, vI i1567, vI i1569, vI i1571, vI i1578, vI i1589, vI i1600, vR b1604, vR b1644, vR b1684, vR b1695, vI 0]) (W := 0) (argsL := [.null]) (rest := [])
              obtain ⟨rfl, u1846, u1847⟩ := hQ1844
              have N1844 := Fr.app N1840 u1846
              obtain ⟨_, T1848, L1848, X1848, hQ1848, st1848⟩ := own_cV X1844 hx hZ1700 hown1700 (ww93 hw) (ww94 hw) (notFace_of_selects (args := #[]) (mvT hZ1700 (ww96 hw))) (ww96 hw) (ww95 hw) (ww36 hw) (ww97 hw) f1832 (rm20_26 l Z a0 hw b1684 b1604 T1700.heap n0 Ou1703 (Ne.symm ne1820) f1818) u1847 pd_19 hml (hb hby at_271) (Ls := #[vI p1, vI p2, vI p3, vI 3, vI 3, vI i1567, vI i1569, vI i1571, vI i1578, vI i1589, vI i1600, vR b1604, vR b1644, vR b1684, vR b1695, vI 0]) (W := 0) (argsL := [(.ref b1604)]) (rest := [])
              obtain ⟨rfl, u1850, u1851⟩ := hQ1848
              have N1848 := Fr.app N1844 u1850
              refine fin (some (.int 1)) _ _ _ _ T1700.vm _ X1848 hS1700 (by rw [u1851]; exact (Nat.le_refl _)) nofun (fun fs hr => pre1706 _ ?_) (own_atH u1851 ?_) (by decide) (by decide)
              · refine o_icmpY X1700 hx hby at_190 (pc := 190) (pc' := 221) (feq hc1707).2 (by decide) (by decide) (o_iconst X1700 hx hby at_221 (x := 0) rfl (o_istore X1700 hx hby at_222 (Ls' := #[vI p1, vI p2, vI p3, vI 3, vI 3, vI i1567, vI i1569, vI i1571, vI i1578, vI i1589, vI i1600, vR b1604, vR b1644, vR b1684, vR b1695, vI 0]) rfl (o_aload X1700 hx hby at_224 rfl rfl (o_aload X1700 hx hby at_226 rfl rfl (st1831 _ (o_iload X1831 hx hby at_231 rfl (o_icmpN X1831 hx hby at_233 (by decide +kernel) (o_aload X1831 hx hby at_236 rfl rfl (o_aload X1831 hx hby at_238 rfl rfl (st1836 _ (o_iload X1836 hx hby at_243 rfl (o_icmpN X1836 hx hby at_245 (by decide +kernel) (o_aload X1836 hx hby at_248 rfl rfl (o_aload X1836 hx hby at_250 rfl rfl (st1840 _ (o_ifN X1840 hx hby at_255 (by decide +kernel) (o_aload X1840 hx hby at_258 rfl rfl (o_null X1840 hx hby at_260 (st1844 _ (o_ifN X1844 hx hby at_264 (by decide +kernel) (o_aload X1844 hx hby at_267 rfl rfl (o_aload X1844 hx hby at_269 rfl rfl (st1848 _ (o_ifN X1848 hx hby at_274 (by decide +kernel) (o_iconst X1848 hx hby at_277 (x := 1) rfl (o_goto X1848 hx hby at_278 (pc := 278) (pc' := 282) (by decide) (by decide) ?_))))))))))))))))))))))))))
                exact retN X1848 hx (t := .boolean) hret (by simp) (hb hby at_282) hr
              · exact ⟨rfl, N1848⟩
          by_cases hc1852 : i1594 = (0 : Int32)
          · skip
            subst hc1852
            obtain ⟨i1853, hi1853⟩ : ∃ z, z = ((p2.toUInt32 >>> ((16 : Int32) &&& 31).toUInt32).toInt32) := ⟨_, rfl⟩
            obtain ⟨i1854, hi1854⟩ : ∃ z, z = (i1853 &&& (255 : Int32)) := ⟨_, rfl⟩
            have pre1855 : ∀ t, Steps p.tables e below (s₁.setTop (mkF m 117 #[vI p1, vI p2, vI p3, vI 3, vI 3, vI i1567, vI i1569, vI i1571, vI i1578, vI i1589, .unset, .unset, .unset, .unset, .unset, .unset] [(.int i1854)])) t → Steps p.tables e below EN t := by
              intro t kt
              refine pre1595 t ?_
              refine o_ifY X0 hx hby at_100 (pc := 100) (pc' := 108) (by decide +kernel) (by decide) (by decide) (o_iloadN X0 hx hby at_108 rfl (o_bipush X0 hx hby at_109 (x := 16) rfl (o_iushr X0 hx hby at_111 (z := i1853) hi1853.symm (o_sipush X0 hx hby at_112 (x := 255) rfl (o_iand X0 hx hby at_115 (z := i1854) hi1854.symm (o_i2c X0 hx hby at_116 (z := i1854) (own_i2c255 hi1854) ?_))))))
              exact kt
            exact join1599 i1854 ⟨_, hi1854⟩ pre1855
          · skip
            have pre1856 : ∀ t, Steps p.tables e below (s₁.setTop (mkF m 117 #[vI p1, vI p2, vI p3, vI 3, vI 3, vI i1567, vI i1569, vI i1571, vI i1578, vI i1589, .unset, .unset, .unset, .unset, .unset, .unset] [(.int i1571)])) t → Steps p.tables e below EN t := by
              intro t kt
              refine pre1595 t ?_
              refine o_ifN X0 hx hby at_100 ((if0 _ _).trans (feq hc1852).1) (o_iload X0 hx hby at_103 rfl (o_goto X0 hx hby at_105 (pc := 105) (pc' := 117) (by decide) (by decide) ?_))
              exact kt
            exact join1599 i1571 ⟨_, hi1571⟩ pre1856
        by_cases hc1857 : i1583 = (0 : Int32)
        · skip
          subst hc1857
          obtain ⟨i1858, hi1858⟩ : ∃ z, z = ((p2.toUInt32 >>> ((8 : Int32) &&& 31).toUInt32).toInt32) := ⟨_, rfl⟩
          obtain ⟨i1859, hi1859⟩ : ∃ z, z = (i1858 &&& (255 : Int32)) := ⟨_, rfl⟩
          have pre1860 : ∀ t, Steps p.tables e below (s₁.setTop (mkF m 92 #[vI p1, vI p2, vI p3, vI 3, vI 3, vI i1567, vI i1569, vI i1571, vI i1578, .unset, .unset, .unset, .unset, .unset, .unset, .unset] [(.int i1859)])) t → Steps p.tables e below EN t := by
            intro t kt
            refine pre1584 t ?_
            refine o_ifY X0 hx hby at_75 (pc := 75) (pc' := 83) (by decide +kernel) (by decide) (by decide) (o_iloadN X0 hx hby at_83 rfl (o_bipush X0 hx hby at_84 (x := 8) rfl (o_iushr X0 hx hby at_86 (z := i1858) hi1858.symm (o_sipush X0 hx hby at_87 (x := 255) rfl (o_iand X0 hx hby at_90 (z := i1859) hi1859.symm (o_i2c X0 hx hby at_91 (z := i1859) (own_i2c255 hi1859) ?_))))))
            exact kt
          exact join1588 i1859 ⟨_, hi1859⟩ pre1860
        · skip
          have pre1861 : ∀ t, Steps p.tables e below (s₁.setTop (mkF m 92 #[vI p1, vI p2, vI p3, vI 3, vI 3, vI i1567, vI i1569, vI i1571, vI i1578, .unset, .unset, .unset, .unset, .unset, .unset, .unset] [(.int i1569)])) t → Steps p.tables e below EN t := by
            intro t kt
            refine pre1584 t ?_
            refine o_ifN X0 hx hby at_75 ((if0 _ _).trans (feq hc1857).1) (o_iload X0 hx hby at_78 rfl (o_goto X0 hx hby at_80 (pc := 80) (pc' := 92) (by decide) (by decide) ?_))
            exact kt
          exact join1588 i1569 ⟨_, hi1569⟩ pre1861
      by_cases hc1862 : i1573 = (0 : Int32)
      · skip
        subst hc1862
        obtain ⟨i1863, hi1863⟩ : ∃ z, z = (p2 &&& (255 : Int32)) := ⟨_, rfl⟩
        have pre1864 : ∀ t, Steps p.tables e below (s₁.setTop (mkF m 68 #[vI p1, vI p2, vI p3, vI 3, vI 3, vI i1567, vI i1569, vI i1571, .unset, .unset, .unset, .unset, .unset, .unset, .unset, .unset] [(.int i1863)])) t → Steps p.tables e below EN t := by
          intro t kt
          refine pre1574 t ?_
          refine o_ifY X0 hx hby at_54 (pc := 54) (pc' := 62) (by decide +kernel) (by decide) (by decide) (o_iloadN X0 hx hby at_62 rfl (o_sipush X0 hx hby at_63 (x := 255) rfl (o_iand X0 hx hby at_66 (z := i1863) hi1863.symm (o_i2c X0 hx hby at_67 (z := i1863) (own_i2c255 hi1863) ?_))))
          exact kt
        exact join1577 i1863 ⟨_, hi1863⟩ pre1864
      · skip
        have pre1865 : ∀ t, Steps p.tables e below (s₁.setTop (mkF m 68 #[vI p1, vI p2, vI p3, vI 3, vI 3, vI i1567, vI i1569, vI i1571, .unset, .unset, .unset, .unset, .unset, .unset, .unset, .unset] [(.int i1567)])) t → Steps p.tables e below EN t := by
          intro t kt
          refine pre1574 t ?_
          refine o_ifN X0 hx hby at_54 ((if0 _ _).trans (feq hc1862).1) (o_iload X0 hx hby at_57 rfl (o_goto X0 hx hby at_59 (pc := 59) (pc' := 68) (by decide) (by decide) ?_))
          exact kt
        exact join1577 i1567 ⟨_, hi1567⟩ pre1865
set_option maxRecDepth 65536 in
set_option maxHeartbeats 40000000 in
theorem comes_1 {Post : Tables → Env → Array Value → State → Outcome → State → Prop} (hpost : ∀ tb e args s v u, (limb_1_1.after args s (.returned v) u = true ∧ limb_1_2.after args s (.returned v) u = true ∧ True) → ReturnedEndW s (.returned v) u (Jvm.fieldLocs frame_1_writes args s ++ Jvm.arrayLocs frame_1_arrays args s ++ Jvm.staticLocs frame_1_statics s) 32 1152 → Post tb e args s (.returned v) u) :
    ArmFor flags0 classFile x code maxLocals ret World_1 tables_1 room_1 Calls_1 rest_1 Pre_1 Post := by
  intro l hfl _ _ p e ha hc hk s m args below hf hA hF happ hP
  obtain ⟨hcalls, hrest, hpre⟩ := hP
  obtain ⟨-, -, -, hnamed, -, -, -, hat⟩ := (Spec.applies_iff hf).mp happ
  obtain ⟨hg, hn⟩ := and_e (Cond.before_iff.mp (show (Jvm.Cond.and given_1 narrow_1).before args s = true from hpre))
  obtain ⟨h1, hr0⟩ := and_e hg
  obtain ⟨ha0, hr1⟩ := and_e hr0
  obtain ⟨ha1, hr2⟩ := and_e hr1
  obtain ⟨w0, w1, w2, rfl⟩ : ∃ w0 w1 w2 : Value, args = #[w0, w1, w2] := by
    have hs : args.size = 3 := by simpa [Cond.value, given_1] using h1
    obtain ⟨L⟩ := args
    match L, hs with
    | [w0, w1, w2], _ => exact ⟨w0, w1, w2, rfl⟩
  have hwt := fun d (hd : d ∈ tables_1) => atoms_spec (ws := Jvm.Cond.code x code maxLocals ret :: tables_1) hat d (List.mem_cons_of_mem _ hd)
  obtain ⟨hsets, hown0⟩ := atoms_of _ (rest_1_c_eq ▸ (show rest_1_c.before _ s = true from hrest))
  have hw : ∀ d ∈ own_ws, d.before _ s = true := fun d hd => (List.mem_append.mp hd).elim (hwt d) (hsets d)
  have hfit : Fit s := fun {y c} hc i hi => by
    obtain ⟨ha, rfl⟩ := Array.getElem?_eq_some_iff.mp hc
    have q := List.all_eq_true.mp ((Array.all_eq_true_iff_forall_mem.mp hF) _ (Array.getElem_mem ha)) i (List.mem_range.mpr hi)
    simpa [Array.getElem?_eq_getElem hi] using q
  obtain ⟨i0, ei0⟩ := is_v ha0
  obtain rfl : w0 = (.int i0) := Option.some.inj ei0
  obtain ⟨i1, ei1⟩ := is_v ha1
  obtain rfl : w1 = (.int i1) := Option.some.inj ei1
  obtain ⟨i2, ei2⟩ := is_v hr2
  obtain rfl : w2 = (.int i2) := Option.some.inj ei2
  have hs1 := Cond.before_iff.mp (hsets _ (List.mem_of_getElem? (i := 1) rfl))
  have hs2 := Cond.before_iff.mp (hsets _ (List.mem_of_getElem? (i := 2) rfl))
  have hs8 := Cond.before_iff.mp (hsets _ (List.mem_of_getElem? (i := 8) rfl))
  obtain ⟨n1, ev_n1⟩ := is_v hs1
  have S_n1 : Sta s s.heap "java/lang/String" "COMPACT_STRINGS" "Z" (.int n1) := Sta.start ev_n1 (Or.inl (ww111 hw))
  have cn1 : ¬ (n1 = (0 : Int32)) := gotF (Cond.eq_ints ev_n1 (Term.int_eval (0))) (not_v hs2)
  obtain ⟨r2, ev_r2, ir_r2⟩ := isR_v hs8
  have S_r2 : Sta s s.heap "jdk/internal/util/Preconditions" "SIOOBE_FORMATTER" "Ljava/util/function/BiFunction;" r2 := Sta.start ev_r2 (Or.inl (ww118 hw))
  obtain ⟨n, o, h1, h2, h3, _, L, rfl, ⟨rfl, N⟩, hq⟩ := rm0 l s _ hw tables_1 i0 i1 i2 n1 r2 s.heap s.heap.size (Old.start s) S_n1 cn1 S_r2 ir_r2 p e ha hc hk s m _ below hf ((Spec.applies_iff_loose hf).mp happ).1 ⟨rfl, State.Warmed39.refl s, rfl⟩ trivial
  refine ⟨n, _, h1, h2, h3, hpost _ _ _ _ _ _ ⟨Cond.after_iff.mpr rfl, Cond.after_iff.mpr (eq_i res_at (Term.int_eval (1)) rfl), trivial⟩ ⟨hq.1, hq.2.1, hq.2.2.1, (hq.2.2.2.sift fun y hy => Or.inr (N y hy)).mono (by decide) (by decide)⟩⟩
theorem main_1_1 : Claimed_1_1 := comes_1 fun _ _ _ _ _ _ h hF => ⟨h.1, hF⟩
theorem main_1_2 : Claimed_1_2 := comes_1 fun _ _ _ _ _ _ h hF => ⟨h.2.1, hF⟩
end Jvm.Pilot.@@N@@
namespace Jvm.Pilot.@@N@@
open Jvm Jvm.ClassFile Sem Op Lib Jvm.Free Jvm.Stand Jvm.Pilot.@@N@@.Jvm.D
/-! MADE BY PROGRAM (witnessworld.py) out of the Statement's table words and the real class files: 22 classes; the members and pool entries that the words name. The judged class is class 1, her method 2. -/
namespace start1
open Jvm.ClassFile
def u (s : String) : CpInfo := .utf8 (stringToUtf16 s)
/-- a pool by its gaps: so many unusable entries, then the entry; so many at the end -/
def gap : Nat → List CpInfo → List CpInfo
  | 0, r => r
  | n + 1, r => .unusable :: gap n r
def poolList (es : List (Nat × CpInfo)) (last : Nat) : List CpInfo := es.foldr (fun e r => gap e.1 (e.2 :: r)) (gap last [])
def pool (es : List (Nat × CpInfo)) (last : Nat) : Array CpInfo := ⟨poolList es last⟩
def fileOf (pool : Array CpInfo) (this : Nat) (attrs : Array Attribute := #[]) (ms : Array MethodInfo := #[]) (fl : Nat := 33) (sup : Nat := 0) (ifs : Array Nat := #[]) (fds : Array FieldInfo := #[]) : ClassFile where
  minorVersion := 0
  majorVersion := 65
  constantPool := pool
  accessFlags := fl
  thisClass := this
  superClass := sup
  interfaces := ifs
  fields := fds
  methods := ms
  attributes := attrs
def plain (name : String) (sup : Option ClassId) : Class where
  name := name
  kind := .ordinary
  loader := none
  accessFlags := 33
  super := sup
  interfaces := #[]
  cf := none
  fields := #[]
  methods := #[]
  instanceTypes := #[]
  staticTypes := #[]
  resolved := #[]
  callSites := []
  init := .initialized
  statics := none
  mirror := none

def pool0 : Array CpInfo := pool [(5, u "<init>"), (0, u "()V"), (1, .class_ 10), (1, u "java/lang/Object")] 113

def k0c0 : Code := { maxStack := 0, maxLocals := 1, code := object_method_1_code, exceptionTable := #[], attributes := #[] }
def k0m0 : Method := { name := "<init>", desc := "()V", sig := { parameters := [], returnType := none }, accessFlags := 1, code := some k0c0 }
/-- java/lang/Object -/
def k0 : Class := { plain "java/lang/Object" none with
  accessFlags := 33
  interfaces := #[]
  cf := some (fileOf pool0 8 #[] #[{ accessFlags := 1, nameIndex := 5, descriptorIndex := 6, attributes := #[] }] 33 0 #[] #[])
  fields := #[]
  methods := #[k0m0]
  instanceTypes := #[]
  staticTypes := #[]
  resolved := Array.replicate 124 none
  statics := none }

def pool1 : Array CpInfo := pool [(2, .class_ 4), (1, u "java/lang/Object"), (0, u "<init>"), (0, u "()V"), (0, .class_ 8), (0, u "java/lang/String"), (0, .methodref 10 11), (0, .class_ 12), (0, .nameAndType 13 14), (0, u "com/example/ringstead/ringstead/store/KeyEqualsPinLaw"), (0, u "chars"), (0, u "(ICCC)[C"), (0, .methodref 7 16), (0, .nameAndType 5 17), (0, u "([C)V"), (0, .class_ 19), (0, u "com/example/ringstead/ringstead/store/Key"), (0, .methodref 18 21), (0, .nameAndType 5 22), (0, u "(Ljava/lang/String;)V"), (0, .methodref 18 24), (0, .nameAndType 25 26), (0, u "equals"), (0, u "(Ljava/lang/Object;)Z"), (5, u "law"), (0, u "(III)Z")] 2

def k1m0 : Method := { name := "<init>", desc := "()V", sig := { parameters := [], returnType := none }, accessFlags := 2, code := none }
def k1c1 : Code := { maxStack := 3, maxLocals := 5, code := method_2_code, exceptionTable := #[], attributes := #[] }
def k1m1 : Method := { name := "chars", desc := "(ICCC)[C", sig := { parameters := [.int, .char, .char, .char], returnType := some (.array .char) }, accessFlags := 10, code := some k1c1 }
def k1c2 : Code := { maxStack := 6, maxLocals := 16, code := code, exceptionTable := #[], attributes := #[] }
def k1m2 : Method := { name := "law", desc := "(III)Z", sig := { parameters := [.int, .int, .int], returnType := some .boolean }, accessFlags := 9, code := some k1c2 }
/-- com/example/ringstead/ringstead/store/KeyEqualsPinLaw -/
def k1 : Class := { plain "com/example/ringstead/ringstead/store/KeyEqualsPinLaw" (some 0) with
  accessFlags := 49
  interfaces := #[]
  cf := some (fileOf pool1 10 #[] #[{ accessFlags := 2, nameIndex := 5, descriptorIndex := 6, attributes := #[] }, { accessFlags := 10, nameIndex := 13, descriptorIndex := 14, attributes := #[] }, { accessFlags := 9, nameIndex := 32, descriptorIndex := 33, attributes := #[] }] 49 2 #[] #[])
  fields := #[]
  methods := #[k1m0, k1m1, k1m2]
  instanceTypes := #[]
  staticTypes := #[]
  resolved := Array.replicate 36 none
  statics := none }

def pool2 : Array CpInfo := pool [(1, .class_ 2), (0, u "java/io/Serializable"), (0, .class_ 4), (0, u "java/lang/Object")] 2

/-- java/io/Serializable -/
def k2 : Class := { plain "java/io/Serializable" (some 0) with
  accessFlags := 1537
  interfaces := #[]
  cf := some (fileOf pool2 1 #[] #[] 1537 3 #[] #[])
  fields := #[]
  methods := #[]
  instanceTypes := #[]
  staticTypes := #[]
  resolved := Array.replicate 7 none
  statics := none }

def pool3 : Array CpInfo := pool [(1, .class_ 2), (0, u "java/lang/Comparable"), (0, .class_ 4), (0, u "java/lang/Object")] 7

/-- java/lang/Comparable -/
def k3 : Class := { plain "java/lang/Comparable" (some 0) with
  accessFlags := 1537
  interfaces := #[]
  cf := some (fileOf pool3 1 #[] #[] 1537 3 #[] #[])
  fields := #[]
  methods := #[]
  instanceTypes := #[]
  staticTypes := #[]
  resolved := Array.replicate 12 none
  statics := none }

def pool4 : Array CpInfo := pool [(2, .class_ 4), (1, u "java/lang/CharSequence"), (42, .class_ 48), (0, u "java/lang/CharSequence$1CodePointIterator"), (10, .class_ 60), (0, u "java/lang/CharSequence$1CharIterator"), (5, .class_ 67), (0, u "java/lang/Object")] 63

/-- java/lang/CharSequence -/
def k4 : Class := { plain "java/lang/CharSequence" (some 0) with
  accessFlags := 1537
  interfaces := #[]
  cf := some (fileOf pool4 2 #[.nestMembers #[47, 59]] #[] 1537 66 #[] #[])
  fields := #[]
  methods := #[]
  instanceTypes := #[]
  staticTypes := #[]
  resolved := Array.replicate 131 none
  statics := none }

def pool5 : Array CpInfo := pool [(1, .class_ 2), (0, u "java/lang/constant/Constable"), (0, .class_ 4), (0, u "java/lang/Object")] 6

/-- java/lang/constant/Constable -/
def k5 : Class := { plain "java/lang/constant/Constable" (some 0) with
  accessFlags := 1537
  interfaces := #[]
  cf := some (fileOf pool5 1 #[] #[] 1537 3 #[] #[])
  fields := #[]
  methods := #[]
  instanceTypes := #[]
  staticTypes := #[]
  resolved := Array.replicate 11 none
  statics := none }

def pool6 : Array CpInfo := pool [(1, .class_ 2), (0, u "java/lang/constant/ConstantDesc"), (0, .class_ 4), (0, u "java/lang/Object")] 32

/-- java/lang/constant/ConstantDesc -/
def k6 : Class := { plain "java/lang/constant/ConstantDesc" (some 0) with
  accessFlags := 1537
  interfaces := #[]
  cf := some (fileOf pool6 1 #[] #[] 1537 3 #[] #[])
  fields := #[]
  methods := #[]
  instanceTypes := #[]
  staticTypes := #[]
  resolved := Array.replicate 37 none
  statics := none }

def pool7 : Array CpInfo := pool [(1, .methodref 2 3), (0, .class_ 4), (0, .nameAndType 5 6), (0, u "java/lang/Object"), (0, u "<init>"), (0, u "()V"), (2, .fieldref 10 11), (0, .class_ 12), (0, .nameAndType 13 14), (0, u "java/lang/String"), (0, u "value"), (0, u "[B"), (0, .fieldref 10 16), (0, .nameAndType 17 18), (0, u "coder"), (0, u "B"), (2, u "hash"), (0, u "I"), (2, u "hashIsZero"), (0, u "Z"), (0, .methodref 10 28), (0, .nameAndType 5 29), (0, u "([CIILjava/lang/Void;)V"), (8, .fieldref 10 39), (0, .nameAndType 40 26), (0, u "COMPACT_STRINGS"), (1, .class_ 44), (1, u "java/lang/StringUTF16"), (0, u "compress"), (1, .methodref 42 48), (0, .nameAndType 49 50), (0, u "coderFromArrayLen"), (0, u "([BI)B"), (56, .class_ 109), (1, u "java/lang/StringLatin1"), (32, u "()Z"), (34, .methodref 42 178), (0, .nameAndType 45 179), (0, u "([CII)[B"), (154, u "()I"), (0, .methodref 10 336), (0, .nameAndType 17 337), (0, u "()B"), (25, u "([BI)C"), (27, u "(II)V"), (35, u "(I)C"), (64, .methodref 10 493), (0, .nameAndType 494 142), (0, u "isLatin1"), (0, .methodref 107 496), (0, .nameAndType 497 363), (0, u "charAt"), (3, u "checkIndex"), (5, u "length"), (33, .methodref 107 542), (0, .nameAndType 543 544), (0, u "equals"), (0, u "([B[B)Z"), (28, u "(Ljava/lang/Object;)Z"), (1, .class_ 576), (0, u "java/lang/CharSequence"), (22, u "CASE_INSENSITIVE_ORDER"), (0, u "Ljava/util/Comparator;"), (409, u "([C)V"), (42, .fieldref 1054 1055), (0, .class_ 1056), (0, .nameAndType 1057 1058), (0, u "jdk/internal/util/Preconditions"), (0, u "SIOOBE_FORMATTER"), (0, u "Ljava/util/function/BiFunction;"), (0, .methodref 1054 1060), (0, .nameAndType 501 1061), (0, u "(IILjava/util/function/BiFunction;)I"), (39, u "serialPersistentFields"), (0, u "[Ljava/io/ObjectStreamField;"), (0, .class_ 1104), (0, u "java/lang/String$CaseInsensitiveComparator"), (1, .class_ 1107), (0, u "java/io/Serializable"), (0, .class_ 1109), (0, u "java/lang/Comparable"), (0, .class_ 1111), (0, u "java/lang/constant/Constable"), (0, .class_ 1113), (0, u "java/lang/constant/ConstantDesc"), (2, u "serialVersionUID"), (0, u "J"), (3, u "REPL"), (0, u "C"), (2, u "LATIN1"), (1, u "UTF16")] 323

def k7m0 : Method := { name := "<init>", desc := "()V", sig := { parameters := [], returnType := none }, accessFlags := 1, code := none }
def k7c1 : Code := { maxStack := 5, maxLocals := 2, code := jdk_42_method_3_code, exceptionTable := #[], attributes := #[] }
def k7m1 : Method := { name := "<init>", desc := "([C)V", sig := { parameters := [(.array .char)], returnType := none }, accessFlags := 1, code := some k7c1 }
def k7c2 : Code := { maxStack := 2, maxLocals := 1, code := jdk_42_method_54_code, exceptionTable := #[], attributes := #[] }
def k7m2 : Method := { name := "length", desc := "()I", sig := { parameters := [], returnType := some .int }, accessFlags := 1, code := some k7c2 }
def k7c3 : Code := { maxStack := 2, maxLocals := 2, code := jdk_42_method_56_code, exceptionTable := #[], attributes := #[] }
def k7m3 : Method := { name := "charAt", desc := "(I)C", sig := { parameters := [.int], returnType := some .char }, accessFlags := 1, code := some k7c3 }
def k7c4 : Code := { maxStack := 2, maxLocals := 3, code := jdk_42_method_66_code, exceptionTable := #[], attributes := #[] }
def k7m4 : Method := { name := "equals", desc := "(Ljava/lang/Object;)Z", sig := { parameters := [(.object "java/lang/Object")], returnType := some .boolean }, accessFlags := 1, code := some k7c4 }
def k7c5 : Code := { maxStack := 4, maxLocals := 6, code := jdk_42_method_149_code, exceptionTable := #[], attributes := #[] }
def k7m5 : Method := { name := "<init>", desc := "([CIILjava/lang/Void;)V", sig := { parameters := [(.array .char), .int, .int, (.object "java/lang/Void")], returnType := none }, accessFlags := 2, code := some k7c5 }
def k7c6 : Code := { maxStack := 1, maxLocals := 1, code := jdk_42_method_152_code, exceptionTable := #[], attributes := #[] }
def k7m6 : Method := { name := "coder", desc := "()B", sig := { parameters := [], returnType := some .byte }, accessFlags := 0, code := some k7c6 }
def k7c7 : Code := { maxStack := 1, maxLocals := 1, code := jdk_42_method_154_code, exceptionTable := #[], attributes := #[] }
def k7m7 : Method := { name := "isLatin1", desc := "()Z", sig := { parameters := [], returnType := some .boolean }, accessFlags := 0, code := some k7c7 }
def k7c8 : Code := { maxStack := 3, maxLocals := 2, code := jdk_42_method_155_code, exceptionTable := #[], attributes := #[] }
def k7m8 : Method := { name := "checkIndex", desc := "(II)V", sig := { parameters := [.int, .int], returnType := none }, accessFlags := 8, code := some k7c8 }
/-- java/lang/String -/
def k7 : Class := { plain "java/lang/String" (some 0) with
  accessFlags := 49
  interfaces := #[2, 3, 4, 5, 6]
  cf := some (fileOf pool7 10 #[.nestMembers #[1103]] #[{ accessFlags := 1, nameIndex := 5, descriptorIndex := 6, attributes := #[] }, { accessFlags := 1, nameIndex := 5, descriptorIndex := 1010, attributes := #[] }, { accessFlags := 1, nameIndex := 507, descriptorIndex := 334, attributes := #[] }, { accessFlags := 1, nameIndex := 497, descriptorIndex := 427, attributes := #[] }, { accessFlags := 1, nameIndex := 543, descriptorIndex := 573, attributes := #[] }, { accessFlags := 2, nameIndex := 5, descriptorIndex := 29, attributes := #[] }, { accessFlags := 0, nameIndex := 17, descriptorIndex := 337, attributes := #[] }, { accessFlags := 0, nameIndex := 494, descriptorIndex := 142, attributes := #[] }, { accessFlags := 8, nameIndex := 501, descriptorIndex := 391, attributes := #[] }] 49 2 #[1106, 1108, 575, 1110, 1112] #[{ accessFlags := 18, nameIndex := 13, descriptorIndex := 14, attributes := #[] }, { accessFlags := 18, nameIndex := 17, descriptorIndex := 18, attributes := #[] }, { accessFlags := 2, nameIndex := 21, descriptorIndex := 22, attributes := #[] }, { accessFlags := 2, nameIndex := 25, descriptorIndex := 26, attributes := #[] }, { accessFlags := 26, nameIndex := 1116, descriptorIndex := 1117, attributes := #[] }, { accessFlags := 24, nameIndex := 40, descriptorIndex := 26, attributes := #[] }, { accessFlags := 26, nameIndex := 1101, descriptorIndex := 1102, attributes := #[] }, { accessFlags := 26, nameIndex := 1121, descriptorIndex := 1122, attributes := #[] }, { accessFlags := 25, nameIndex := 599, descriptorIndex := 600, attributes := #[] }, { accessFlags := 24, nameIndex := 1125, descriptorIndex := 18, attributes := #[] }, { accessFlags := 24, nameIndex := 1127, descriptorIndex := 18, attributes := #[] }])
  fields := #[{ name := "value", type := (.array .byte), accessFlags := 18, slot := 0, constantValue := 0 }, { name := "coder", type := .byte, accessFlags := 18, slot := 1, constantValue := 0 }, { name := "hash", type := .int, accessFlags := 2, slot := 2, constantValue := 0 }, { name := "hashIsZero", type := .boolean, accessFlags := 2, slot := 3, constantValue := 0 }, { name := "serialVersionUID", type := .long, accessFlags := 26, slot := 0, constantValue := 0 }, { name := "COMPACT_STRINGS", type := .boolean, accessFlags := 24, slot := 1, constantValue := 0 }, { name := "serialPersistentFields", type := (.array (.object "java/io/ObjectStreamField")), accessFlags := 26, slot := 2, constantValue := 0 }, { name := "REPL", type := .char, accessFlags := 26, slot := 3, constantValue := 0 }, { name := "CASE_INSENSITIVE_ORDER", type := (.object "java/util/Comparator"), accessFlags := 25, slot := 4, constantValue := 0 }, { name := "LATIN1", type := .byte, accessFlags := 24, slot := 5, constantValue := 0 }, { name := "UTF16", type := .byte, accessFlags := 24, slot := 6, constantValue := 0 }]
  methods := #[k7m0, k7m1, k7m2, k7m3, k7m4, k7m5, k7m6, k7m7, k7m8]
  instanceTypes := #[(.array .byte), .byte, .int, .boolean]
  staticTypes := #[.long, .boolean, (.array (.object "java/io/ObjectStreamField")), .char, (.object "java/util/Comparator"), .byte, .byte]
  resolved := Array.replicate 1451 none
  statics := some 0 }

def pool8 : Array CpInfo := pool [(6, .class_ 8), (1, u "java/lang/Object"), (0, u "<init>"), (0, u "()V"), (1, .class_ 14), (1, u "java/lang/StringUTF16"), (31, u "$assertionsDisabled"), (0, u "Z"), (13, u "HI_BYTE_SHIFT"), (0, u "I"), (2, u "LO_BYTE_SHIFT"), (49, .methodref 12 116), (0, .nameAndType 117 118), (0, u "compress"), (0, u "([CI[BII)I"), (3, u "([CII)[B"), (138, u "coderFromArrayLen"), (0, u "([BI)B"), (106, .class_ 371), (1, u "java/lang/StringUTF16$LinesSpliterator"), (58, u "MAX_LENGTH"), (196, .class_ 628), (0, u "java/lang/StringUTF16$CodePointsSpliterator"), (0, .class_ 630), (0, u "java/lang/StringUTF16$CharsSpliterator")] 4

def k8m0 : Method := { name := "<init>", desc := "()V", sig := { parameters := [], returnType := none }, accessFlags := 0, code := none }
def k8c1 : Code := { maxStack := 2, maxLocals := 2, code := jdk_52_method_15_code, exceptionTable := #[], attributes := #[] }
def k8m1 : Method := { name := "coderFromArrayLen", desc := "([BI)B", sig := { parameters := [(.array .byte), .int], returnType := some .byte }, accessFlags := 8, code := some k8c1 }
def k8c2 : Code := { maxStack := 5, maxLocals := 6, code := jdk_52_method_16_code, exceptionTable := #[], attributes := #[] }
def k8m2 : Method := { name := "compress", desc := "([CII)[B", sig := { parameters := [(.array .char), .int, .int], returnType := some (.array .byte) }, accessFlags := 9, code := some k8c2 }
def k8c3 : Code := { maxStack := 3, maxLocals := 7, code := jdk_52_method_21_code, exceptionTable := #[], attributes := #[] }
def k8m3 : Method := { name := "compress", desc := "([CI[BII)I", sig := { parameters := [(.array .char), .int, (.array .byte), .int, .int], returnType := some .int }, accessFlags := 9, code := some k8c3 }
/-- java/lang/StringUTF16 -/
def k8 : Class := { plain "java/lang/StringUTF16" (some 0) with
  accessFlags := 48
  interfaces := #[]
  cf := some (fileOf pool8 12 #[.nestMembers #[627, 629, 369]] #[{ accessFlags := 0, nameIndex := 9, descriptorIndex := 10, attributes := #[] }, { accessFlags := 8, nameIndex := 261, descriptorIndex := 262, attributes := #[] }, { accessFlags := 9, nameIndex := 117, descriptorIndex := 122, attributes := #[] }, { accessFlags := 9, nameIndex := 117, descriptorIndex := 118, attributes := #[] }] 48 6 #[] #[{ accessFlags := 26, nameIndex := 61, descriptorIndex := 62, attributes := #[] }, { accessFlags := 26, nameIndex := 65, descriptorIndex := 62, attributes := #[] }, { accessFlags := 24, nameIndex := 430, descriptorIndex := 62, attributes := #[] }, { accessFlags := 4120, nameIndex := 46, descriptorIndex := 47, attributes := #[] }])
  fields := #[{ name := "HI_BYTE_SHIFT", type := .int, accessFlags := 26, slot := 0, constantValue := 0 }, { name := "LO_BYTE_SHIFT", type := .int, accessFlags := 26, slot := 1, constantValue := 0 }, { name := "MAX_LENGTH", type := .int, accessFlags := 24, slot := 2, constantValue := 0 }, { name := "$assertionsDisabled", type := .boolean, accessFlags := 4120, slot := 3, constantValue := 0 }]
  methods := #[k8m0, k8m1, k8m2, k8m3]
  instanceTypes := #[]
  staticTypes := #[.int, .int, .int, .boolean]
  resolved := Array.replicate 635 none
  statics := none }

def pool9 : Array CpInfo := pool [(1, .methodref 2 3), (0, .class_ 4), (0, .nameAndType 5 6), (0, u "java/lang/Object"), (0, u "<init>"), (0, u "()V"), (0, .class_ 8), (0, u "java/lang/Record")] 13

def k9c0 : Code := { maxStack := 1, maxLocals := 1, code := jdk_30_method_1_code, exceptionTable := #[], attributes := #[] }
def k9m0 : Method := { name := "<init>", desc := "()V", sig := { parameters := [], returnType := none }, accessFlags := 4, code := some k9c0 }
/-- java/lang/Record -/
def k9 : Class := { plain "java/lang/Record" (some 0) with
  accessFlags := 1057
  interfaces := #[]
  cf := some (fileOf pool9 7 #[] #[{ accessFlags := 4, nameIndex := 5, descriptorIndex := 6, attributes := #[] }] 1057 2 #[] #[])
  fields := #[]
  methods := #[k9m0]
  instanceTypes := #[]
  staticTypes := #[]
  resolved := Array.replicate 22 none
  statics := none }

def pool10 : Array CpInfo := pool [(1, .methodref 2 3), (0, .class_ 4), (0, .nameAndType 5 6), (0, u "java/lang/Record"), (0, u "<init>"), (0, u "()V"), (0, .string 8), (0, u "text"), (0, .methodref 10 11), (0, .class_ 12), (0, .nameAndType 13 14), (0, u "java/util/Objects"), (0, u "requireNonNull"), (0, u "(Ljava/lang/Object;Ljava/lang/String;)Ljava/lang/Object;"), (0, .methodref 16 17), (0, .class_ 18), (0, .nameAndType 19 20), (0, u "com/example/ringstead/ringstead/store/Key"), (0, u "utf8Length"), (0, u "(Ljava/lang/String;)I"), (0, .methodref 16 22), (0, .nameAndType 23 24), (0, u "checkLength"), (0, u "(I)V"), (0, .fieldref 16 26), (0, .nameAndType 8 27), (0, u "Ljava/lang/String;"), (4, .class_ 33), (0, u "java/lang/String"), (11, u "(Ljava/lang/String;)V"), (49, .methodref 32 96), (0, .nameAndType 97 98), (0, u "equals"), (0, u "(Ljava/lang/Object;)Z"), (3, u "()I"), (4, .methodref 32 108), (0, .nameAndType 109 102), (0, u "length"), (0, .methodref 32 111), (0, .nameAndType 112 113), (0, u "charAt"), (0, u "(I)C"), (22, u "MAX_BYTES"), (0, u "I")] 36

def k10c0 : Code := { maxStack := 2, maxLocals := 2, code := prog_110_method_1_code, exceptionTable := #[], attributes := #[] }
def k10m0 : Method := { name := "<init>", desc := "(Ljava/lang/String;)V", sig := { parameters := [(.object "java/lang/String")], returnType := none }, accessFlags := 1, code := some k10c0 }
def k10c1 : Code := { maxStack := 2, maxLocals := 3, code := prog_110_method_3_code, exceptionTable := #[], attributes := #[] }
def k10m1 : Method := { name := "equals", desc := "(Ljava/lang/Object;)Z", sig := { parameters := [(.object "java/lang/Object")], returnType := some .boolean }, accessFlags := 1, code := some k10c1 }
def k10c2 : Code := { maxStack := 3, maxLocals := 4, code := prog_110_method_6_code, exceptionTable := #[], attributes := #[] }
def k10m2 : Method := { name := "utf8Length", desc := "(Ljava/lang/String;)I", sig := { parameters := [(.object "java/lang/String")], returnType := some .int }, accessFlags := 10, code := some k10c2 }
def k10c3 : Code := { maxStack := 3, maxLocals := 1, code := prog_110_method_8_code, exceptionTable := #[], attributes := #[] }
def k10m3 : Method := { name := "checkLength", desc := "(I)V", sig := { parameters := [.int], returnType := none }, accessFlags := 10, code := some k10c3 }
/-- com/example/ringstead/ringstead/store/Key -/
def k10 : Class := { plain "com/example/ringstead/ringstead/store/Key" (some 9) with
  accessFlags := 49
  interfaces := #[]
  cf := some (fileOf pool10 16 #[] #[{ accessFlags := 1, nameIndex := 5, descriptorIndex := 45, attributes := #[] }, { accessFlags := 1, nameIndex := 97, descriptorIndex := 98, attributes := #[] }, { accessFlags := 10, nameIndex := 19, descriptorIndex := 20, attributes := #[] }, { accessFlags := 10, nameIndex := 23, descriptorIndex := 24, attributes := #[] }] 49 2 #[] #[{ accessFlags := 18, nameIndex := 8, descriptorIndex := 27, attributes := #[] }, { accessFlags := 25, nameIndex := 136, descriptorIndex := 137, attributes := #[] }])
  fields := #[{ name := "text", type := (.object "java/lang/String"), accessFlags := 18, slot := 0, constantValue := 0 }, { name := "MAX_BYTES", type := .int, accessFlags := 25, slot := 0, constantValue := 0 }]
  methods := #[k10m0, k10m1, k10m2, k10m3]
  instanceTypes := #[(.object "java/lang/String")]
  staticTypes := #[.int]
  resolved := Array.replicate 174 none
  statics := none }

def pool11 : Array CpInfo := pool [(2, .class_ 4), (1, u "java/lang/Object"), (0, u "<init>"), (0, u "()V"), (35, .class_ 44), (1, u "java/util/Objects"), (0, u "requireNonNull"), (48, u "(Ljava/lang/Object;Ljava/lang/String;)Ljava/lang/Object;")] 89

def k11m0 : Method := { name := "<init>", desc := "()V", sig := { parameters := [], returnType := none }, accessFlags := 2, code := none }
def k11c1 : Code := { maxStack := 3, maxLocals := 2, code := jdk_31_method_11_code, exceptionTable := #[], attributes := #[] }
def k11m1 : Method := { name := "requireNonNull", desc := "(Ljava/lang/Object;Ljava/lang/String;)Ljava/lang/Object;", sig := { parameters := [(.object "java/lang/Object"), (.object "java/lang/String")], returnType := some (.object "java/lang/Object") }, accessFlags := 9, code := some k11c1 }
/-- java/util/Objects -/
def k11 : Class := { plain "java/util/Objects" (some 0) with
  accessFlags := 49
  interfaces := #[]
  cf := some (fileOf pool11 42 #[] #[{ accessFlags := 2, nameIndex := 5, descriptorIndex := 6, attributes := #[] }, { accessFlags := 9, nameIndex := 45, descriptorIndex := 94, attributes := #[] }] 49 2 #[] #[])
  fields := #[]
  methods := #[k11m0, k11m1]
  instanceTypes := #[]
  staticTypes := #[]
  resolved := Array.replicate 184 none
  statics := none }

def pool12 : Array CpInfo := pool [(1, .class_ 2), (0, u "java/lang/String"), (1, .class_ 6), (1, u "java/lang/Object"), (0, u "<init>"), (0, u "()V"), (0, .methodref 1 10), (0, .nameAndType 11 12), (0, u "checkIndex"), (0, u "(II)V"), (1, .class_ 16), (1, u "java/lang/StringLatin1"), (36, u "([BI)C"), (67, u "$assertionsDisabled"), (0, u "Z"), (98, .class_ 223), (1, u "java/lang/StringLatin1$LinesSpliterator"), (28, u "charAt"), (28, u "equals"), (0, u "([B[B)Z"), (107, .class_ 391), (0, u "java/lang/StringLatin1$CharsSpliterator")] 3

def k12m0 : Method := { name := "<init>", desc := "()V", sig := { parameters := [], returnType := none }, accessFlags := 0, code := none }
def k12c1 : Code := { maxStack := 2, maxLocals := 2, code := jdk_43_method_2_code, exceptionTable := #[], attributes := #[] }
def k12m1 : Method := { name := "charAt", desc := "([BI)C", sig := { parameters := [(.array .byte), .int], returnType := some .char }, accessFlags := 9, code := some k12c1 }
def k12c2 : Code := { maxStack := 3, maxLocals := 3, code := jdk_43_method_13_code, exceptionTable := #[], attributes := #[] }
def k12m2 : Method := { name := "equals", desc := "([B[B)Z", sig := { parameters := [(.array .byte), (.array .byte)], returnType := some .boolean }, accessFlags := 9, code := some k12c2 }
/-- java/lang/StringLatin1 -/
def k12 : Class := { plain "java/lang/StringLatin1" (some 0) with
  accessFlags := 48
  interfaces := #[]
  cf := some (fileOf pool12 14 #[.nestMembers #[390, 221]] #[{ accessFlags := 0, nameIndex := 7, descriptorIndex := 8, attributes := #[] }, { accessFlags := 9, nameIndex := 252, descriptorIndex := 53, attributes := #[] }, { accessFlags := 9, nameIndex := 281, descriptorIndex := 282, attributes := #[] }] 48 4 #[] #[{ accessFlags := 4120, nameIndex := 121, descriptorIndex := 122, attributes := #[] }])
  fields := #[{ name := "$assertionsDisabled", type := .boolean, accessFlags := 4120, slot := 0, constantValue := 0 }]
  methods := #[k12m0, k12m1, k12m2]
  instanceTypes := #[]
  staticTypes := #[.boolean]
  resolved := Array.replicate 395 none
  statics := none }

def pool13 : Array CpInfo := pool [(2, .class_ 4), (1, u "java/lang/Object"), (0, u "<init>"), (0, u "()V"), (17, .class_ 26), (1, u "jdk/internal/util/Preconditions"), (6, u "checkIndex"), (21, .class_ 56), (0, u "jdk/internal/util/Preconditions$4"), (57, .class_ 115), (0, u "jdk/internal/util/Preconditions$1"), (7, u "SIOOBE_FORMATTER"), (0, u "Ljava/util/function/BiFunction;"), (0, .class_ 126), (0, u "jdk/internal/util/Preconditions$2"), (3, u "AIOOBE_FORMATTER"), (0, .class_ 132), (0, u "jdk/internal/util/Preconditions$3"), (3, u "IOOBE_FORMATTER"), (41, u "(IILjava/util/function/BiFunction;)I")] 15

def k13m0 : Method := { name := "<init>", desc := "()V", sig := { parameters := [], returnType := none }, accessFlags := 1, code := none }
def k13c1 : Code := { maxStack := 3, maxLocals := 3, code := jdk_41_method_11_code, exceptionTable := #[], attributes := #[] }
def k13m1 : Method := { name := "checkIndex", desc := "(IILjava/util/function/BiFunction;)I", sig := { parameters := [.int, .int, (.object "java/util/function/BiFunction")], returnType := some .int }, accessFlags := 9, code := some k13c1 }
/-- jdk/internal/util/Preconditions -/
def k13 : Class := { plain "jdk/internal/util/Preconditions" (some 0) with
  accessFlags := 33
  interfaces := #[]
  cf := some (fileOf pool13 24 #[.nestMembers #[55, 131, 125, 114]] #[{ accessFlags := 1, nameIndex := 5, descriptorIndex := 6, attributes := #[] }, { accessFlags := 9, nameIndex := 33, descriptorIndex := 178, attributes := #[] }] 33 2 #[] #[{ accessFlags := 25, nameIndex := 123, descriptorIndex := 124, attributes := #[] }, { accessFlags := 25, nameIndex := 130, descriptorIndex := 124, attributes := #[] }, { accessFlags := 25, nameIndex := 136, descriptorIndex := 124, attributes := #[] }])
  fields := #[{ name := "SIOOBE_FORMATTER", type := (.object "java/util/function/BiFunction"), accessFlags := 25, slot := 0, constantValue := 0 }, { name := "AIOOBE_FORMATTER", type := (.object "java/util/function/BiFunction"), accessFlags := 25, slot := 1, constantValue := 0 }, { name := "IOOBE_FORMATTER", type := (.object "java/util/function/BiFunction"), accessFlags := 25, slot := 2, constantValue := 0 }]
  methods := #[k13m0, k13m1]
  instanceTypes := #[]
  staticTypes := #[(.object "java/util/function/BiFunction"), (.object "java/util/function/BiFunction"), (.object "java/util/function/BiFunction")]
  resolved := Array.replicate 194 none
  statics := some 1 }

def pool14 : Array CpInfo := pool [(9, u "<init>"), (6, .class_ 18), (1, u "java/lang/Object"), (0, u "()V"), (1, .class_ 23), (1, u "jdk/internal/util/ArraysSupport"), (0, u "LOG2_ARRAY_LONG_INDEX_SCALE"), (0, u "I"), (2, u "U"), (0, u "Ljdk/internal/misc/Unsafe;"), (8, u "BIG_ENDIAN"), (0, u "Z"), (8, u "LOG2_BYTE_BIT_SIZE"), (4, u "LOG2_ARRAY_INT_INDEX_SCALE"), (54, u "JLA"), (0, u "Ljdk/internal/access/JavaLangAccess;"), (11, u "LOG2_ARRAY_BOOLEAN_INDEX_SCALE"), (9, u "LOG2_ARRAY_BYTE_INDEX_SCALE"), (5, u "LOG2_ARRAY_CHAR_INDEX_SCALE"), (5, u "LOG2_ARRAY_SHORT_INDEX_SCALE"), (18, u "LOG2_ARRAY_FLOAT_INDEX_SCALE"), (24, u "LOG2_ARRAY_DOUBLE_INDEX_SCALE"), (89, u "T_BOOLEAN"), (2, u "T_CHAR"), (1, u "T_FLOAT"), (1, u "T_DOUBLE"), (1, u "T_BYTE"), (1, u "T_SHORT"), (1, u "T_INT"), (1, u "T_LONG"), (1, u "SOFT_MAX_ARRAY_LENGTH")] 83

def k14m0 : Method := { name := "<init>", desc := "()V", sig := { parameters := [], returnType := none }, accessFlags := 2, code := none }
/-- jdk/internal/util/ArraysSupport -/
def k14 : Class := { plain "jdk/internal/util/ArraysSupport" (some 0) with
  accessFlags := 33
  interfaces := #[]
  cf := some (fileOf pool14 21 #[] #[{ accessFlags := 2, nameIndex := 9, descriptorIndex := 19, attributes := #[] }] 33 16 #[] #[{ accessFlags := 24, nameIndex := 28, descriptorIndex := 29, attributes := #[] }, { accessFlags := 26, nameIndex := 38, descriptorIndex := 39, attributes := #[] }, { accessFlags := 25, nameIndex := 121, descriptorIndex := 25, attributes := #[] }, { accessFlags := 25, nameIndex := 131, descriptorIndex := 25, attributes := #[] }, { accessFlags := 25, nameIndex := 137, descriptorIndex := 25, attributes := #[] }, { accessFlags := 25, nameIndex := 143, descriptorIndex := 25, attributes := #[] }, { accessFlags := 25, nameIndex := 53, descriptorIndex := 25, attributes := #[] }, { accessFlags := 25, nameIndex := 24, descriptorIndex := 25, attributes := #[] }, { accessFlags := 25, nameIndex := 162, descriptorIndex := 25, attributes := #[] }, { accessFlags := 25, nameIndex := 187, descriptorIndex := 25, attributes := #[] }, { accessFlags := 26, nameIndex := 48, descriptorIndex := 25, attributes := #[] }, { accessFlags := 25, nameIndex := 277, descriptorIndex := 25, attributes := #[] }, { accessFlags := 25, nameIndex := 280, descriptorIndex := 25, attributes := #[] }, { accessFlags := 25, nameIndex := 282, descriptorIndex := 25, attributes := #[] }, { accessFlags := 25, nameIndex := 284, descriptorIndex := 25, attributes := #[] }, { accessFlags := 25, nameIndex := 286, descriptorIndex := 25, attributes := #[] }, { accessFlags := 25, nameIndex := 288, descriptorIndex := 25, attributes := #[] }, { accessFlags := 25, nameIndex := 290, descriptorIndex := 25, attributes := #[] }, { accessFlags := 25, nameIndex := 292, descriptorIndex := 25, attributes := #[] }, { accessFlags := 26, nameIndex := 108, descriptorIndex := 109, attributes := #[] }, { accessFlags := 25, nameIndex := 294, descriptorIndex := 25, attributes := #[] }])
  fields := #[{ name := "U", type := (.object "jdk/internal/misc/Unsafe"), accessFlags := 24, slot := 0, constantValue := 0 }, { name := "BIG_ENDIAN", type := .boolean, accessFlags := 26, slot := 1, constantValue := 0 }, { name := "LOG2_ARRAY_BOOLEAN_INDEX_SCALE", type := .int, accessFlags := 25, slot := 2, constantValue := 0 }, { name := "LOG2_ARRAY_BYTE_INDEX_SCALE", type := .int, accessFlags := 25, slot := 3, constantValue := 0 }, { name := "LOG2_ARRAY_CHAR_INDEX_SCALE", type := .int, accessFlags := 25, slot := 4, constantValue := 0 }, { name := "LOG2_ARRAY_SHORT_INDEX_SCALE", type := .int, accessFlags := 25, slot := 5, constantValue := 0 }, { name := "LOG2_ARRAY_INT_INDEX_SCALE", type := .int, accessFlags := 25, slot := 6, constantValue := 0 }, { name := "LOG2_ARRAY_LONG_INDEX_SCALE", type := .int, accessFlags := 25, slot := 7, constantValue := 0 }, { name := "LOG2_ARRAY_FLOAT_INDEX_SCALE", type := .int, accessFlags := 25, slot := 8, constantValue := 0 }, { name := "LOG2_ARRAY_DOUBLE_INDEX_SCALE", type := .int, accessFlags := 25, slot := 9, constantValue := 0 }, { name := "LOG2_BYTE_BIT_SIZE", type := .int, accessFlags := 26, slot := 10, constantValue := 0 }, { name := "T_BOOLEAN", type := .int, accessFlags := 25, slot := 11, constantValue := 0 }, { name := "T_CHAR", type := .int, accessFlags := 25, slot := 12, constantValue := 0 }, { name := "T_FLOAT", type := .int, accessFlags := 25, slot := 13, constantValue := 0 }, { name := "T_DOUBLE", type := .int, accessFlags := 25, slot := 14, constantValue := 0 }, { name := "T_BYTE", type := .int, accessFlags := 25, slot := 15, constantValue := 0 }, { name := "T_SHORT", type := .int, accessFlags := 25, slot := 16, constantValue := 0 }, { name := "T_INT", type := .int, accessFlags := 25, slot := 17, constantValue := 0 }, { name := "T_LONG", type := .int, accessFlags := 25, slot := 18, constantValue := 0 }, { name := "JLA", type := (.object "jdk/internal/access/JavaLangAccess"), accessFlags := 26, slot := 19, constantValue := 0 }, { name := "SOFT_MAX_ARRAY_LENGTH", type := .int, accessFlags := 25, slot := 20, constantValue := 0 }]
  methods := #[k14m0]
  instanceTypes := #[]
  staticTypes := #[(.object "jdk/internal/misc/Unsafe"), .boolean, .int, .int, .int, .int, .int, .int, .int, .int, .int, .int, .int, .int, .int, .int, .int, .int, .int, (.object "jdk/internal/access/JavaLangAccess"), .int]
  resolved := Array.replicate 378 none
  statics := none }

def pool15 : Array CpInfo := pool [(1, u "java/lang/Cloneable"), (0, .class_ 1), (0, u "java/lang/Object"), (0, .class_ 3)] 3

/-- java/lang/Cloneable -/
def k15 : Class := { plain "java/lang/Cloneable" (some 0) with
  accessFlags := 1537
  interfaces := #[]
  cf := some (fileOf pool15 2 #[] #[] 1537 4 #[] #[])
  fields := #[]
  methods := #[]
  instanceTypes := #[]
  staticTypes := #[]
  resolved := Array.replicate 8 none
  statics := none }

/-- the primitive byte -/
def k16 : Class := { plain "byte" none with kind := .primitive 'B', accessFlags := 0x411 }
/-- [B -/
def k17 : Class := { plain "[B" (some 0) with kind := .array 16 .byte, interfaces := #[15, 2], accessFlags := 1041 }

/-- the primitive char -/
def k18 : Class := { plain "char" none with kind := .primitive 'C', accessFlags := 0x411 }
/-- [C -/
def k19 : Class := { plain "[C" (some 0) with kind := .array 18 .char, interfaces := #[15, 2], accessFlags := 1041 }

/-- the primitive int -/
def k20 : Class := { plain "int" none with kind := .primitive 'I', accessFlags := 0x411 }
/-- [I -/
def k21 : Class := { plain "[I" (some 0) with kind := .array 20 .int, interfaces := #[15, 2], accessFlags := 1041 }

def heap : Heap := #[{ cls := 7, slots := #[.long 0, .int 1, .null, .int 0, .null, .int 0, .int 0], vm := .statics 7 },
  { cls := 13, slots := #[.null, .null, .null], vm := .statics 13 }]
def classes : Array Class := #[k0, k1, k2, k3, k4, k5, k6, k7, k8, k9, k10, k11, k12, k13, k14, k15, k16, k17, k18, k19, k20, k21]
def interned : List (Array UInt16 × Addr) := []
def slotsUsed : Nat := 10
def theMethod : MethodId := ⟨1, 2⟩
def args0 : Array Value := #[.int 1, .int 2, .int 3]
def aboutOver (below : List Frame) : State where
  vm := { classes := classes, interned := interned.toArray }
  heap := heap
  slotsUsed := slotsUsed
  threads := #[{ frames := .invoking theMethod args0 :: below }]
def below0 : List Frame := [.native { method := ⟨0, 0⟩, args := #[] }]
def about1 : State := aboutOver below0
def p0 : Program := .bare "" "" ""
def e0 : Env := launch0.env 0 0 0
theorem w_frames : about1.frames = Frame.invoking theMethod args0 :: below0 := rfl
set_option maxRecDepth 65536 in
theorem w_args : argsFit about1.vm theMethod args0 = true := by decide +kernel
set_option maxRecDepth 65536 in
theorem w_heap : heapFits about1 = true := by decide +kernel
set_option maxRecDepth 65536 in
theorem w_runnable : about1.curStatus? = some .runnable := by decide +kernel
set_option maxRecDepth 65536 in
theorem w_alone : about1.alone = true := by decide +kernel
set_option maxRecDepth 65536 in
theorem w_named : about1.methodNamed? x = some theMethod := by decide +kernel
set_option maxRecDepth 65536 in
theorem w_hears : about1.hears theMethod below0 = true := by decide +kernel
set_option maxRecDepth 65536 in
theorem w_ripe : about1.ripe theMethod args0 below0 = true := by decide +kernel
theorem w_running : about1.status = .running := rfl
set_option maxRecDepth 65536 in
theorem w_room : about1.hasRoom e0.platform room_1 = true :=
  launch0.hasRoom_least _ room_1 (by decide +kernel) (by decide +kernel) (by decide +kernel) (by decide +kernel) (by decide +kernel) (by decide +kernel)
theorem allAtoms_all (ts : List Jvm.Cond) (a : Array Jvm.Value) (st : Jvm.State) : (allAtoms ts).before a st = ts.all (fun c => c.before a st) := by
  induction ts with
  | nil => rfl
  | cons c t ih =>
    show (Jvm.Cond.and c (allAtoms t)).before a st = _
    rw [Jvm.Cond.before_and, ih, List.all_cons]
def words1 : List Jvm.Cond := Jvm.Cond.code x code maxLocals ret :: tables_1
/-- a 'code' word, met by the world's own term for the bytes: nothing is compared byte by byte -/
theorem code_word {y : MethodName} {bytes : ByteArray} {mx : Nat} {rt : Option FieldType} {a : Array Value} {s : State} {m : MethodId} {meth : Method} {c : Code} (h1 : s.methodNamed? y = some m) (h2 : s.vm.method? m = some meth) (h3 : meth.code = some c) (h4 : c.code = bytes)
    (h5 : (c.maxLocals == mx && c.exceptionTable.isEmpty && decide (c.maxStack ≤ mostOperands) && decide (meth.sig.returnType = rt) && !meth.locks && decide (parseMethodDescriptor y.desc = some meth.sig)) = true) : (Jvm.Cond.code y bytes mx rt).before a s = true := by
  simp only [Bool.and_eq_true, beq_iff_eq, Bool.not_eq_true', decide_eq_true_eq] at h5
  obtain ⟨⟨⟨⟨⟨g1, g2⟩, g3⟩, g4⟩, g5⟩, g6⟩ := h5
  simp [Cond.before, Cond.holds, Cond.value, h1, h2, h3, h4, g1, g2, g3, g4, g5, g6]
def isCode : Jvm.Cond → Bool
  | .code _ _ _ _ => true
  | _ => false
theorem all_split {L : List Jvm.Cond} {P : Jvm.Cond → Bool} (h1 : L.all (fun c => isCode c || P c) = true) (h2 : ∀ c ∈ L.filter isCode, P c = true) : L.all P = true := by
  refine List.all_eq_true.mpr fun c hc => ?_
  have h := List.all_eq_true.mp h1 c hc
  rcases Bool.eq_false_or_eq_true (isCode c) with hi | hi
  · exact h2 c (List.mem_filter.mpr ⟨hc, hi⟩)
  · simpa [hi] using h
set_option maxRecDepth 65536 in
theorem w_c0 : (Jvm.Cond.code x code maxLocals ret).before args0 about1 = true := code_word (m := ⟨1, 2⟩) (meth := k1m2) (c := k1c2) (by decide +kernel) rfl rfl rfl (by decide +kernel)
set_option maxRecDepth 65536 in
theorem w_c1 : (Jvm.Cond.code ({ cls := "com/example/ringstead/ringstead/store/KeyEqualsPinLaw", name := "chars", desc := "(ICCC)[C" } : Jvm.MethodName) method_2_code (5 : Nat) (Option.some (Jvm.ClassFile.FieldType.array Jvm.ClassFile.FieldType.char))).before args0 about1 = true := code_word (m := ⟨1, 1⟩) (meth := k1m1) (c := k1c1) (by decide +kernel) rfl rfl rfl (by decide +kernel)
set_option maxRecDepth 65536 in
theorem w_c2 : (Jvm.Cond.code ({ cls := "java/lang/String", name := "<init>", desc := "([C)V" } : Jvm.MethodName) jdk_42_method_3_code (2 : Nat) (Option.none : Option Jvm.ClassFile.FieldType)).before args0 about1 = true := code_word (m := ⟨7, 1⟩) (meth := k7m1) (c := k7c1) (by decide +kernel) rfl rfl rfl (by decide +kernel)
set_option maxRecDepth 65536 in
theorem w_c3 : (Jvm.Cond.code ({ cls := "java/lang/String", name := "<init>", desc := "([CIILjava/lang/Void;)V" } : Jvm.MethodName) jdk_42_method_149_code (6 : Nat) (Option.none : Option Jvm.ClassFile.FieldType)).before args0 about1 = true := code_word (m := ⟨7, 5⟩) (meth := k7m5) (c := k7c5) (by decide +kernel) rfl rfl rfl (by decide +kernel)
set_option maxRecDepth 65536 in
theorem w_c4 : (Jvm.Cond.code ({ cls := "java/lang/Object", name := "<init>", desc := "()V" } : Jvm.MethodName) object_method_1_code (1 : Nat) (Option.none : Option Jvm.ClassFile.FieldType)).before args0 about1 = true := code_word (m := ⟨0, 0⟩) (meth := k0m0) (c := k0c0) (by decide +kernel) rfl rfl rfl (by decide +kernel)
set_option maxRecDepth 65536 in
theorem w_c5 : (Jvm.Cond.code ({ cls := "java/lang/StringUTF16", name := "compress", desc := "([CII)[B" } : Jvm.MethodName) jdk_52_method_16_code (6 : Nat) (Option.some (Jvm.ClassFile.FieldType.array Jvm.ClassFile.FieldType.byte))).before args0 about1 = true := code_word (m := ⟨8, 2⟩) (meth := k8m2) (c := k8c2) (by decide +kernel) rfl rfl rfl (by decide +kernel)
set_option maxRecDepth 65536 in
theorem w_c6 : (Jvm.Cond.code ({ cls := "java/lang/StringUTF16", name := "compress", desc := "([CI[BII)I" } : Jvm.MethodName) jdk_52_method_21_code (7 : Nat) (Option.some Jvm.ClassFile.FieldType.int)).before args0 about1 = true := code_word (m := ⟨8, 3⟩) (meth := k8m3) (c := k8c3) (by decide +kernel) rfl rfl rfl (by decide +kernel)
set_option maxRecDepth 65536 in
theorem w_c7 : (Jvm.Cond.code ({ cls := "java/lang/StringUTF16", name := "coderFromArrayLen", desc := "([BI)B" } : Jvm.MethodName) jdk_52_method_15_code (2 : Nat) (Option.some Jvm.ClassFile.FieldType.byte)).before args0 about1 = true := code_word (m := ⟨8, 1⟩) (meth := k8m1) (c := k8c1) (by decide +kernel) rfl rfl rfl (by decide +kernel)
set_option maxRecDepth 65536 in
theorem w_c8 : (Jvm.Cond.code ({ cls := "com/example/ringstead/ringstead/store/Key", name := "<init>", desc := "(Ljava/lang/String;)V" } : Jvm.MethodName) prog_110_method_1_code (2 : Nat) (Option.none : Option Jvm.ClassFile.FieldType)).before args0 about1 = true := code_word (m := ⟨10, 0⟩) (meth := k10m0) (c := k10c0) (by decide +kernel) rfl rfl rfl (by decide +kernel)
set_option maxRecDepth 65536 in
theorem w_c9 : (Jvm.Cond.code ({ cls := "java/lang/Record", name := "<init>", desc := "()V" } : Jvm.MethodName) jdk_30_method_1_code (1 : Nat) (Option.none : Option Jvm.ClassFile.FieldType)).before args0 about1 = true := code_word (m := ⟨9, 0⟩) (meth := k9m0) (c := k9c0) (by decide +kernel) rfl rfl rfl (by decide +kernel)
set_option maxRecDepth 65536 in
theorem w_c10 : (Jvm.Cond.code ({ cls := "java/util/Objects", name := "requireNonNull", desc := "(Ljava/lang/Object;Ljava/lang/String;)Ljava/lang/Object;" } : Jvm.MethodName) jdk_31_method_11_code (2 : Nat) (Option.some (Jvm.ClassFile.FieldType.object "java/lang/Object"))).before args0 about1 = true := code_word (m := ⟨11, 1⟩) (meth := k11m1) (c := k11c1) (by decide +kernel) rfl rfl rfl (by decide +kernel)
set_option maxRecDepth 65536 in
theorem w_c11 : (Jvm.Cond.code ({ cls := "com/example/ringstead/ringstead/store/Key", name := "utf8Length", desc := "(Ljava/lang/String;)I" } : Jvm.MethodName) prog_110_method_6_code (4 : Nat) (Option.some Jvm.ClassFile.FieldType.int)).before args0 about1 = true := code_word (m := ⟨10, 2⟩) (meth := k10m2) (c := k10c2) (by decide +kernel) rfl rfl rfl (by decide +kernel)
set_option maxRecDepth 65536 in
theorem w_c12 : (Jvm.Cond.code ({ cls := "java/lang/String", name := "length", desc := "()I" } : Jvm.MethodName) jdk_42_method_54_code (1 : Nat) (Option.some Jvm.ClassFile.FieldType.int)).before args0 about1 = true := code_word (m := ⟨7, 2⟩) (meth := k7m2) (c := k7c2) (by decide +kernel) rfl rfl rfl (by decide +kernel)
set_option maxRecDepth 65536 in
theorem w_c13 : (Jvm.Cond.code ({ cls := "java/lang/String", name := "coder", desc := "()B" } : Jvm.MethodName) jdk_42_method_152_code (1 : Nat) (Option.some Jvm.ClassFile.FieldType.byte)).before args0 about1 = true := code_word (m := ⟨7, 6⟩) (meth := k7m6) (c := k7c6) (by decide +kernel) rfl rfl rfl (by decide +kernel)
set_option maxRecDepth 65536 in
theorem w_c14 : (Jvm.Cond.code ({ cls := "java/lang/String", name := "charAt", desc := "(I)C" } : Jvm.MethodName) jdk_42_method_56_code (2 : Nat) (Option.some Jvm.ClassFile.FieldType.char)).before args0 about1 = true := code_word (m := ⟨7, 3⟩) (meth := k7m3) (c := k7c3) (by decide +kernel) rfl rfl rfl (by decide +kernel)
set_option maxRecDepth 65536 in
theorem w_c15 : (Jvm.Cond.code ({ cls := "java/lang/String", name := "isLatin1", desc := "()Z" } : Jvm.MethodName) jdk_42_method_154_code (1 : Nat) (Option.some Jvm.ClassFile.FieldType.boolean)).before args0 about1 = true := code_word (m := ⟨7, 7⟩) (meth := k7m7) (c := k7c7) (by decide +kernel) rfl rfl rfl (by decide +kernel)
set_option maxRecDepth 65536 in
theorem w_c16 : (Jvm.Cond.code ({ cls := "java/lang/StringLatin1", name := "charAt", desc := "([BI)C" } : Jvm.MethodName) jdk_43_method_2_code (2 : Nat) (Option.some Jvm.ClassFile.FieldType.char)).before args0 about1 = true := code_word (m := ⟨12, 1⟩) (meth := k12m1) (c := k12c1) (by decide +kernel) rfl rfl rfl (by decide +kernel)
set_option maxRecDepth 65536 in
theorem w_c17 : (Jvm.Cond.code ({ cls := "java/lang/String", name := "checkIndex", desc := "(II)V" } : Jvm.MethodName) jdk_42_method_155_code (2 : Nat) (Option.none : Option Jvm.ClassFile.FieldType)).before args0 about1 = true := code_word (m := ⟨7, 8⟩) (meth := k7m8) (c := k7c8) (by decide +kernel) rfl rfl rfl (by decide +kernel)
set_option maxRecDepth 65536 in
theorem w_c18 : (Jvm.Cond.code ({ cls := "jdk/internal/util/Preconditions", name := "checkIndex", desc := "(IILjava/util/function/BiFunction;)I" } : Jvm.MethodName) jdk_41_method_11_code (3 : Nat) (Option.some Jvm.ClassFile.FieldType.int)).before args0 about1 = true := code_word (m := ⟨13, 1⟩) (meth := k13m1) (c := k13c1) (by decide +kernel) rfl rfl rfl (by decide +kernel)
set_option maxRecDepth 65536 in
theorem w_c19 : (Jvm.Cond.code ({ cls := "com/example/ringstead/ringstead/store/Key", name := "checkLength", desc := "(I)V" } : Jvm.MethodName) prog_110_method_8_code (1 : Nat) (Option.none : Option Jvm.ClassFile.FieldType)).before args0 about1 = true := code_word (m := ⟨10, 3⟩) (meth := k10m3) (c := k10c3) (by decide +kernel) rfl rfl rfl (by decide +kernel)
set_option maxRecDepth 65536 in
theorem w_c20 : (Jvm.Cond.code ({ cls := "com/example/ringstead/ringstead/store/Key", name := "equals", desc := "(Ljava/lang/Object;)Z" } : Jvm.MethodName) prog_110_method_3_code (3 : Nat) (Option.some Jvm.ClassFile.FieldType.boolean)).before args0 about1 = true := code_word (m := ⟨10, 1⟩) (meth := k10m1) (c := k10c1) (by decide +kernel) rfl rfl rfl (by decide +kernel)
set_option maxRecDepth 65536 in
theorem w_c21 : (Jvm.Cond.code ({ cls := "java/lang/String", name := "equals", desc := "(Ljava/lang/Object;)Z" } : Jvm.MethodName) jdk_42_method_66_code (3 : Nat) (Option.some Jvm.ClassFile.FieldType.boolean)).before args0 about1 = true := code_word (m := ⟨7, 4⟩) (meth := k7m4) (c := k7c4) (by decide +kernel) rfl rfl rfl (by decide +kernel)
set_option maxRecDepth 65536 in
theorem w_c22 : (Jvm.Cond.code ({ cls := "java/lang/StringLatin1", name := "equals", desc := "([B[B)Z" } : Jvm.MethodName) jdk_43_method_13_code (3 : Nat) (Option.some Jvm.ClassFile.FieldType.boolean)).before args0 about1 = true := code_word (m := ⟨12, 2⟩) (meth := k12m2) (c := k12c2) (by decide +kernel) rfl rfl rfl (by decide +kernel)
def codes1 : List Jvm.Cond := [Jvm.Cond.code x code maxLocals ret, Jvm.Cond.code ({ cls := "com/example/ringstead/ringstead/store/KeyEqualsPinLaw", name := "chars", desc := "(ICCC)[C" } : Jvm.MethodName) method_2_code (5 : Nat) (Option.some (Jvm.ClassFile.FieldType.array Jvm.ClassFile.FieldType.char)), Jvm.Cond.code ({ cls := "java/lang/String", name := "<init>", desc := "([C)V" } : Jvm.MethodName) jdk_42_method_3_code (2 : Nat) (Option.none : Option Jvm.ClassFile.FieldType), Jvm.Cond.code ({ cls := "java/lang/String", name := "<init>", desc := "([CIILjava/lang/Void;)V" } : Jvm.MethodName) jdk_42_method_149_code (6 : Nat) (Option.none : Option Jvm.ClassFile.FieldType), Jvm.Cond.code ({ cls := "java/lang/Object", name := "<init>", desc := "()V" } : Jvm.MethodName) object_method_1_code (1 : Nat) (Option.none : Option Jvm.ClassFile.FieldType), Jvm.Cond.code ({ cls := "java/lang/StringUTF16", name := "compress", desc := "([CII)[B" } : Jvm.MethodName) jdk_52_method_16_code (6 : Nat) (Option.some (Jvm.ClassFile.FieldType.array Jvm.ClassFile.FieldType.byte)), Jvm.Cond.code ({ cls := "java/lang/StringUTF16", name := "compress", desc := "([CI[BII)I" } : Jvm.MethodName) jdk_52_method_21_code (7 : Nat) (Option.some Jvm.ClassFile.FieldType.int), Jvm.Cond.code ({ cls := "java/lang/StringUTF16", name := "coderFromArrayLen", desc := "([BI)B" } : Jvm.MethodName) jdk_52_method_15_code (2 : Nat) (Option.some Jvm.ClassFile.FieldType.byte), Jvm.Cond.code ({ cls := "com/example/ringstead/ringstead/store/Key", name := "<init>", desc := "(Ljava/lang/String;)V" } : Jvm.MethodName) prog_110_method_1_code (2 : Nat) (Option.none : Option Jvm.ClassFile.FieldType), Jvm.Cond.code ({ cls := "java/lang/Record", name := "<init>", desc := "()V" } : Jvm.MethodName) jdk_30_method_1_code (1 : Nat) (Option.none : Option Jvm.ClassFile.FieldType), Jvm.Cond.code ({ cls := "java/util/Objects", name := "requireNonNull", desc := "(Ljava/lang/Object;Ljava/lang/String;)Ljava/lang/Object;" } : Jvm.MethodName) jdk_31_method_11_code (2 : Nat) (Option.some (Jvm.ClassFile.FieldType.object "java/lang/Object")), Jvm.Cond.code ({ cls := "com/example/ringstead/ringstead/store/Key", name := "utf8Length", desc := "(Ljava/lang/String;)I" } : Jvm.MethodName) prog_110_method_6_code (4 : Nat) (Option.some Jvm.ClassFile.FieldType.int), Jvm.Cond.code ({ cls := "java/lang/String", name := "length", desc := "()I" } : Jvm.MethodName) jdk_42_method_54_code (1 : Nat) (Option.some Jvm.ClassFile.FieldType.int), Jvm.Cond.code ({ cls := "java/lang/String", name := "coder", desc := "()B" } : Jvm.MethodName) jdk_42_method_152_code (1 : Nat) (Option.some Jvm.ClassFile.FieldType.byte), Jvm.Cond.code ({ cls := "java/lang/String", name := "charAt", desc := "(I)C" } : Jvm.MethodName) jdk_42_method_56_code (2 : Nat) (Option.some Jvm.ClassFile.FieldType.char), Jvm.Cond.code ({ cls := "java/lang/String", name := "isLatin1", desc := "()Z" } : Jvm.MethodName) jdk_42_method_154_code (1 : Nat) (Option.some Jvm.ClassFile.FieldType.boolean), Jvm.Cond.code ({ cls := "java/lang/StringLatin1", name := "charAt", desc := "([BI)C" } : Jvm.MethodName) jdk_43_method_2_code (2 : Nat) (Option.some Jvm.ClassFile.FieldType.char), Jvm.Cond.code ({ cls := "java/lang/String", name := "checkIndex", desc := "(II)V" } : Jvm.MethodName) jdk_42_method_155_code (2 : Nat) (Option.none : Option Jvm.ClassFile.FieldType), Jvm.Cond.code ({ cls := "jdk/internal/util/Preconditions", name := "checkIndex", desc := "(IILjava/util/function/BiFunction;)I" } : Jvm.MethodName) jdk_41_method_11_code (3 : Nat) (Option.some Jvm.ClassFile.FieldType.int), Jvm.Cond.code ({ cls := "com/example/ringstead/ringstead/store/Key", name := "checkLength", desc := "(I)V" } : Jvm.MethodName) prog_110_method_8_code (1 : Nat) (Option.none : Option Jvm.ClassFile.FieldType), Jvm.Cond.code ({ cls := "com/example/ringstead/ringstead/store/Key", name := "equals", desc := "(Ljava/lang/Object;)Z" } : Jvm.MethodName) prog_110_method_3_code (3 : Nat) (Option.some Jvm.ClassFile.FieldType.boolean), Jvm.Cond.code ({ cls := "java/lang/String", name := "equals", desc := "(Ljava/lang/Object;)Z" } : Jvm.MethodName) jdk_42_method_66_code (3 : Nat) (Option.some Jvm.ClassFile.FieldType.boolean), Jvm.Cond.code ({ cls := "java/lang/StringLatin1", name := "equals", desc := "([B[B)Z" } : Jvm.MethodName) jdk_43_method_13_code (3 : Nat) (Option.some Jvm.ClassFile.FieldType.boolean)]
set_option maxRecDepth 65536 in
theorem codes_eq : words1.filter isCode = codes1 := rfl
theorem w_codes : ∀ c ∈ words1.filter isCode, c.before args0 about1 = true := by
  rw [codes_eq]
  intro c hc
  simp only [codes1, List.mem_cons, List.not_mem_nil, or_false] at hc
  rcases hc with rfl | rfl | rfl | rfl | rfl | rfl | rfl | rfl | rfl | rfl | rfl | rfl | rfl | rfl | rfl | rfl | rfl | rfl | rfl | rfl | rfl | rfl | rfl
  · exact w_c0
  · exact w_c1
  · exact w_c2
  · exact w_c3
  · exact w_c4
  · exact w_c5
  · exact w_c6
  · exact w_c7
  · exact w_c8
  · exact w_c9
  · exact w_c10
  · exact w_c11
  · exact w_c12
  · exact w_c13
  · exact w_c14
  · exact w_c15
  · exact w_c16
  · exact w_c17
  · exact w_c18
  · exact w_c19
  · exact w_c20
  · exact w_c21
  · exact w_c22
set_option maxRecDepth 65536 in
theorem w_t1 : (words1.take 24).all (fun c => isCode c || c.before args0 about1) = true := by decide +kernel
set_option maxRecDepth 65536 in
theorem w_t2 : ((words1.drop 24).take 24).all (fun c => isCode c || c.before args0 about1) = true := by decide +kernel
set_option maxRecDepth 65536 in
theorem w_t3 : (((words1.drop 24).drop 24).take 24).all (fun c => isCode c || c.before args0 about1) = true := by decide +kernel
set_option maxRecDepth 65536 in
theorem w_t4 : ((((words1.drop 24).drop 24).drop 24).take 24).all (fun c => isCode c || c.before args0 about1) = true := by decide +kernel
set_option maxRecDepth 65536 in
theorem w_t5 : ((((words1.drop 24).drop 24).drop 24).drop 24).all (fun c => isCode c || c.before args0 about1) = true := by decide +kernel
theorem w_tables : (allAtoms (Jvm.Cond.code x code maxLocals ret :: tables_1)).before args0 about1 = true := by
  rw [allAtoms_all]
  show words1.all (fun c => c.before args0 about1) = true
  refine all_split ?_ w_codes
  rw [← List.take_append_drop 24 words1, List.all_append, w_t1, ← List.take_append_drop 24 (words1.drop 24), List.all_append, w_t2, ← List.take_append_drop 24 ((words1.drop 24).drop 24), List.all_append, w_t3, ← List.take_append_drop 24 (((words1.drop 24).drop 24).drop 24), List.all_append, w_t4, w_t5]
  rfl
set_option maxRecDepth 65536 in
theorem w_rest : rest_1_c.before args0 about1 = true := by decide +kernel
set_option maxRecDepth 65536 in
theorem w_case : (Jvm.Cond.and given_1 narrow_1).before args0 about1 = true := by decide +kernel
theorem w_applies : (headSpec (Jvm.Cond.code x code maxLocals ret :: tables_1) room_1).applies x e0.platform about1 = true :=
  (Spec.applies_iff w_frames).mpr ⟨w_running, w_runnable, w_alone, w_named, w_hears, w_ripe, w_room, w_tables⟩
theorem atStart : AtStart classFile x code maxLocals ret World_1 tables_1 room_1 Calls_1 rest_1 Pre_1 launch0 p0 e0 about1 theMethod args0 below0 :=
  ⟨lists_1, trivial, launch0.admits_env _ _ _, launch0.least_env, fairChoices_fair.cas, fairChoices_fair.clock, w_frames, w_args, w_heap, w_applies, trivial, w_rest, w_case⟩
end start1
theorem witness_1 : WitnessClaimed_1 := ⟨start1.p0, start1.e0, start1.about1, start1.theMethod, start1.args0, start1.below0, start1.atStart⟩
end Jvm.Pilot.@@N@@
